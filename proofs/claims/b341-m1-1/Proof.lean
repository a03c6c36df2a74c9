import JvmDerived
import JvmDerived.Pilot.@@N@@Statement
import JvmDerived.Pilot.@@N@@Code
set_option linter.unusedVariables false
set_option linter.unusedSimpArgs false
@@BLOCK:NumsL.lean.txt@@
namespace Jvm.Pilot.@@N@@
open Jvm Jvm.ClassFile Sem Op Lib Jvm.Free Jvm.Stand Jvm.LawKit Jvm.RoadKit Bundle Jvm.Pilot.@@N@@.Jvm.D

section Kit
/-- The run goes on from the state T with the frame f on top and comes back to the caller, and Q holds of what it returned, of the heap and of the places written. -/
def Go (p : Program) (e : Env) (below : List Frame) (s : State) (R : Room) (Q : Option Value → Heap → List Loc → Prop) (T : State) (f : JFrame) : Prop :=
  ∃ s₂ o, Steps p.tables e below (T.setTop f) s₂ ∧ s₂.status = .running ∧ Ended s₂ below o ∧ ∃ v L, o = .returned v ∧ Q v s₂.heap L ∧ FrameEnd s o s₂ L R.cells R.slots
/-- a body's contract -/
def Met (l : Launch) (Z : State) (y : MethodName) (bytes : ByteArray) (maxL : Nat) (ret : Option FieldType) (ws : List Jvm.Cond) (rm : Room) (as : Array Value) (h0 : Heap) (Q : Option Value → Heap → List Loc → Prop) : Prop :=
  MetFree l y (head1 (Jvm.Cond.code y bytes maxL ret :: ws) rm) (fun a U => a = as ∧ Z.Warmed39 U.vm ∧ U.heap = h0) (fun _ _ _ _ _ => True) (fun _ U o U' => ∃ v L, o = .returned v ∧ Q v U'.heap L ∧ FrameEnd U o U' L rm.cells rm.slots)
theorem Met.mk {l : Launch} {Z : State} {y : MethodName} {bytes : ByteArray} {maxL : Nat} {ret : Option FieldType} {ws : List Jvm.Cond} {rm : Room} {as : Array Value} {h0 : Heap} {Q : Option Value → Heap → List Loc → Prop} (hp : plainFor y = true)
    (body : ∀ (p : Program) (e : Env) (s : State) (m : MethodId) (below : List Frame) (meth : Method) (c : Code) (T : State), p.tables.exec = Jvm.exec → c.code = bytes → c.maxLocals = maxL → s.vm.findClass y.cls = some m.cls → meth.name = y.name → meth.sig.returnType = ret → meth.locks = false → Z.Warmed39 s.vm →
      Stand p l e rm s m as below meth c T [] 0 0 → T.heap = h0 → Go p e below s rm Q T (entryFrame m as maxL)) : Met l Z y bytes maxL ret ws rm as h0 Q := by
  refine MetFree.of_bodySF hp hisR ?_
  intro p e s m args below meth c s₁ Bd hml0 hP hK
  obtain ⟨rfl, hZ, hh⟩ := hP
  exact body p e s m below meth c s₁ Bd.exec Bd.bytes hml0 (findClass_of_methodNamed Bd.named) (name_of_methodNamed Bd.named Bd.method).1 Bd.returns (BodyLoose.notSynchronized Bd) hZ (Stand.of_body Bd) (by rw [← hh, Bd.state]; rfl)
variable {p : Program} {l : Launch} {e : Env} {R : Room} {s : State} {m : MethodId} {args : Array Value} {below : List Frame} {meth : Method} {c : Code} {T T' : State} {locs : List Loc} {cells slots : Nat} {R' : Room} {Q : Option Value → Heap → List Loc → Prop} {f f' : JFrame} {Z : State} {a0 : Array Value} {h h' : Heap} {pc : Nat} {Ls : Array Slot} {rest : List Value}
theorem Go.of (h : ∀ t, Steps p.tables e below (T'.setTop f') t → Steps p.tables e below (T.setTop f) t) (g : Go p e below s R Q T' f') : Go p e below s R Q T f := by
  obtain ⟨s₂, o, h1, h2⟩ := g
  exact ⟨s₂, o, h _ h1, h2⟩
theorem Go.cast (q : f = f') (g : Go p e below s R Q T f') : Go p e below s R Q T f := q ▸ g
theorem Go.join {α : Type} (P : α → Prop) (fr : α → JFrame) (k : ∀ x, P x → Go p e below s R Q T (fr x)) (g : (∀ x, P x → Go p e below s R Q T (fr x)) → Go p e below s R Q T f) : Go p e below s R Q T f := g k
theorem Go.joinT {α : Type} (I : α → List Loc → Heap → Prop) (fr : α → JFrame) (k : ∀ x T' locs' h', Stand p l e R s m args below meth c T' locs' cells slots → T'.heap = h' → I x locs' h' → Go p e below s R' Q T' (fr x))
    (g : (∀ x T' locs' h', Stand p l e R s m args below meth c T' locs' cells slots → T'.heap = h' → I x locs' h' → Go p e below s R' Q T' (fr x)) → Go p e below s R' Q T f) : Go p e below s R' Q T f := g k
theorem Go.loop {α : Type} (μ : α → Nat) (I : α → List Loc → Heap → Prop) (fr : α → JFrame)
    (step : ∀ x T' locs' h', Stand p l e R s m args below meth c T' locs' cells slots → T'.heap = h' → I x locs' h' → (∀ y T'' locs'' h'', μ y < μ x → Stand p l e R s m args below meth c T'' locs'' cells slots → T''.heap = h'' → I y locs'' h'' → Go p e below s R' Q T'' (fr y)) → Go p e below s R' Q T' (fr x))
    (x : α) (X : Stand p l e R s m args below meth c T locs cells slots) (eT : T.heap = h) (hI : I x locs h) : Go p e below s R' Q T (fr x) := by
  obtain ⟨n, hn⟩ : ∃ n, μ x < n := ⟨_, Nat.lt_succ_self _⟩
  induction n generalizing x T locs h with
  | zero => exact absurd hn (Nat.not_lt_zero _)
  | succ n ih => exact step x T locs h X eT hI fun y T'' l'' h'' hy X'' e'' I'' => ih y X'' e'' I'' (by omega)
theorem Met.mono {y : MethodName} {bytes : ByteArray} {maxL : Nat} {ret : Option FieldType} {ws : List Jvm.Cond} {rm : Room} {as : Array Value} {h0 : Heap} {Q Q' : Option Value → Heap → List Loc → Prop} (M : Met l Z y bytes maxL ret ws rm as h0 Q) (q : ∀ v h L, Q v h L → Q' v h L) : Met l Z y bytes maxL ret ws rm as h0 Q' := by
  intro p e ha hc hk s m args below hf happ hP hK
  obtain ⟨n, o, h1, h2, h3, v, L, h4, h5, h6⟩ := M p e ha hc hk s m args below hf happ hP hK
  exact ⟨n, o, h1, h2, h3, v, L, h4, q _ _ _ h5, h6⟩
theorem Go.retW {g : JFrame} {v : Option Value} (X : Stand p l e R s m args below meth c T locs cells slots) (hv : meth.sig.returnType = none → v = none) (hlk : meth.locks = false) (hc : cells ≤ R'.cells) (hs : slots ≤ R'.slots) (q : Q v T.heap locs)
    (st : ∀ fs, (∀ (f : JFrame) (acts : List Action), f.method = m → f.locked = none → f.entered = [] → (doReturn e (T.setTop f) acts v).1 = T.setFrames fs) → Steps p.tables e below (T.setTop g) (T.setFrames fs)) : Go p e below s R' Q T g := by
  obtain ⟨fs, hr, hrun, hended, hW, hsame⟩ := X.leave (v := v) hv hlk
  exact ⟨_, _, st fs hr, hrun, hended, _, _, rfl, q, ⟨_, rfl⟩, hW, hsame.mono hc hs⟩
theorem Go.retI {z : Int32} (X : Stand p l e R s m args below meth c T locs cells slots) (hx : p.tables.exec = Jvm.exec) (hret : meth.sig.returnType = some .int) (hlk : meth.locks = false) (hd : decode c.code pc = .ok (.ireturn, 1)) (hc : cells ≤ R'.cells) (hs : slots ≤ R'.slots) (q : Q (some (.int z)) T.heap locs) :
    Go p e below s R' Q T (mkF m pc Ls (.int z :: rest)) :=
  Go.retW X (fun h => by rw [hret] at h; cases h) hlk hc hs q fun fs hr => retOut X hx hret rfl (Or.inl ⟨rfl, Or.inl rfl, z, rfl⟩) hd hr
theorem Go.retJ {z : Int64} (X : Stand p l e R s m args below meth c T locs cells slots) (hx : p.tables.exec = Jvm.exec) (hret : meth.sig.returnType = some .long) (hlk : meth.locks = false) (hd : decode c.code pc = .ok (.lreturn, 1)) (hc : cells ≤ R'.cells) (hs : slots ≤ R'.slots) (q : Q (some (.long z)) T.heap locs) :
    Go p e below s R' Q T (mkF m pc Ls (.long z :: rest)) :=
  Go.retW X (fun h => by rw [hret] at h; cases h) hlk hc hs q fun fs hr => retOut X hx hret rfl (Or.inr (Or.inl ⟨rfl, rfl, z, rfl⟩)) hd hr
theorem Go.retA {w : Value} {t : FieldType} (X : Stand p l e R s m args below meth c T locs cells slots) (hx : p.tables.exec = Jvm.exec) (hret : meth.sig.returnType = some t) (ht : t.isReference = true) (hw : w.isRef = true) (hn : narrow t w = w) (hlk : meth.locks = false) (hd : decode c.code pc = .ok (.areturn, 1)) (hc : cells ≤ R'.cells) (hs : slots ≤ R'.slots) (q : Q (some w) T.heap locs) :
    Go p e below s R' Q T (mkF m pc Ls (w :: rest)) :=
  Go.retW X (fun h => by rw [hret] at h; cases h) hlk hc hs q fun fs hr => retOut X hx hret hn (Or.inr (Or.inr (Or.inr (Or.inr ⟨rfl, ht, hw⟩)))) hd hr
theorem Go.retN {z : Int32} {t : FieldType} (X : Stand p l e R s m args below meth c T locs cells slots) (hx : p.tables.exec = Jvm.exec) (hret : meth.sig.returnType = some t) (ht : t = .boolean ∨ t = .byte ∨ t = .char ∨ t = .short) (hlk : meth.locks = false) (hd : decode c.code pc = .ok (.ireturn, 1)) (hc : cells ≤ R'.cells) (hs : slots ≤ R'.slots) (q : Q (some (.int (nar t z))) T.heap locs) :
    Go p e below s R' Q T (mkF m pc Ls (.int z :: rest)) :=
  Go.retW X (fun h => by rw [hret] at h; cases h) hlk hc hs q fun fs hr => RoadKit.retN X hx hret ht hd hr
theorem Go.retV (X : Stand p l e R s m args below meth c T locs cells slots) (hx : p.tables.exec = Jvm.exec) (hret : meth.sig.returnType = none) (hlk : meth.locks = false) (hd : decode c.code pc = .ok (.return_, 1)) (hc : cells ≤ R'.cells) (hs : slots ≤ R'.slots) (q : Q none T.heap locs) :
    Go p e below s R' Q T (mkF m pc Ls []) :=
  Go.retW X (fun _ => rfl) hlk hc hs q fun fs hr => X.returnOut hx hret hd hr
/-! fields -/
theorem Go.getF {own R0 O n d : String} {index : Nat} {a : Addr} {v : Value} (X : Stand p l e R s m args below meth c T locs cells slots) (hx : p.tables.exec = Jvm.exec) (hZ : Z.Warmed39 s.vm) (hown : s.vm.findClass own = some m.cls) (w : (Jvm.Cond.fieldLink own index R0 n d).before a0 Z = true) (via : Via Z R0 O n d) (eT : T.heap = h) (F : Fld Z h a O n d v)
    (hd : decode c.code pc = .ok (.getfield index, 3)) (k : ∀ T', Stand p l e R s m args below meth c T' locs cells slots → T'.heap = h → Go p e below s R' Q T' (mkF m (pc + 3) Ls (v :: rest))) : Go p e below s R' Q T (mkF m pc Ls (.ref a :: rest)) := by
  obtain ⟨T', X', e', st⟩ := RoadKit.getF X hx hZ hown (host := "") (Or.inl w) via eT F (g := mkF m pc Ls (.ref a :: rest)) rfl rfl hd
  exact Go.of st (k T' X' e')
theorem Go.getFN {own R0 O n d host : String} {index : Nat} {a : Addr} {v : Value} (X : Stand p l e R s m args below meth c T locs cells slots) (hx : p.tables.exec = Jvm.exec) (hZ : Z.Warmed39 s.vm) (hown : s.vm.findClass own = some m.cls) (w : (Jvm.Cond.fieldLinkNest own index R0 n d host).before a0 Z = true) (via : Via Z R0 O n d) (eT : T.heap = h) (F : Fld Z h a O n d v)
    (hd : decode c.code pc = .ok (.getfield index, 3)) (k : ∀ T', Stand p l e R s m args below meth c T' locs cells slots → T'.heap = h → Go p e below s R' Q T' (mkF m (pc + 3) Ls (v :: rest))) : Go p e below s R' Q T (mkF m pc Ls (.ref a :: rest)) := by
  obtain ⟨T', X', e', st⟩ := RoadKit.getF X hx hZ hown (Or.inr w) via eT F (g := mkF m pc Ls (.ref a :: rest)) rfl rfl hd
  exact Go.of st (k T' X' e')
theorem Go.putF {own R0 O n d C : String} {index kk : Nat} {ty : FieldType} {a : Addr} {v old : Value} (X : Stand p l e R s m args below meth c T locs cells slots) (hx : p.tables.exec = Jvm.exec) (hZ : Z.Warmed39 s.vm) (hown : s.vm.findClass own = some m.cls) (w : (Jvm.Cond.fieldLink own index R0 n d).before a0 Z = true) (via : Via Z R0 O n d) (eT : T.heap = h) (F : Fld Z h a O n d old)
    (E : Exa Z h a C) (L : (Jvm.Cond.lays C O n d).before a0 Z = true ∨ ((Jvm.Cond.laysFinal C O n d).before a0 Z = true ∧ own = O ∧ meth.name = "<init>")) (wi : (Jvm.Cond.instantiable C kk).before a0 Z = true) (hty : parseFieldDescriptor d = some ty) (hn : narrow ty v = v) (hf : fits ty v = true)
    (hd : decode c.code pc = .ok (.putfield index, 3)) (k : ∀ T' h', Stand p l e R s m args below meth c T' (locs ++ [⟨a, RoadKit.slotOf Z O n d⟩]) cells slots → T'.heap = h' → Wr h h' a (RoadKit.slotOf Z O n d) v → Go p e below s R' Q T' (mkF m (pc + 3) Ls rest)) : Go p e below s R' Q T (mkF m pc Ls (v :: .ref a :: rest)) := by
  obtain ⟨T', h', X', e', W, st⟩ := RoadKit.putF X hx hZ hown (host := "") (Or.inl w) via eT F E L wi hty hn hf (g := mkF m pc Ls (v :: .ref a :: rest)) rfl rfl hd
  exact Go.of st (k T' h' X' e' W)
theorem Go.putFN {own R0 O n d C : String} {index kk : Nat} {ty : FieldType} {a : Addr} {z : Int32} {old : Value} (X : Stand p l e R s m args below meth c T locs cells slots) (hx : p.tables.exec = Jvm.exec) (hZ : Z.Warmed39 s.vm) (hown : s.vm.findClass own = some m.cls) (w : (Jvm.Cond.fieldLink own index R0 n d).before a0 Z = true) (via : Via Z R0 O n d) (eT : T.heap = h) (F : Fld Z h a O n d old)
    (E : Exa Z h a C) (L : (Jvm.Cond.lays C O n d).before a0 Z = true ∨ ((Jvm.Cond.laysFinal C O n d).before a0 Z = true ∧ own = O ∧ meth.name = "<init>")) (wi : (Jvm.Cond.instantiable C kk).before a0 Z = true) (hty : parseFieldDescriptor d = some ty) (hn : narrow ty (.int z) = .int (nar ty z)) (hf : fits ty (.int (nar ty z)) = true)
    (hd : decode c.code pc = .ok (.putfield index, 3)) (k : ∀ T' h', Stand p l e R s m args below meth c T' (locs ++ [⟨a, RoadKit.slotOf Z O n d⟩]) cells slots → T'.heap = h' → Wr h h' a (RoadKit.slotOf Z O n d) (.int (nar ty z)) → Go p e below s R' Q T' (mkF m (pc + 3) Ls rest)) : Go p e below s R' Q T (mkF m pc Ls (.int z :: .ref a :: rest)) := by
  obtain ⟨T', h', X', e', W, st⟩ := RoadKit.putFN X hx hZ hown w via eT F E L wi hty hn hf (g := mkF m pc Ls (.int z :: .ref a :: rest)) rfl rfl hd
  exact Go.of st (k T' h' X' e' W)
/-! objects and arrays made -/
theorem Go.newO {own C : String} {index n : Nat} (X : Stand p l e R s m args below meth c T locs cells slots) (hx : p.tables.exec = Jvm.exec) (hZ : Z.Warmed39 s.vm) (hown : s.vm.findClass own = some m.cls) (w : (Jvm.Cond.classLink own index C).before a0 Z = true) (wi : (Jvm.Cond.instantiable C n).before a0 Z = true) (wz : (Jvm.Cond.initialized C).before a0 Z = true) (eT : T.heap = h)
    (hd : decode c.code pc = .ok (.new index, 3)) (hc : cells + 1 ≤ R.cells) (hl : slots + n ≤ R.slots)
    (k : ∀ T' h' a, Stand p l e R s m args below meth c T' locs (cells + 1) (slots + n) → T'.heap = h' → Ext h h' → a = h.size → Exa Z h' a C → (∀ {O nm d : String} {ty : FieldType}, Laid Z a0 C O nm d → parseFieldDescriptor d = some ty → Fld Z h' a O nm d (defaultValue ty)) → Go p e below s R' Q T' (mkF m (pc + 3) Ls (.ref a :: rest))) : Go p e below s R' Q T (mkF m pc Ls rest) := by
  obtain ⟨T', h', X', e', E, A, D, -, st⟩ := RoadKit.newO X hx hZ hown w wi wz eT (g := mkF m pc Ls rest) rfl hd hc hl
  exact Go.of st (k T' h' _ X' e' E rfl A D)
/-- an array: its kind, its length, what each place holds -/
def AV (Z : State) (h : Heap) (a : Addr) (ty : FieldType) (n : Nat) (f : Nat → Value) : Prop := ∃ cl : Cell, Arr Z h a cl ty ∧ cl.slots.size = n ∧ ∀ j, j < n → cl.slots[j]? = some (f j)
def upd (f : Nat → Value) (j : Nat) (v : Value) : Nat → Value := fun i => if i = j then v else f i
def Inb (j : Int32) (n : Nat) : Prop := ¬ j < 0 ∧ j.toNatClampNeg < n
theorem upd_same (f : Nat → Value) (j : Nat) (v : Value) : upd f j v j = v := by simp [upd]
theorem upd_ne (f : Nat → Value) {i j : Nat} (v : Value) (hn : i ≠ j) : upd f j v i = f i := by simp [upd, hn]
theorem AV.lt {a : Addr} {ty : FieldType} {n : Nat} {f : Nat → Value} (V : AV Z h a ty n f) : a < h.size := by obtain ⟨cl, A, -⟩ := V; exact A.lt
theorem AV.ext {a : Addr} {ty : FieldType} {n : Nat} {f : Nat → Value} (V : AV Z h a ty n f) (E : Ext h h') : AV Z h' a ty n f := by obtain ⟨cl, A, r⟩ := V; exact ⟨cl, A.ext E, r⟩
theorem AV.other {a b : Addr} {ty : FieldType} {n : Nat} {f : Nat → Value} {sl : Nat} {v : Value} (V : AV Z h b ty n f) (W : Wr h h' a sl v) (q : b ≠ a) : AV Z h' b ty n f := by obtain ⟨cl, A, r⟩ := V; exact ⟨cl, A.other W q, r⟩
theorem AV.keep {a : Addr} {ty : FieldType} {n : Nat} {f : Nat → Value} {ws : List Addr} (V : AV Z h a ty n f) (K : Keep h h' ws) (q : a ∉ ws) : AV Z h' a ty n f := by obtain ⟨cl, A, r⟩ := V; exact ⟨cl, ⟨K.2.1 a cl A.1 q, A.2⟩, r⟩
theorem AV.set {a : Addr} {ty : FieldType} {n : Nat} {f : Nat → Value} {j : Nat} {v : Value} (V : AV Z h a ty n f) (W : Wr h h' a j v) (hj : j < n) : AV Z h' a ty n (upd f j v) := by
  obtain ⟨cl, A, S, H⟩ := V
  refine ⟨cl.setSlot j v, A.same W, by rw [sz_set]; exact S, fun i hi => ?_⟩
  by_cases q : i = j
  · subst q; simp [upd, Cell.setSlot, S, hj]
  · rw [upd_ne f v q, ← H i hi]; exact Array.getElem?_setIfInBounds_ne (Ne.symm q)
def updJ (f : Nat → Int64) (n : Nat) (q : Int64) : Nat → Int64 := fun j => if j = n then q else f j
def updI (f : Nat → Int32) (n : Nat) (q : Int32) : Nat → Int32 := fun j => if j = n then q else f j
theorem AV.setJ {a : Addr} {ty : FieldType} {n : Nat} {f : Nat → Int64} {j : Nat} {q : Int64} (V : AV Z h a ty n (fun i => .long (f i))) (W : Wr h h' a j (.long q)) (hj : j < n) : AV Z h' a ty n (fun i => .long (updJ f j q i)) := by
  have r := V.set W hj
  have e : upd (fun i => .long (f i)) j (.long q) = fun i => .long (updJ f j q i) := by funext i; unfold upd updJ; split <;> rfl
  rw [← e]; exact r
theorem AV.setI {a : Addr} {ty : FieldType} {n : Nat} {f : Nat → Int32} {j : Nat} {q : Int32} (V : AV Z h a ty n (fun i => .int (f i))) (W : Wr h h' a j (.int q)) (hj : j < n) : AV Z h' a ty n (fun i => .int (updI f j q i)) := by
  have r := V.set W hj
  have e : upd (fun i => .int (f i)) j (.int q) = fun i => .int (updI f j q i) := by funext i; unfold upd updI; split <;> rfl
  rw [← e]; exact r
def updD (f : Nat → UInt64) (n : Nat) (q : UInt64) : Nat → UInt64 := fun j => if j = n then q else f j
theorem AV.setD {a : Addr} {ty : FieldType} {n : Nat} {f : Nat → UInt64} {j : Nat} {q : UInt64} (V : AV Z h a ty n (fun i => .double (f i))) (W : Wr h h' a j (.double q)) (hj : j < n) : AV Z h' a ty n (fun i => .double (updD f j q i)) := by
  have r := V.set W hj
  have e : upd (fun i => .double (f i)) j (.double q) = fun i => .double (updD f j q i) := by funext i; unfold upd updD; split <;> rfl
  rw [← e]; exact r
theorem AV.congr {a : Addr} {ty : FieldType} {n : Nat} {f g : Nat → Value} (V : AV Z h a ty n f) (q : ∀ j, j < n → f j = g j) : AV Z h a ty n g := by
  obtain ⟨cl, A, S, H⟩ := V; exact ⟨cl, A, S, fun j hj => by rw [← q j hj]; exact H j hj⟩
theorem AV.new {a : Addr} {ty : FieldType} {cA : ClassId} {z : Int32} (A : Arr Z h a (newA cA ty z) ty) : AV Z h a ty z.toNatClampNeg (fun _ => defaultValue ty) :=
  ⟨_, A, sz_new _ _ _, fun j hj => by simp [newA, hj]⟩
theorem Inb.not {j : Int32} {n : Nat} (i : Inb j n) {k : Nat} (hk : k = n) : ¬ (j < 0 ∨ k ≤ j.toNatClampNeg) := fun q => q.elim i.1 (fun r => absurd i.2 (by omega))
theorem Go.newP {aty : ArrayType} {n : Int32} (X : Stand p l e R s m args below meth c T locs cells slots) (hx : p.tables.exec = Jvm.exec) (hZ : Z.Warmed39 s.vm) (w : (Jvm.Cond.arrayClass (newarray.typeOf aty)).before a0 Z = true) (eT : T.heap = h) (hd : decode c.code pc = .ok (.newarray aty, 2)) (hn : ¬ n < 0) (cap : Nat) (hcap : n.toNatClampNeg ≤ cap) (hb : cap * 8 ≤ 536870912) (hc : cells + 1 ≤ R.cells) (hl : slots + cap ≤ R.slots)
    (k : ∀ T' h' a, Stand p l e R s m args below meth c T' locs (cells + 1) (slots + cap) → T'.heap = h' → Ext h h' → a = h.size → AV Z h' a (newarray.typeOf aty) n.toNatClampNeg (fun _ => defaultValue (newarray.typeOf aty)) → Go p e below s R' Q T' (mkF m (pc + 2) Ls (.ref a :: rest))) : Go p e below s R' Q T (mkF m pc Ls (.int n :: rest)) := by
  obtain ⟨T', h', cA, X', e', E, A, st⟩ := RoadKit.newP X hx hZ w eT (g := mkF m pc Ls (.int n :: rest)) rfl hd rfl hn hcap hb hc hl
  exact Go.of st (k T' h' _ X' e' E rfl (AV.new A))
theorem Go.stI {a : Addr} {n : Nat} {g : Nat → Value} {j x : Int32} (X : Stand p l e R s m args below meth c T locs cells slots) (hx : p.tables.exec = Jvm.exec) (hZ : Z.Warmed39 s.vm) (eT : T.heap = h) (V : AV Z h a .int n g) (hj : Inb j n) (hd : decode c.code pc = .ok (.iastore, 1))
    (k : ∀ T' h', Stand p l e R s m args below meth c T' (locs ++ [⟨a, j.toNatClampNeg⟩]) cells slots → T'.heap = h' → Wr h h' a j.toNatClampNeg (.int x) → Go p e below s R' Q T' (mkF m (pc + 1) Ls rest)) : Go p e below s R' Q T (mkF m pc Ls (.int x :: .int j :: .ref a :: rest)) := by
  obtain ⟨cl, A, S, H⟩ := V
  obtain ⟨T', h', X', e', W, st⟩ := RoadKit.stI X hx hZ eT A (x := x) (hj.not S) (g := mkF m pc Ls (.int x :: .int j :: .ref a :: rest)) rfl rfl hd
  exact Go.of st (k T' h' X' e' W)
theorem Go.stJ {a : Addr} {n : Nat} {g : Nat → Value} {j : Int32} {x : Int64} (X : Stand p l e R s m args below meth c T locs cells slots) (hx : p.tables.exec = Jvm.exec) (hZ : Z.Warmed39 s.vm) (eT : T.heap = h) (V : AV Z h a .long n g) (hj : Inb j n) (hd : decode c.code pc = .ok (.lastore, 1))
    (k : ∀ T' h', Stand p l e R s m args below meth c T' (locs ++ [⟨a, j.toNatClampNeg⟩]) cells slots → T'.heap = h' → Wr h h' a j.toNatClampNeg (.long x) → Go p e below s R' Q T' (mkF m (pc + 1) Ls rest)) : Go p e below s R' Q T (mkF m pc Ls (.long x :: .int j :: .ref a :: rest)) := by
  obtain ⟨cl, A, S, H⟩ := V
  obtain ⟨T', h', X', e', W, st⟩ := RoadKit.stJ X hx hZ eT A (x := x) (hj.not S) (g := mkF m pc Ls (.long x :: .int j :: .ref a :: rest)) rfl rfl hd
  exact Go.of st (k T' h' X' e' W)
theorem Go.stC {a : Addr} {n : Nat} {g : Nat → Value} {j x : Int32} (X : Stand p l e R s m args below meth c T locs cells slots) (hx : p.tables.exec = Jvm.exec) (hZ : Z.Warmed39 s.vm) (eT : T.heap = h) (V : AV Z h a .char n g) (hj : Inb j n) (hd : decode c.code pc = .ok (.castore, 1))
    (k : ∀ T' h', Stand p l e R s m args below meth c T' (locs ++ [⟨a, j.toNatClampNeg⟩]) cells slots → T'.heap = h' → Wr h h' a j.toNatClampNeg (.int (nar .char x)) → Go p e below s R' Q T' (mkF m (pc + 1) Ls rest)) : Go p e below s R' Q T (mkF m pc Ls (.int x :: .int j :: .ref a :: rest)) := by
  obtain ⟨cl, A, S, H⟩ := V
  obtain ⟨T', h', X', e', W, st⟩ := RoadKit.stC X hx hZ eT A (x := x) (hj.not S) (g := mkF m pc Ls (.int x :: .int j :: .ref a :: rest)) rfl rfl hd
  exact Go.of st (k T' h' X' e' W)
theorem Go.stB {a : Addr} {n : Nat} {g : Nat → Value} {j x : Int32} (X : Stand p l e R s m args below meth c T locs cells slots) (hx : p.tables.exec = Jvm.exec) (hZ : Z.Warmed39 s.vm) (eT : T.heap = h) (V : AV Z h a .byte n g) (hj : Inb j n) (hd : decode c.code pc = .ok (.bastore, 1))
    (k : ∀ T' h', Stand p l e R s m args below meth c T' (locs ++ [⟨a, j.toNatClampNeg⟩]) cells slots → T'.heap = h' → Wr h h' a j.toNatClampNeg (.int (nar .byte x)) → Go p e below s R' Q T' (mkF m (pc + 1) Ls rest)) : Go p e below s R' Q T (mkF m pc Ls (.int x :: .int j :: .ref a :: rest)) := by
  obtain ⟨cl, A, S, H⟩ := V
  obtain ⟨T', h', X', e', W, st⟩ := RoadKit.stB X hx hZ eT A (x := x) (hj.not S) (g := mkF m pc Ls (.int x :: .int j :: .ref a :: rest)) rfl rfl hd
  exact Go.of st (k T' h' X' e' W)
theorem Go.stD {a : Addr} {n : Nat} {g : Nat → Value} {j : Int32} {x : UInt64} (X : Stand p l e R s m args below meth c T locs cells slots) (hx : p.tables.exec = Jvm.exec) (hZ : Z.Warmed39 s.vm) (eT : T.heap = h) (V : AV Z h a .double n g) (hj : Inb j n) (hd : decode c.code pc = .ok (.dastore, 1))
    (k : ∀ T' h', Stand p l e R s m args below meth c T' (locs ++ [⟨a, j.toNatClampNeg⟩]) cells slots → T'.heap = h' → Wr h h' a j.toNatClampNeg (.double x) → Go p e below s R' Q T' (mkF m (pc + 1) Ls rest)) : Go p e below s R' Q T (mkF m pc Ls (.double x :: .int j :: .ref a :: rest)) := by
  obtain ⟨cl, A, S, H⟩ := V
  obtain ⟨T', h', X', e', W, st⟩ := RoadKit.stD X hx hZ eT A (x := x) (hj.not S) (g := mkF m pc Ls (.double x :: .int j :: .ref a :: rest)) rfl rfl hd
  exact Go.of st (k T' h' X' e' W)
theorem Go.ldD {a : Addr} {n : Nat} {g : Nat → Value} {j : Int32} (v : Value) (X : Stand p l e R s m args below meth c T locs cells slots) (hx : p.tables.exec = Jvm.exec) (hZ : Z.Warmed39 s.vm) (eT : T.heap = h) (V : AV Z h a .double n g) (hj : Inb j n) (hv : g j.toNatClampNeg = v) (hd : decode c.code pc = .ok (.daload, 1))
    (k : Go p e below s R' Q T (mkF m (pc + 1) Ls (v :: rest))) : Go p e below s R' Q T (mkF m pc Ls (.int j :: .ref a :: rest)) := by
  obtain ⟨cl, A, S, H⟩ := V
  exact Go.of (X.daload hx (by rw [eT]; exact A.1) (State.isArrayOf_alike hZ.alike A.2.1) A.2.2 (hj.not S) ((H _ hj.2).trans (by rw [hv])) (g := mkF m pc Ls (.int j :: .ref a :: rest)) rfl rfl hd) k
theorem Go.ldI {a : Addr} {n : Nat} {g : Nat → Value} {j : Int32} (v : Value) (X : Stand p l e R s m args below meth c T locs cells slots) (hx : p.tables.exec = Jvm.exec) (hZ : Z.Warmed39 s.vm) (eT : T.heap = h) (V : AV Z h a .int n g) (hj : Inb j n) (hv : g j.toNatClampNeg = v) (hd : decode c.code pc = .ok (.iaload, 1))
    (k : Go p e below s R' Q T (mkF m (pc + 1) Ls (v :: rest))) : Go p e below s R' Q T (mkF m pc Ls (.int j :: .ref a :: rest)) := by
  obtain ⟨cl, A, S, H⟩ := V
  exact Go.of (X.iaload hx (by rw [eT]; exact A.1) (State.isArrayOf_alike hZ.alike A.2.1) A.2.2 (hj.not S) ((H _ hj.2).trans (by rw [hv])) (g := mkF m pc Ls (.int j :: .ref a :: rest)) rfl rfl hd) k
theorem Go.ldJ {a : Addr} {n : Nat} {g : Nat → Value} {j : Int32} (v : Value) (X : Stand p l e R s m args below meth c T locs cells slots) (hx : p.tables.exec = Jvm.exec) (hZ : Z.Warmed39 s.vm) (eT : T.heap = h) (V : AV Z h a .long n g) (hj : Inb j n) (hv : g j.toNatClampNeg = v) (hd : decode c.code pc = .ok (.laload, 1))
    (k : Go p e below s R' Q T (mkF m (pc + 1) Ls (v :: rest))) : Go p e below s R' Q T (mkF m pc Ls (.int j :: .ref a :: rest)) := by
  obtain ⟨cl, A, S, H⟩ := V
  exact Go.of (X.laload hx (by rw [eT]; exact A.1) (State.isArrayOf_alike hZ.alike A.2.1) A.2.2 (hj.not S) ((H _ hj.2).trans (by rw [hv])) (g := mkF m pc Ls (.int j :: .ref a :: rest)) rfl rfl hd) k
theorem Go.ldC {a : Addr} {n : Nat} {g : Nat → Value} {j : Int32} (v : Value) (X : Stand p l e R s m args below meth c T locs cells slots) (hx : p.tables.exec = Jvm.exec) (hZ : Z.Warmed39 s.vm) (eT : T.heap = h) (V : AV Z h a .char n g) (hj : Inb j n) (hv : g j.toNatClampNeg = v) (hd : decode c.code pc = .ok (.caload, 1))
    (k : Go p e below s R' Q T (mkF m (pc + 1) Ls (v :: rest))) : Go p e below s R' Q T (mkF m pc Ls (.int j :: .ref a :: rest)) := by
  obtain ⟨cl, A, S, H⟩ := V
  exact Go.of (X.caload hx (by rw [eT]; exact A.1) (State.isArrayOf_alike hZ.alike A.2.1) A.2.2 (hj.not S) ((H _ hj.2).trans (by rw [hv])) (g := mkF m pc Ls (.int j :: .ref a :: rest)) rfl rfl hd) k
theorem Go.ldB {a : Addr} {n : Nat} {g : Nat → Value} {j : Int32} (v : Value) (X : Stand p l e R s m args below meth c T locs cells slots) (hx : p.tables.exec = Jvm.exec) (hZ : Z.Warmed39 s.vm) (eT : T.heap = h) (V : AV Z h a .byte n g) (hj : Inb j n) (hv : g j.toNatClampNeg = v) (hd : decode c.code pc = .ok (.baload, 1))
    (k : Go p e below s R' Q T (mkF m (pc + 1) Ls (v :: rest))) : Go p e below s R' Q T (mkF m pc Ls (.int j :: .ref a :: rest)) := by
  obtain ⟨cl, A, S, H⟩ := V
  exact Go.of (X.baloadBytes hx (by rw [eT]; exact A.1) (State.isArrayOf_alike hZ.alike A.2.1) A.2.2 (hj.not S) ((H _ hj.2).trans (by rw [hv])) (g := mkF m pc Ls (.int j :: .ref a :: rest)) rfl rfl hd) k
theorem Go.alen {a : Addr} {n : Nat} {ty : FieldType} {g : Nat → Value} (z : Int32) (X : Stand p l e R s m args below meth c T locs cells slots) (hx : p.tables.exec = Jvm.exec) (hZ : Z.Warmed39 s.vm) (eT : T.heap = h) (V : AV Z h a ty n g) (hz : n.toInt32 = z) (hd : decode c.code pc = .ok (.arraylength, 1))
    (k : Go p e below s R' Q T (mkF m (pc + 1) Ls (.int z :: rest))) : Go p e below s R' Q T (mkF m pc Ls (.ref a :: rest)) := by
  obtain ⟨cl, A, S, H⟩ := V
  refine Go.of (X.arraylength hx (by rw [eT]; exact A.1) (State.isArrayOf_alike hZ.alike A.2.1) (g := mkF m pc Ls (.ref a :: rest)) rfl rfl hd) ?_
  rw [S, hz]; exact k
/-! calls -/
theorem Go.initO {own : String} {idx : Nat} {a : Addr} (X : Stand p l e R s m args below meth c T locs cells slots) (hx : p.tables.exec = Jvm.exec) (hZ : Z.Warmed39 s.vm) (hown : s.vm.findClass own = some m.cls) (w1 : (Jvm.Cond.methodLink own idx Lib.objectInit).before a0 Z = true) (w2 : (Jvm.Cond.instanceMethod Lib.objectInit).before a0 Z = true) (w3 : (Jvm.Cond.code Lib.objectInit ⟨#[0xb1]⟩ 1 none).before a0 Z = true) (eT : T.heap = h)
    (hsz : Ls.size = c.maxLocals) (hd : decode c.code pc = .ok (.invokespecial idx, 3)) (hf : 1 ≤ R.frames) (W : Nat) (hW : (rest.map fun v => v.category).sum ≤ W) (hl : W + 12 ≤ R.locals) (k : ∀ T', Stand p l e R s m args below meth c T' locs cells slots → T'.heap = h → Go p e below s R' Q T' (mkF m (pc + 3) Ls rest)) : Go p e below s R' Q T (mkF m pc Ls (.ref a :: rest)) := by
  obtain ⟨T', X', e', st⟩ := RoadKit.initO X hx hZ hown w1 w2 w3 eT (g := mkF m pc Ls (.ref a :: rest)) rfl hsz rfl hd hf (W := W) (by show 2 * 0 + _ ≤ _; omega) hl
  exact Go.of st (k T' X' e')
theorem Go.static {own : String} {index : Nat} {y : MethodName} {bytes : ByteArray} {maxL : Nat} {ret : Option FieldType} {rm : Room} {as : Array Value} {Qc : Option Value → Heap → List Loc → Prop} (X : Stand p l e R s m args below meth c T locs cells slots) (hx : p.tables.exec = Jvm.exec) (hZ : Z.Warmed39 s.vm) (hown : s.vm.findClass own = some m.cls)
    (w1 : (Jvm.Cond.methodLink own index y).before a0 Z = true) (w2 : (Jvm.Cond.static y).before a0 Z = true) (w3 : (Jvm.Cond.initialized y.cls).before a0 Z = true) (w4 : (Jvm.Cond.code y bytes maxL ret).before a0 Z = true) (hy : y.cls ≠ "java/lang/invoke/MethodHandle" ∧ y.cls ≠ "java/lang/invoke/VarHandle")
    (M : Met l Z y bytes maxL ret [] rm as h Qc) (eT : T.heap = h) (W : Nat) (hf : rm.frames + 1 ≤ R.frames) (hl : W + (maxL + 11) + rm.locals ≤ R.locals) (hc : cells + rm.cells ≤ R.cells) (hs : slots + rm.slots ≤ R.slots) (hsz : Ls.size = c.maxLocals) {st argsL : List Value} (rest : List Value) (hlen : ∀ sig, parseMethodDescriptor y.desc = some sig → argsL.length = sig.parameters.length)
    (has : argsL.toArray = as) (hst : st = argsL.reverse ++ rest) (hW : (rest.map fun v => v.category).sum ≤ W) (hd : decode c.code pc = .ok (.invokestatic index, 3))
    (k : ∀ v T' L', Stand p l e R s m args below meth c T' (locs ++ L') (cells + rm.cells) (slots + rm.slots) → Qc v T'.heap L' → Go p e below s R' Q T' (mkF m (pc + 3) Ls (v.toList ++ rest))) : Go p e below s R' Q T (mkF m pc Ls st) := by
  obtain ⟨v, _, ⟨T1, L1, k1, n1⟩, -, X1, ⟨Lc, hQ, l1, y1, z1⟩, stp⟩ := Jvm.LawKit.callS X hx (y := y) hown (mvT hZ w1) (mvT hZ w2) (mvT hZ w3) (mvT hZ w4) hy (backOf (W := W) M hZ w4 w3 hf hl) (g := mkF m pc Ls st) rfl hsz (argsL := argsL) (rest := rest) hlen hst (by show 2 * 0 + _ ≤ _; omega) hd (fun _ _ => ⟨has, eT, hc, hs⟩)
  dsimp only [Pt.U, Pt.locs, Pt.cells, Pt.slots] at X1 l1 y1 z1 stp hQ
  subst l1 y1 z1
  exact Go.of stp (k v T1 Lc X1 hQ)
theorem Go.special {own : String} {index : Nat} {y : MethodName} {bytes : ByteArray} {maxL : Nat} {rm : Room} {as : Array Value} {a : Addr} {Qc : Option Value → Heap → List Loc → Prop} (X : Stand p l e R s m args below meth c T locs cells slots) (hx : p.tables.exec = Jvm.exec) (hZ : Z.Warmed39 s.vm) (hown : s.vm.findClass own = some m.cls) (hy1 : y.name = "<init>")
    (w1 : (Jvm.Cond.methodLink own index y).before a0 Z = true) (w2 : (Jvm.Cond.instanceMethod y).before a0 Z = true) (w3 : (Jvm.Cond.initialized y.cls).before a0 Z = true) (w4 : (Jvm.Cond.code y bytes maxL none).before a0 Z = true) (hy : y.cls ≠ "java/lang/invoke/MethodHandle" ∧ y.cls ≠ "java/lang/invoke/VarHandle")
    (M : Met l Z y bytes maxL none [] rm as h Qc) (eT : T.heap = h) (W : Nat) (hf : rm.frames + 1 ≤ R.frames) (hl : W + (maxL + 11) + rm.locals ≤ R.locals) (hc : cells + rm.cells ≤ R.cells) (hs : slots + rm.slots ≤ R.slots) (hsz : Ls.size = c.maxLocals) {st argsL : List Value} (rest : List Value) (hlen : ∀ sig, parseMethodDescriptor y.desc = some sig → argsL.length = sig.parameters.length)
    (has : (.ref a :: argsL : List Value).toArray = as) (hst : st = argsL.reverse ++ .ref a :: rest) (hW : (rest.map fun v => v.category).sum ≤ W) (hd : decode c.code pc = .ok (.invokespecial index, 3))
    (k : ∀ v T' L', Stand p l e R s m args below meth c T' (locs ++ L') (cells + rm.cells) (slots + rm.slots) → Qc v T'.heap L' → Go p e below s R' Q T' (mkF m (pc + 3) Ls (v.toList ++ rest))) : Go p e below s R' Q T (mkF m pc Ls st) := by
  obtain ⟨v, _, ⟨T1, L1, k1, n1⟩, -, X1, ⟨Lc, hQ, l1, y1, z1⟩, stp⟩ := X.specialBack hx (y := y) hy1 hown (mvT hZ w1) (mvT hZ w2) (mvT hZ w4) hy (backOf (W := W) M hZ w4 w3 hf hl) (g := mkF m pc Ls st) rfl hsz (Steps.refl _) (a := a) (argsL := argsL) (rest := rest) hlen hst (by show 2 * 0 + _ ≤ _; omega) hd (fun _ _ => ⟨has, eT, hc, hs⟩)
  dsimp only [Pt.U, Pt.locs, Pt.cells, Pt.slots] at X1 l1 y1 z1 stp hQ
  subst l1 y1 z1
  exact Go.of (fun _ q => stp.trans q) (k v T1 Lc X1 hQ)
theorem Go.virtual {own C : String} {index : Nat} {y z : MethodName} {bytes : ByteArray} {maxL : Nat} {ret : Option FieldType} {rm : Room} {as : Array Value} {a : Addr} {Qc : Option Value → Heap → List Loc → Prop} (X : Stand p l e R s m args below meth c T locs cells slots) (hx : p.tables.exec = Jvm.exec) (hZ : Z.Warmed39 s.vm) (hown : s.vm.findClass own = some m.cls)
    (w1 : (Jvm.Cond.methodLink own index y).before a0 Z = true) (w2 : (Jvm.Cond.declares y).before a0 Z = true) (nf : NotFace s y) (ws : (Jvm.Cond.selects C y z).before a0 Z = true) (wi : (Jvm.Cond.instanceMethod z).before a0 Z = true) (w3 : (Jvm.Cond.initialized z.cls).before a0 Z = true) (w4 : (Jvm.Cond.code z bytes maxL ret).before a0 Z = true) (hy : y.cls ≠ "java/lang/invoke/MethodHandle" ∧ y.cls ≠ "java/lang/invoke/VarHandle")
    (M : Met l Z z bytes maxL ret [] rm as h Qc) (eT : T.heap = h) (E : Exa Z h a C) (W : Nat) (hf : rm.frames + 1 ≤ R.frames) (hl : W + (maxL + 11) + rm.locals ≤ R.locals) (hc : cells + rm.cells ≤ R.cells) (hs : slots + rm.slots ≤ R.slots) (hsz : Ls.size = c.maxLocals) {st argsL : List Value} (rest : List Value) (hlen : ∀ sig, parseMethodDescriptor y.desc = some sig → argsL.length = sig.parameters.length)
    (has : (.ref a :: argsL : List Value).toArray = as) (hst : st = argsL.reverse ++ .ref a :: rest) (hW : (rest.map fun v => v.category).sum ≤ W) (hd : decode c.code pc = .ok (.invokevirtual index, 3))
    (k : ∀ v T' L', Stand p l e R s m args below meth c T' (locs ++ L') (cells + rm.cells) (slots + rm.slots) → Qc v T'.heap L' → Go p e below s R' Q T' (mkF m (pc + 3) Ls (v.toList ++ rest))) : Go p e below s R' Q T (mkF m pc Ls st) := by
  obtain ⟨cq, kq, qa, qb, qc⟩ := isOf hZ eT E
  obtain ⟨v, _, ⟨T1, L1, k1, n1⟩, -, X1, ⟨Lc, hQ, l1, y1, z1⟩, stp⟩ := X.virtualBack hx (y := y) (z := z) hown (mvT hZ w1) (mvT hZ w2) nf (mvT hZ ws) (mvT hZ wi) hy (backOf (W := W) M hZ w4 w3 hf hl) qa qc (g := mkF m pc Ls st) rfl hsz (Steps.refl _) (argsL := argsL) (rest := rest) hlen hst (by show 2 * 0 + _ ≤ _; omega) hd (fun _ _ => ⟨has, eT, hc, hs⟩)
  dsimp only [Pt.U, Pt.locs, Pt.cells, Pt.slots] at X1 l1 y1 z1 stp hQ
  subst l1 y1 z1
  exact Go.of (fun _ q => stp.trans q) (k v T1 Lc X1 hQ)
theorem Go.priv {own C : String} {index : Nat} {y : MethodName} {bytes : ByteArray} {maxL : Nat} {ret : Option FieldType} {rm : Room} {as : Array Value} {a : Addr} {Qc : Option Value → Heap → List Loc → Prop} (X : Stand p l e R s m args below meth c T locs cells slots) (hx : p.tables.exec = Jvm.exec) (hZ : Z.Warmed39 s.vm) (hown : s.vm.findClass own = some m.cls)
    (w1 : (Jvm.Cond.methodLink own index y).before a0 Z = true) (wi : (Jvm.Cond.instanceMethod y).before a0 Z = true) {kk : Nat} (wk : (Jvm.Cond.instantiable y.cls kk).before a0 Z = true) (wp : (Jvm.Cond.privateMethod y).before a0 Z = true) (w3 : (Jvm.Cond.initialized y.cls).before a0 Z = true) (w4 : (Jvm.Cond.code y bytes maxL ret).before a0 Z = true) (hy : y.cls ≠ "java/lang/invoke/MethodHandle" ∧ y.cls ≠ "java/lang/invoke/VarHandle")
    (M : Met l Z y bytes maxL ret [] rm as h Qc) (eT : T.heap = h) (E : Exa Z h a C) (W : Nat) (hf : rm.frames + 1 ≤ R.frames) (hl : W + (maxL + 11) + rm.locals ≤ R.locals) (hc : cells + rm.cells ≤ R.cells) (hs : slots + rm.slots ≤ R.slots) (hsz : Ls.size = c.maxLocals) {st argsL : List Value} (rest : List Value) (hlen : ∀ sig, parseMethodDescriptor y.desc = some sig → argsL.length = sig.parameters.length)
    (has : (.ref a :: argsL : List Value).toArray = as) (hst : st = argsL.reverse ++ .ref a :: rest) (hW : (rest.map fun v => v.category).sum ≤ W) (hd : decode c.code pc = .ok (.invokevirtual index, 3))
    (k : ∀ v T' L', Stand p l e R s m args below meth c T' (locs ++ L') (cells + rm.cells) (slots + rm.slots) → Qc v T'.heap L' → Go p e below s R' Q T' (mkF m (pc + 3) Ls (v.toList ++ rest))) : Go p e below s R' Q T (mkF m pc Ls st) := by
  obtain ⟨cq, qa, qb⟩ := E.cell
  have hp : s.PrivateAt y := Cond.privateMethod_at (mvP hZ wp (args := #[]))
  obtain ⟨ci, ki, i1, i2, -, i4, -⟩ := Cond.instantiable_spec (show (Jvm.Cond.instantiable y.cls kk).before args s = true from mvT hZ wk)
  have hsel : (Jvm.Cond.selects y.cls y y).before args s = true := selects_self_of_private i1 i2 (by revert i4; cases ki.isInterface <;> simp) hp (mvT hZ wi) hy
  obtain ⟨v, _, ⟨T1, L1, k1, n1⟩, -, X1, ⟨Lc, hQ, l1, y1, z1⟩, stp⟩ := X.privateBack hx (y := y) hown (mvT hZ w1) (mvT hZ wi) hsel hp (mvT hZ w4) hy (backOf (W := W) M hZ w4 w3 hf hl) (g := mkF m pc Ls st) rfl hsz (Steps.refl _) (a := a) (by rw [eT]; exact qa) qb (argsL := argsL) (rest := rest) hlen hst (by show 2 * 0 + _ ≤ _; omega) hd (fun _ _ => ⟨has, eT, hc, hs⟩)
  dsimp only [Pt.U, Pt.locs, Pt.cells, Pt.slots] at X1 l1 y1 z1 stp hQ
  subst l1 y1 z1
  exact Go.of (fun _ q => stp.trans q) (k v T1 Lc X1 hQ)
/-! conditions -/
theorem cZlt {x y : Int64} (q : x < y) : ifCond.holds .lt (lcmpW x y) = true ∧ ifCond.holds .ge (lcmpW x y) = false := ⟨(if0 _ _).trans (tlt ((lw_lt x y).mpr q)).1, (if0 _ _).trans (tlt ((lw_lt x y).mpr q)).2.1⟩
theorem cFlt {x y : Int64} (q : ¬ x < y) : ifCond.holds .lt (lcmpW x y) = false ∧ ifCond.holds .ge (lcmpW x y) = true := ⟨(if0 _ _).trans (flt (fun r => q ((lw_lt x y).mp r))).1, (if0 _ _).trans (flt (fun r => q ((lw_lt x y).mp r))).2.1⟩
theorem cZgt {x y : Int64} (q : y < x) : ifCond.holds .gt (lcmpW x y) = true ∧ ifCond.holds .le (lcmpW x y) = false := ⟨(if0 _ _).trans (tlt ((lw_gt x y).mpr q)).2.2.1, (if0 _ _).trans (tlt ((lw_gt x y).mpr q)).2.2.2⟩
theorem cFgt {x y : Int64} (q : ¬ y < x) : ifCond.holds .gt (lcmpW x y) = false ∧ ifCond.holds .le (lcmpW x y) = true := ⟨(if0 _ _).trans (flt (fun r => q ((lw_gt x y).mp r))).2.2.1, (if0 _ _).trans (flt (fun r => q ((lw_gt x y).mp r))).2.2.2⟩
theorem cZeq {x y : Int64} (q : x = y) : ifCond.holds .eq (lcmpW x y) = true ∧ ifCond.holds .ne (lcmpW x y) = false := ⟨(if0 _ _).trans (teq ((lw_eq x y).mpr q)).1, (if0 _ _).trans (teq ((lw_eq x y).mpr q)).2⟩
theorem cFeq {x y : Int64} (q : ¬ x = y) : ifCond.holds .eq (lcmpW x y) = false ∧ ifCond.holds .ne (lcmpW x y) = true := ⟨(if0 _ _).trans (feq (fun r => q ((lw_eq x y).mp r))).1, (if0 _ _).trans (feq (fun r => q ((lw_eq x y).mp r))).2⟩
end Kit
theorem own_ni0 {a : Addr}  : a ∉ ([] : List Addr) := by simp [*]
theorem own_all0 {P : Addr → Prop} {b0 : Addr}  : ∀ x ∈ ([] : List Addr), P x := by intro x hx; cases hx
theorem own_ni1 {a b0 : Addr} (q0 : a ≠ b0) : a ∉ ([b0] : List Addr) := by simp [*]
theorem own_all1 {P : Addr → Prop} {b0 : Addr} (q0 : P b0) : ∀ x ∈ ([b0] : List Addr), P x := by intro x hx; simp only [List.mem_cons, List.not_mem_nil, or_false] at hx; subst hx; assumption
theorem own_ni2 {a b0 b1 : Addr} (q0 : a ≠ b0) (q1 : a ≠ b1) : a ∉ ([b0, b1] : List Addr) := by simp [*]
theorem own_all2 {P : Addr → Prop} {b0 b1 : Addr} (q0 : P b0) (q1 : P b1) : ∀ x ∈ ([b0, b1] : List Addr), P x := by intro x hx; simp only [List.mem_cons, List.not_mem_nil, or_false] at hx; rcases hx with rfl | rfl <;> assumption
theorem own_ni3 {a b0 b1 b2 : Addr} (q0 : a ≠ b0) (q1 : a ≠ b1) (q2 : a ≠ b2) : a ∉ ([b0, b1, b2] : List Addr) := by simp [*]
theorem own_all3 {P : Addr → Prop} {b0 b1 b2 : Addr} (q0 : P b0) (q1 : P b1) (q2 : P b2) : ∀ x ∈ ([b0, b1, b2] : List Addr), P x := by intro x hx; simp only [List.mem_cons, List.not_mem_nil, or_false] at hx; rcases hx with rfl | rfl | rfl <;> assumption
theorem own_ni4 {a b0 b1 b2 b3 : Addr} (q0 : a ≠ b0) (q1 : a ≠ b1) (q2 : a ≠ b2) (q3 : a ≠ b3) : a ∉ ([b0, b1, b2, b3] : List Addr) := by simp [*]
theorem own_all4 {P : Addr → Prop} {b0 b1 b2 b3 : Addr} (q0 : P b0) (q1 : P b1) (q2 : P b2) (q3 : P b3) : ∀ x ∈ ([b0, b1, b2, b3] : List Addr), P x := by intro x hx; simp only [List.mem_cons, List.not_mem_nil, or_false] at hx; rcases hx with rfl | rfl | rfl | rfl <;> assumption
theorem own_ni5 {a b0 b1 b2 b3 b4 : Addr} (q0 : a ≠ b0) (q1 : a ≠ b1) (q2 : a ≠ b2) (q3 : a ≠ b3) (q4 : a ≠ b4) : a ∉ ([b0, b1, b2, b3, b4] : List Addr) := by simp [*]
theorem own_all5 {P : Addr → Prop} {b0 b1 b2 b3 b4 : Addr} (q0 : P b0) (q1 : P b1) (q2 : P b2) (q3 : P b3) (q4 : P b4) : ∀ x ∈ ([b0, b1, b2, b3, b4] : List Addr), P x := by intro x hx; simp only [List.mem_cons, List.not_mem_nil, or_false] at hx; rcases hx with rfl | rfl | rfl | rfl | rfl <;> assumption
theorem own_ni6 {a b0 b1 b2 b3 b4 b5 : Addr} (q0 : a ≠ b0) (q1 : a ≠ b1) (q2 : a ≠ b2) (q3 : a ≠ b3) (q4 : a ≠ b4) (q5 : a ≠ b5) : a ∉ ([b0, b1, b2, b3, b4, b5] : List Addr) := by simp [*]
theorem own_all6 {P : Addr → Prop} {b0 b1 b2 b3 b4 b5 : Addr} (q0 : P b0) (q1 : P b1) (q2 : P b2) (q3 : P b3) (q4 : P b4) (q5 : P b5) : ∀ x ∈ ([b0, b1, b2, b3, b4, b5] : List Addr), P x := by intro x hx; simp only [List.mem_cons, List.not_mem_nil, or_false] at hx; rcases hx with rfl | rfl | rfl | rfl | rfl | rfl <;> assumption
theorem own_ni7 {a b0 b1 b2 b3 b4 b5 b6 : Addr} (q0 : a ≠ b0) (q1 : a ≠ b1) (q2 : a ≠ b2) (q3 : a ≠ b3) (q4 : a ≠ b4) (q5 : a ≠ b5) (q6 : a ≠ b6) : a ∉ ([b0, b1, b2, b3, b4, b5, b6] : List Addr) := by simp [*]
theorem own_all7 {P : Addr → Prop} {b0 b1 b2 b3 b4 b5 b6 : Addr} (q0 : P b0) (q1 : P b1) (q2 : P b2) (q3 : P b3) (q4 : P b4) (q5 : P b5) (q6 : P b6) : ∀ x ∈ ([b0, b1, b2, b3, b4, b5, b6] : List Addr), P x := by intro x hx; simp only [List.mem_cons, List.not_mem_nil, or_false] at hx; rcases hx with rfl | rfl | rfl | rfl | rfl | rfl | rfl <;> assumption

open Jvm.Kit
def own_bom (st en x0 x1 x2 : Int32) : Int32 := if en - st < 3 then 0 else if nar .byte x0 = -17 ∧ nar .byte x1 = -69 ∧ nar .byte x2 = -65 then 3 else 0
theorem own_nat {x : Int32} (hx : 0 ≤ x.toInt) : (x.toBitVec.toNat : Int) = x.toInt := by
  have e : x.toInt = if 2 * x.toBitVec.toNat < 2 ^ 32 then (x.toBitVec.toNat : Int) else x.toBitVec.toNat - ((2 ^ 32 : Nat) : Int) := BitVec.toInt_eq_toNat_cond _
  have b := x.toBitVec.isLt
  split at e <;> omega
theorem own_or {x y : Int32} (k : Nat) (hk : k < 31) (hx : 0 ≤ x.toInt) (hxm : x.toInt % 2 ^ k = 0) (hy : 0 ≤ y.toInt) (hyk : y.toInt < 2 ^ k) : (x ||| y).toInt = x.toInt + y.toInt := by
  have ex := own_nat hx
  have ey := own_nat hy
  have bx := x.toInt_lt
  have hp : (2 : Nat) ^ k ≤ 2 ^ 30 := Nat.pow_le_pow_right (by decide) (by omega)
  have cp : ((2 ^ k : Nat) : Int) = (2 : Int) ^ k := by simp
  have hX : x.toBitVec.toNat % 2 ^ k = 0 := by
    have : ((x.toBitVec.toNat % 2 ^ k : Nat) : Int) = 0 := by rw [Int.natCast_emod, cp, ex]; exact hxm
    omega
  have hY : y.toBitVec.toNat < 2 ^ k := by omega
  have hor : x.toBitVec.toNat ||| y.toBitVec.toNat = x.toBitVec.toNat + y.toBitVec.toNat := by
    have hq : x.toBitVec.toNat = (x.toBitVec.toNat / 2 ^ k) <<< k := by rw [Nat.shiftLeft_eq]; exact (Nat.div_mul_cancel (Nat.dvd_of_mod_eq_zero hX)).symm
    have := Nat.shiftLeft_add_eq_or_of_lt hY (x.toBitVec.toNat / 2 ^ k)
    rw [← hq] at this; exact this.symm
  have e : (x ||| y).toInt = (x.toBitVec ||| y.toBitVec).toInt := rfl
  have hlt : x.toBitVec.toNat + y.toBitVec.toNat < 2 ^ 31 := by
    have h1 : x.toBitVec.toNat + 2 ^ k ≤ 2 ^ 31 := by
      have d31 : 2 ^ 31 % 2 ^ k = 0 := Nat.mod_eq_zero_of_dvd (Nat.pow_dvd_pow 2 (by omega))
      have hx31 : x.toBitVec.toNat < 2 ^ 31 := by omega
      obtain ⟨a, ha⟩ := Nat.dvd_of_mod_eq_zero hX
      obtain ⟨b, hb⟩ := Nat.dvd_of_mod_eq_zero d31
      rw [ha, hb] at hx31 ⊢
      have : a < b := Nat.lt_of_mul_lt_mul_left hx31
      calc 2 ^ k * a + 2 ^ k = 2 ^ k * (a + 1) := by rw [Nat.mul_add, Nat.mul_one]
        _ ≤ 2 ^ k * b := Nat.mul_le_mul_left _ this
    omega
  rw [e, BitVec.toInt_eq_toNat_cond, BitVec.toNat_or, hor, if_pos (by omega)]
  omega
theorem own_byte (x : Int32) : -128 ≤ (nar .byte x).toInt ∧ (nar .byte x).toInt < 128 := by
  have e : (nar .byte x).toInt = x.toInt8.toInt := Int8.toInt_toInt32 _
  have h1 := x.toInt8.toInt_lt; have h2 := x.toInt8.le_toInt
  omega
theorem own_v (x0 x1 x2 : Int32) : ((((nar .byte x0) &&& (255 : Int32)) <<< ((16 : Int32) &&& 31)) ||| (((nar .byte x1) &&& (255 : Int32)) <<< ((8 : Int32) &&& 31))) ||| ((nar .byte x2) &&& (255 : Int32)) = (15711167 : Int32) ↔ (nar .byte x0 = -17 ∧ nar .byte x1 = -69 ∧ nar .byte x2 = -65) := by
  have b0 := own_byte x0; have b1 := own_byte x1; have b2 := own_byte x2
  have m0 : (nar .byte x0 &&& 255).toInt = (nar .byte x0).toInt % 2 ^ 8 := i32_mask _ _ (by decide) (by decide)
  have m1 : (nar .byte x1 &&& 255).toInt = (nar .byte x1).toInt % 2 ^ 8 := i32_mask _ _ (by decide) (by decide)
  have m2 : (nar .byte x2 &&& 255).toInt = (nar .byte x2).toInt % 2 ^ 8 := i32_mask _ _ (by decide) (by decide)
  have s0 : ((nar .byte x0 &&& 255) <<< ((16 : Int32) &&& 31)).toInt = (nar .byte x0 &&& 255).toInt * 2 ^ 16 := i32_shl _ _ (by decide) (by omega) (by omega)
  have s1 : ((nar .byte x1 &&& 255) <<< ((8 : Int32) &&& 31)).toInt = (nar .byte x1 &&& 255).toInt * 2 ^ 8 := i32_shl _ _ (by decide) (by omega) (by omega)
  have o1 := own_or (x := (nar .byte x0 &&& 255) <<< ((16 : Int32) &&& 31)) (y := (nar .byte x1 &&& 255) <<< ((8 : Int32) &&& 31)) 16 (by decide) (by omega) (by omega) (by omega) (by omega)
  have o2 := own_or (x := (nar .byte x0 &&& 255) <<< ((16 : Int32) &&& 31) ||| (nar .byte x1 &&& 255) <<< ((8 : Int32) &&& 31)) (y := nar .byte x2 &&& 255) 8 (by decide) (by omega) (by omega) (by omega) (by omega)
  have k0 : (15711167 : Int32).toInt = 15711167 := by decide
  have k1 : (-17 : Int32).toInt = -17 := by decide
  have k2 : (-69 : Int32).toInt = -69 := by decide
  have k3 : (-65 : Int32).toInt = -65 := by decide
  rw [← Int32.toInt_inj, ← Int32.toInt_inj, ← Int32.toInt_inj, ← Int32.toInt_inj, o2, o1, s0, s1, m0, m1, m2, k0, k1, k2, k3]
  omega
theorem own_st (s : Int32) : 0 ≤ ((s &&& (2147483647 : Int32)) % (6 : Int32)).toInt ∧ ((s &&& (2147483647 : Int32)) % (6 : Int32)).toInt ≤ 5 := by
  have m0 : (s &&& 2147483647).toInt = s.toInt % 2 ^ 31 := i32_mask _ _ (by decide) (by decide)
  have r := i32_rem_nonneg (x := s &&& 2147483647) (y := 6) (by omega)
  have k : (6 : Int32).toInt = 6 := by decide
  rw [k] at r; omega
theorem own_6 {st : Int32} (h0 : 0 ≤ st.toInt) (h5 : st.toInt ≤ 5) : ((6 : Int32) - st).toInt = 6 - st.toInt := by
  have k : (6 : Int32).toInt = 6 := by decide
  have := i32_sub (p := 6) (q := st) (by omega) (by omega)
  omega
theorem own_nz {st : Int32} (h0 : 0 ≤ st.toInt) (h5 : st.toInt ≤ 5) : (6 : Int32) - st ≠ 0 := fun q => by
  have := own_6 h0 h5
  rw [q] at this
  have k : (0 : Int32).toInt = 0 := by decide
  omega
theorem own_en {st : Int32} (h0 : 0 ≤ st.toInt) (h5 : st.toInt ≤ 5) (e : Int32) : st.toInt ≤ (st + (e &&& (2147483647 : Int32)) % ((6 : Int32) - st)).toInt ∧ (st + (e &&& (2147483647 : Int32)) % ((6 : Int32) - st)).toInt ≤ 5 := by
  have m0 : (e &&& 2147483647).toInt = e.toInt % 2 ^ 31 := i32_mask _ _ (by decide) (by decide)
  have r := i32_rem_nonneg (x := e &&& 2147483647) (y := 6 - st) (by omega)
  have k := own_6 h0 h5
  rw [k] at r
  have r1 := Int.emod_nonneg (e &&& 2147483647).toInt (show (6 - st.toInt) ≠ 0 by omega)
  have r2 := Int.emod_lt_of_pos (e &&& 2147483647).toInt (show 0 < (6 - st.toInt) by omega)
  have a := i32_add (p := st) (q := (e &&& 2147483647) % (6 - st)) (by omega) (by omega)
  omega
theorem own_in {st en : Int32} (h0 : 0 ≤ st.toInt) (h1 : st.toInt ≤ en.toInt) (h5 : en.toInt ≤ 5) (h3 : ¬ en - st < 3) : Inb st 5 ∧ Inb (st + 1) 5 ∧ Inb (st + 2) 5 := by
  have k3 : (3 : Int32).toInt = 3 := by decide
  have k1 : (1 : Int32).toInt = 1 := by decide
  have k2 : (2 : Int32).toInt = 2 := by decide
  have k0 : (0 : Int32).toInt = 0 := by decide
  have s := i32_sub (p := en) (q := st) (by omega) (by omega)
  rw [Int32.lt_iff_toInt_lt] at h3
  have a1 := i32_add (p := st) (q := 1) (by omega) (by omega)
  have a2 := i32_add (p := st) (q := 2) (by omega) (by omega)
  simp only [Inb, Int32.lt_iff_toInt_lt, Int32.toNatClampNeg]
  omega
theorem pd0 : parseMethodDescriptor "(II)B" = some ⟨[.int, .int], some .byte⟩ := by decide +kernel
theorem pd1 : parseMethodDescriptor "([BII)I" = some ⟨[(.array .byte), .int, .int], some .int⟩ := by decide +kernel
theorem d1_0 : decode method_3_code 0 = .ok (.iload_n 0, 1) := by decide +kernel
theorem d1_1 : decode method_3_code 1 = .ok (.iconst 3, 1) := by decide +kernel
theorem d1_2 : decode method_3_code 2 = .ok (.iand, 1) := by decide +kernel
theorem d1_3 : decode method_3_code 3 = .ok (.istore_n 2, 1) := by decide +kernel
theorem d1_4 : decode method_3_code 4 = .ok (.iload_n 2, 1) := by decide +kernel
theorem d1_5 : decode method_3_code 5 = .ok (.ifCond .ne 6, 3) := by decide +kernel
theorem d1_8 : decode method_3_code 8 = .ok (.bipush (-17), 2) := by decide +kernel
theorem d1_10 : decode method_3_code 10 = .ok (.ireturn, 1) := by decide +kernel
theorem d1_11 : decode method_3_code 11 = .ok (.iload_n 2, 1) := by decide +kernel
theorem d1_12 : decode method_3_code 12 = .ok (.iconst 1, 1) := by decide +kernel
theorem d1_13 : decode method_3_code 13 = .ok (.if_icmp .ne 6, 3) := by decide +kernel
theorem d1_16 : decode method_3_code 16 = .ok (.bipush (-69), 2) := by decide +kernel
theorem d1_18 : decode method_3_code 18 = .ok (.ireturn, 1) := by decide +kernel
theorem d1_19 : decode method_3_code 19 = .ok (.iload_n 2, 1) := by decide +kernel
theorem d1_20 : decode method_3_code 20 = .ok (.iconst 2, 1) := by decide +kernel
theorem d1_21 : decode method_3_code 21 = .ok (.if_icmp .ne 6, 3) := by decide +kernel
theorem d1_24 : decode method_3_code 24 = .ok (.bipush (-65), 2) := by decide +kernel
theorem d1_26 : decode method_3_code 26 = .ok (.ireturn, 1) := by decide +kernel
theorem d1_27 : decode method_3_code 27 = .ok (.iload_n 1, 1) := by decide +kernel
theorem d1_28 : decode method_3_code 28 = .ok (.i2b, 1) := by decide +kernel
theorem d1_29 : decode method_3_code 29 = .ok (.ireturn, 1) := by decide +kernel
theorem pn1 : plainFor (⟨"com/example/fixpoint/fixpoint/SourceTextByteOrderMarkLengthPinLaw", "pick", "(II)B"⟩ : MethodName) = true := plainFor_of_name (by first | (simp [plainName, overriddenIn]; done) | decide +kernel)
theorem ef_rm1 (m : MethodId) (x0 : Int32) (x1 : Int32) : entryFrame m #[(.int x0), (.int x1)] 3 = mkF m 0 #[.val (.int x0), .val (.int x1), .unset] [] := by first | (simp [entryFrame, mkF, argsToLocals, Value.category]; done) | rfl
set_option maxRecDepth 65536 in
set_option maxHeartbeats 40000000 in
theorem rm1 {l : Launch} {Z : State} {a0 : Array Value} (hw : ∀ d ∈ tables_1, d.before a0 Z = true) (p1 p2 : Int32) (h0 : Heap) (n0 : Nat)  :
    Met l Z (⟨"com/example/fixpoint/fixpoint/SourceTextByteOrderMarkLengthPinLaw", "pick", "(II)B"⟩ : MethodName) method_3_code 3 (some .byte) [] ({ frames := 0, cells := 0, slots := 0, locals := 0 } : Room) #[(.int p1), (.int p2)] h0 (fun v h L => ∃ r : Int32, v = some (.int (nar .byte r)) ∧ Fr n0 L ∧ h = h0) := by
  refine Met.mk pn1 ?_
  intro p e s m below meth c T hx hby hml hown hnm hret hlk hZ X eT
  refine Go.cast (ef_rm1 m p1 p2) ?_
  have N := Fr.nil n0
  show Go p e below s _ _ T (mkF m 0 #[.val (.int p1), .val (.int p2), .unset] [])
  refine Go.of (fun _ q => XS.iloadN X.here hx rfl (hb hby d1_0) rfl q) ?_
  show Go p e below s _ _ T (mkF m 1 #[.val (.int p1), .val (.int p2), .unset] [(.int p1)])
  refine Go.of (fun _ q => XS.iconst X.here hx rfl (hb hby d1_1) q) ?_
  show Go p e below s _ _ T (mkF m 2 #[.val (.int p1), .val (.int p2), .unset] [(.int (3 : Int32)), (.int p1)])
  refine Go.of (fun _ q => XS.iand X.here hx rfl (hb hby d1_2) rfl q) ?_
  show Go p e below s _ _ T (mkF m 3 #[.val (.int p1), .val (.int p2), .unset] [(.int (p1 &&& (3 : Int32)))])
  refine Go.of (fun _ q => XS.istoreN X.here hx rfl (hb hby d1_3) rfl (l' := #[.val (.int p1), .val (.int p2), .val (.int (p1 &&& (3 : Int32)))]) rfl q) ?_
  show Go p e below s _ _ T (mkF m 4 #[.val (.int p1), .val (.int p2), .val (.int (p1 &&& (3 : Int32)))] [])
  refine Go.of (fun _ q => XS.iloadN X.here hx rfl (hb hby d1_4) rfl q) ?_
  show Go p e below s _ _ T (mkF m 5 #[.val (.int p1), .val (.int p2), .val (.int (p1 &&& (3 : Int32)))] [(.int (p1 &&& (3 : Int32)))])
  by_cases hc5 : (p1 &&& (3 : Int32)) = (0 : Int32)
  · refine Go.of (fun _ q => XS.ifNo X.here hx rfl (hb hby d1_5) rfl ((if0 _ _).trans (teq hc5).2) q) ?_
    show Go p e below s _ _ T (mkF m 8 #[.val (.int p1), .val (.int p2), .val (.int (p1 &&& (3 : Int32)))] [])
    refine Go.of (fun _ q => XS.bipush X.here hx rfl (hb hby d1_8) q) ?_
    show Go p e below s _ _ T (mkF m 10 #[.val (.int p1), .val (.int p2), .val (.int (p1 &&& (3 : Int32)))] [(.int (-17 : Int32))])
    refine Go.retN X hx hret (by simp) hlk (hb hby d1_10) (by decide) (by decide) ?_
    try rw [eT]
    exact ⟨_, rfl, N, rfl⟩
  · refine Go.of (fun _ q => XS.ifYes X.here hx rfl (pc0 := 5) (pc' := 11) rfl (hb hby d1_5) rfl ((if0 _ _).trans (feq hc5).2) (by decide) (by decide) q) ?_
    show Go p e below s _ _ T (mkF m 11 #[.val (.int p1), .val (.int p2), .val (.int (p1 &&& (3 : Int32)))] [])
    refine Go.of (fun _ q => XS.iloadN X.here hx rfl (hb hby d1_11) rfl q) ?_
    show Go p e below s _ _ T (mkF m 12 #[.val (.int p1), .val (.int p2), .val (.int (p1 &&& (3 : Int32)))] [(.int (p1 &&& (3 : Int32)))])
    refine Go.of (fun _ q => XS.iconst X.here hx rfl (hb hby d1_12) q) ?_
    show Go p e below s _ _ T (mkF m 13 #[.val (.int p1), .val (.int p2), .val (.int (p1 &&& (3 : Int32)))] [(.int (1 : Int32)), (.int (p1 &&& (3 : Int32)))])
    by_cases hc13 : (p1 &&& (3 : Int32)) = (1 : Int32)
    · refine Go.of (fun _ q => XS.icmpNo X.here hx rfl (hb hby d1_13) rfl (teq hc13).2 q) ?_
      show Go p e below s _ _ T (mkF m 16 #[.val (.int p1), .val (.int p2), .val (.int (p1 &&& (3 : Int32)))] [])
      refine Go.of (fun _ q => XS.bipush X.here hx rfl (hb hby d1_16) q) ?_
      show Go p e below s _ _ T (mkF m 18 #[.val (.int p1), .val (.int p2), .val (.int (p1 &&& (3 : Int32)))] [(.int (-69 : Int32))])
      refine Go.retN X hx hret (by simp) hlk (hb hby d1_18) (by decide) (by decide) ?_
      try rw [eT]
      exact ⟨_, rfl, N, rfl⟩
    · refine Go.of (fun _ q => XS.icmpYes X.here hx rfl (pc0 := 13) (pc' := 19) rfl (hb hby d1_13) rfl (feq hc13).2 (by decide) (by decide) q) ?_
      show Go p e below s _ _ T (mkF m 19 #[.val (.int p1), .val (.int p2), .val (.int (p1 &&& (3 : Int32)))] [])
      refine Go.of (fun _ q => XS.iloadN X.here hx rfl (hb hby d1_19) rfl q) ?_
      show Go p e below s _ _ T (mkF m 20 #[.val (.int p1), .val (.int p2), .val (.int (p1 &&& (3 : Int32)))] [(.int (p1 &&& (3 : Int32)))])
      refine Go.of (fun _ q => XS.iconst X.here hx rfl (hb hby d1_20) q) ?_
      show Go p e below s _ _ T (mkF m 21 #[.val (.int p1), .val (.int p2), .val (.int (p1 &&& (3 : Int32)))] [(.int (2 : Int32)), (.int (p1 &&& (3 : Int32)))])
      by_cases hc21 : (p1 &&& (3 : Int32)) = (2 : Int32)
      · refine Go.of (fun _ q => XS.icmpNo X.here hx rfl (hb hby d1_21) rfl (teq hc21).2 q) ?_
        show Go p e below s _ _ T (mkF m 24 #[.val (.int p1), .val (.int p2), .val (.int (p1 &&& (3 : Int32)))] [])
        refine Go.of (fun _ q => XS.bipush X.here hx rfl (hb hby d1_24) q) ?_
        show Go p e below s _ _ T (mkF m 26 #[.val (.int p1), .val (.int p2), .val (.int (p1 &&& (3 : Int32)))] [(.int (-65 : Int32))])
        refine Go.retN X hx hret (by simp) hlk (hb hby d1_26) (by decide) (by decide) ?_
        try rw [eT]
        exact ⟨_, rfl, N, rfl⟩
      · refine Go.of (fun _ q => XS.icmpYes X.here hx rfl (pc0 := 21) (pc' := 27) rfl (hb hby d1_21) rfl (feq hc21).2 (by decide) (by decide) q) ?_
        show Go p e below s _ _ T (mkF m 27 #[.val (.int p1), .val (.int p2), .val (.int (p1 &&& (3 : Int32)))] [])
        refine Go.of (fun _ q => XS.iloadN X.here hx rfl (hb hby d1_27) rfl q) ?_
        show Go p e below s _ _ T (mkF m 28 #[.val (.int p1), .val (.int p2), .val (.int (p1 &&& (3 : Int32)))] [(.int p2)])
        refine Go.of (fun _ q => XS.i2b X.here hx rfl (hb hby d1_28) rfl q) ?_
        show Go p e below s _ _ T (mkF m 29 #[.val (.int p1), .val (.int p2), .val (.int (p1 &&& (3 : Int32)))] [(.int (p2.toInt8.toInt32))])
        refine Go.retN X hx hret (by simp) hlk (hb hby d1_29) (by decide) (by decide) ?_
        try rw [eT]
        exact ⟨_, rfl, N, rfl⟩
theorem d2_0 : decode prog_109_method_7_code 0 = .ok (.iload_n 2, 1) := by decide +kernel
theorem d2_1 : decode prog_109_method_7_code 1 = .ok (.iload_n 1, 1) := by decide +kernel
theorem d2_2 : decode prog_109_method_7_code 2 = .ok (.isub, 1) := by decide +kernel
theorem d2_3 : decode prog_109_method_7_code 3 = .ok (.iconst 3, 1) := by decide +kernel
theorem d2_4 : decode prog_109_method_7_code 4 = .ok (.if_icmp .lt 35, 3) := by decide +kernel
theorem d2_7 : decode prog_109_method_7_code 7 = .ok (.aload_n 0, 1) := by decide +kernel
theorem d2_8 : decode prog_109_method_7_code 8 = .ok (.iload_n 1, 1) := by decide +kernel
theorem d2_9 : decode prog_109_method_7_code 9 = .ok (.baload, 1) := by decide +kernel
theorem d2_10 : decode prog_109_method_7_code 10 = .ok (.bipush (-17), 2) := by decide +kernel
theorem d2_12 : decode prog_109_method_7_code 12 = .ok (.if_icmp .ne 27, 3) := by decide +kernel
theorem d2_15 : decode prog_109_method_7_code 15 = .ok (.aload_n 0, 1) := by decide +kernel
theorem d2_16 : decode prog_109_method_7_code 16 = .ok (.iload_n 1, 1) := by decide +kernel
theorem d2_17 : decode prog_109_method_7_code 17 = .ok (.iconst 1, 1) := by decide +kernel
theorem d2_18 : decode prog_109_method_7_code 18 = .ok (.iadd, 1) := by decide +kernel
theorem d2_19 : decode prog_109_method_7_code 19 = .ok (.baload, 1) := by decide +kernel
theorem d2_20 : decode prog_109_method_7_code 20 = .ok (.bipush (-69), 2) := by decide +kernel
theorem d2_22 : decode prog_109_method_7_code 22 = .ok (.if_icmp .ne 17, 3) := by decide +kernel
theorem d2_25 : decode prog_109_method_7_code 25 = .ok (.aload_n 0, 1) := by decide +kernel
theorem d2_26 : decode prog_109_method_7_code 26 = .ok (.iload_n 1, 1) := by decide +kernel
theorem d2_27 : decode prog_109_method_7_code 27 = .ok (.iconst 2, 1) := by decide +kernel
theorem d2_28 : decode prog_109_method_7_code 28 = .ok (.iadd, 1) := by decide +kernel
theorem d2_29 : decode prog_109_method_7_code 29 = .ok (.baload, 1) := by decide +kernel
theorem d2_30 : decode prog_109_method_7_code 30 = .ok (.bipush (-65), 2) := by decide +kernel
theorem d2_32 : decode prog_109_method_7_code 32 = .ok (.if_icmp .ne 7, 3) := by decide +kernel
theorem d2_35 : decode prog_109_method_7_code 35 = .ok (.iconst 1, 1) := by decide +kernel
theorem d2_36 : decode prog_109_method_7_code 36 = .ok (.goto 4, 3) := by decide +kernel
theorem d2_39 : decode prog_109_method_7_code 39 = .ok (.iconst 0, 1) := by decide +kernel
theorem d2_40 : decode prog_109_method_7_code 40 = .ok (.istore_n 3, 1) := by decide +kernel
theorem d2_41 : decode prog_109_method_7_code 41 = .ok (.iload_n 3, 1) := by decide +kernel
theorem d2_42 : decode prog_109_method_7_code 42 = .ok (.ifCond .eq 7, 3) := by decide +kernel
theorem d2_45 : decode prog_109_method_7_code 45 = .ok (.iconst 3, 1) := by decide +kernel
theorem d2_46 : decode prog_109_method_7_code 46 = .ok (.goto 4, 3) := by decide +kernel
theorem d2_49 : decode prog_109_method_7_code 49 = .ok (.iconst 0, 1) := by decide +kernel
theorem d2_50 : decode prog_109_method_7_code 50 = .ok (.ireturn, 1) := by decide +kernel
theorem pn2 : plainFor (⟨"com/example/fixpoint/fixpoint/SourceText", "byteOrderMarkLength", "([BII)I"⟩ : MethodName) = true := plainFor_of_name (by first | (simp [plainName, overriddenIn]; done) | decide +kernel)
theorem ef_rm2 (m : MethodId) (x0 : Addr) (x1 : Int32) (x2 : Int32) : entryFrame m #[(.ref x0), (.int x1), (.int x2)] 4 = mkF m 0 #[.val (.ref x0), .val (.int x1), .val (.int x2), .unset] [] := by first | (simp [entryFrame, mkF, argsToLocals, Value.category]; done) | rfl
set_option maxRecDepth 65536 in
set_option maxHeartbeats 40000000 in
theorem rm2 {l : Launch} {Z : State} {a0 : Array Value} (hw : ∀ d ∈ tables_1, d.before a0 Z = true) (a : Addr) (st en : Int32) (B : Nat → Int32) (x0 x1 x2 : Int32) (h0 : Heap) (n0 : Nat) (V_a : AV Z h0 a .byte 5 (fun j => .int (nar .byte (B j)))) (h0s : 0 ≤ st.toInt) (hse : st.toInt ≤ en.toInt) (h5 : en.toInt ≤ 5) (hx0 : B st.toNatClampNeg = x0) (hx1 : B (st + 1).toNatClampNeg = x1) (hx2 : B (st + 2).toNatClampNeg = x2) :
    Met l Z (⟨"com/example/fixpoint/fixpoint/SourceText", "byteOrderMarkLength", "([BII)I"⟩ : MethodName) prog_109_method_7_code 4 (some .int) [] ({ frames := 0, cells := 0, slots := 0, locals := 0 } : Room) #[(.ref a), (.int st), (.int en)] h0 (fun v h L => v = some (.int (own_bom st en x0 x1 x2)) ∧ Fr n0 L ∧ h = h0) := by
  refine Met.mk pn2 ?_
  intro p e s m below meth c T hx hby hml hown hnm hret hlk hZ X eT
  refine Go.cast (ef_rm2 m a st en) ?_
  have N := Fr.nil n0
  show Go p e below s _ _ T (mkF m 0 #[.val (.ref a), .val (.int st), .val (.int en), .unset] [])
  refine Go.of (fun _ q => XS.iloadN X.here hx rfl (hb hby d2_0) rfl q) ?_
  show Go p e below s _ _ T (mkF m 1 #[.val (.ref a), .val (.int st), .val (.int en), .unset] [(.int en)])
  refine Go.of (fun _ q => XS.iloadN X.here hx rfl (hb hby d2_1) rfl q) ?_
  show Go p e below s _ _ T (mkF m 2 #[.val (.ref a), .val (.int st), .val (.int en), .unset] [(.int st), (.int en)])
  refine Go.of (fun _ q => XS.isub X.here hx rfl (hb hby d2_2) rfl q) ?_
  show Go p e below s _ _ T (mkF m 3 #[.val (.ref a), .val (.int st), .val (.int en), .unset] [(.int (en - st))])
  refine Go.of (fun _ q => XS.iconst X.here hx rfl (hb hby d2_3) q) ?_
  show Go p e below s _ _ T (mkF m 4 #[.val (.ref a), .val (.int st), .val (.int en), .unset] [(.int (3 : Int32)), (.int (en - st))])
  by_cases hc4 : (en - st) < (3 : Int32)
  · refine Go.of (fun _ q => XS.icmpYes X.here hx rfl (pc0 := 4) (pc' := 39) rfl (hb hby d2_4) rfl (tlt hc4).1 (by decide) (by decide) q) ?_
    show Go p e below s _ _ T (mkF m 39 #[.val (.ref a), .val (.int st), .val (.int en), .unset] [])
    refine Go.of (fun _ q => XS.iconst X.here hx rfl (hb hby d2_39) q) ?_
    show Go p e below s _ _ T (mkF m 40 #[.val (.ref a), .val (.int st), .val (.int en), .unset] [(.int (0 : Int32))])
    refine Go.of (fun _ q => XS.istoreN X.here hx rfl (hb hby d2_40) rfl (l' := #[.val (.ref a), .val (.int st), .val (.int en), .val (.int (0 : Int32))]) rfl q) ?_
    show Go p e below s _ _ T (mkF m 41 #[.val (.ref a), .val (.int st), .val (.int en), .val (.int (0 : Int32))] [])
    refine Go.of (fun _ q => XS.iloadN X.here hx rfl (hb hby d2_41) rfl q) ?_
    show Go p e below s _ _ T (mkF m 42 #[.val (.ref a), .val (.int st), .val (.int en), .val (.int (0 : Int32))] [(.int (0 : Int32))])
    refine Go.of (fun _ q => XS.ifYes X.here hx rfl (pc0 := 42) (pc' := 49) rfl (hb hby d2_42) rfl ((if0 _ _).trans (teq (rfl)).1) (by decide) (by decide) q) ?_
    show Go p e below s _ _ T (mkF m 49 #[.val (.ref a), .val (.int st), .val (.int en), .val (.int (0 : Int32))] [])
    refine Go.of (fun _ q => XS.iconst X.here hx rfl (hb hby d2_49) q) ?_
    show Go p e below s _ _ T (mkF m 50 #[.val (.ref a), .val (.int st), .val (.int en), .val (.int (0 : Int32))] [(.int (0 : Int32))])
    refine Go.retI X hx hret hlk (hb hby d2_50) (by decide) (by decide) ?_
    try rw [eT]
    exact ⟨by rw [show own_bom st en x0 x1 x2 = (0 : Int32) by simp [own_bom, hc4]], N, rfl⟩
  · refine Go.of (fun _ q => XS.icmpNo X.here hx rfl (hb hby d2_4) rfl (flt hc4).1 q) ?_
    show Go p e below s _ _ T (mkF m 7 #[.val (.ref a), .val (.int st), .val (.int en), .unset] [])
    refine Go.of (fun _ q => XS.aloadN X.here hx rfl (hb hby d2_7) rfl rfl q) ?_
    show Go p e below s _ _ T (mkF m 8 #[.val (.ref a), .val (.int st), .val (.int en), .unset] [(.ref a)])
    refine Go.of (fun _ q => XS.iloadN X.here hx rfl (hb hby d2_8) rfl q) ?_
    show Go p e below s _ _ T (mkF m 9 #[.val (.ref a), .val (.int st), .val (.int en), .unset] [(.int st), (.ref a)])
    refine Go.ldB (.int (nar .byte x0)) X hx hZ eT V_a (show Inb st 5 from (own_in h0s hse h5 hc4).1) (by show Value.int (nar .byte (B _)) = _; rw [hx0]) (hb hby d2_9) ?_
    show Go p e below s _ _ T (mkF m 10 #[.val (.ref a), .val (.int st), .val (.int en), .unset] [(.int (nar .byte x0))])
    refine Go.of (fun _ q => XS.bipush X.here hx rfl (hb hby d2_10) q) ?_
    show Go p e below s _ _ T (mkF m 12 #[.val (.ref a), .val (.int st), .val (.int en), .unset] [(.int (-17 : Int32)), (.int (nar .byte x0))])
    by_cases hc12 : (nar .byte x0) = (-17 : Int32)
    · refine Go.of (fun _ q => XS.icmpNo X.here hx rfl (hb hby d2_12) rfl (teq hc12).2 q) ?_
      show Go p e below s _ _ T (mkF m 15 #[.val (.ref a), .val (.int st), .val (.int en), .unset] [])
      refine Go.of (fun _ q => XS.aloadN X.here hx rfl (hb hby d2_15) rfl rfl q) ?_
      show Go p e below s _ _ T (mkF m 16 #[.val (.ref a), .val (.int st), .val (.int en), .unset] [(.ref a)])
      refine Go.of (fun _ q => XS.iloadN X.here hx rfl (hb hby d2_16) rfl q) ?_
      show Go p e below s _ _ T (mkF m 17 #[.val (.ref a), .val (.int st), .val (.int en), .unset] [(.int st), (.ref a)])
      refine Go.of (fun _ q => XS.iconst X.here hx rfl (hb hby d2_17) q) ?_
      show Go p e below s _ _ T (mkF m 18 #[.val (.ref a), .val (.int st), .val (.int en), .unset] [(.int (1 : Int32)), (.int st), (.ref a)])
      refine Go.of (fun _ q => XS.iadd X.here hx rfl (hb hby d2_18) rfl q) ?_
      show Go p e below s _ _ T (mkF m 19 #[.val (.ref a), .val (.int st), .val (.int en), .unset] [(.int (st + (1 : Int32))), (.ref a)])
      refine Go.ldB (.int (nar .byte x1)) X hx hZ eT V_a (show Inb (st + (1 : Int32)) 5 from (own_in h0s hse h5 hc4).2.1) (by show Value.int (nar .byte (B _)) = _; rw [hx1]) (hb hby d2_19) ?_
      show Go p e below s _ _ T (mkF m 20 #[.val (.ref a), .val (.int st), .val (.int en), .unset] [(.int (nar .byte x1))])
      refine Go.of (fun _ q => XS.bipush X.here hx rfl (hb hby d2_20) q) ?_
      show Go p e below s _ _ T (mkF m 22 #[.val (.ref a), .val (.int st), .val (.int en), .unset] [(.int (-69 : Int32)), (.int (nar .byte x1))])
      by_cases hc22 : (nar .byte x1) = (-69 : Int32)
      · refine Go.of (fun _ q => XS.icmpNo X.here hx rfl (hb hby d2_22) rfl (teq hc22).2 q) ?_
        show Go p e below s _ _ T (mkF m 25 #[.val (.ref a), .val (.int st), .val (.int en), .unset] [])
        refine Go.of (fun _ q => XS.aloadN X.here hx rfl (hb hby d2_25) rfl rfl q) ?_
        show Go p e below s _ _ T (mkF m 26 #[.val (.ref a), .val (.int st), .val (.int en), .unset] [(.ref a)])
        refine Go.of (fun _ q => XS.iloadN X.here hx rfl (hb hby d2_26) rfl q) ?_
        show Go p e below s _ _ T (mkF m 27 #[.val (.ref a), .val (.int st), .val (.int en), .unset] [(.int st), (.ref a)])
        refine Go.of (fun _ q => XS.iconst X.here hx rfl (hb hby d2_27) q) ?_
        show Go p e below s _ _ T (mkF m 28 #[.val (.ref a), .val (.int st), .val (.int en), .unset] [(.int (2 : Int32)), (.int st), (.ref a)])
        refine Go.of (fun _ q => XS.iadd X.here hx rfl (hb hby d2_28) rfl q) ?_
        show Go p e below s _ _ T (mkF m 29 #[.val (.ref a), .val (.int st), .val (.int en), .unset] [(.int (st + (2 : Int32))), (.ref a)])
        refine Go.ldB (.int (nar .byte x2)) X hx hZ eT V_a (show Inb (st + (2 : Int32)) 5 from (own_in h0s hse h5 hc4).2.2) (by show Value.int (nar .byte (B _)) = _; rw [hx2]) (hb hby d2_29) ?_
        show Go p e below s _ _ T (mkF m 30 #[.val (.ref a), .val (.int st), .val (.int en), .unset] [(.int (nar .byte x2))])
        refine Go.of (fun _ q => XS.bipush X.here hx rfl (hb hby d2_30) q) ?_
        show Go p e below s _ _ T (mkF m 32 #[.val (.ref a), .val (.int st), .val (.int en), .unset] [(.int (-65 : Int32)), (.int (nar .byte x2))])
        by_cases hc32 : (nar .byte x2) = (-65 : Int32)
        · refine Go.of (fun _ q => XS.icmpNo X.here hx rfl (hb hby d2_32) rfl (teq hc32).2 q) ?_
          show Go p e below s _ _ T (mkF m 35 #[.val (.ref a), .val (.int st), .val (.int en), .unset] [])
          refine Go.of (fun _ q => XS.iconst X.here hx rfl (hb hby d2_35) q) ?_
          show Go p e below s _ _ T (mkF m 36 #[.val (.ref a), .val (.int st), .val (.int en), .unset] [(.int (1 : Int32))])
          refine Go.of (fun _ q => XS.goto X.here hx rfl (pc0 := 36) (pc' := 40) rfl (hb hby d2_36) (by decide) (by decide) q) ?_
          show Go p e below s _ _ T (mkF m 40 #[.val (.ref a), .val (.int st), .val (.int en), .unset] [(.int (1 : Int32))])
          refine Go.of (fun _ q => XS.istoreN X.here hx rfl (hb hby d2_40) rfl (l' := #[.val (.ref a), .val (.int st), .val (.int en), .val (.int (1 : Int32))]) rfl q) ?_
          show Go p e below s _ _ T (mkF m 41 #[.val (.ref a), .val (.int st), .val (.int en), .val (.int (1 : Int32))] [])
          refine Go.of (fun _ q => XS.iloadN X.here hx rfl (hb hby d2_41) rfl q) ?_
          show Go p e below s _ _ T (mkF m 42 #[.val (.ref a), .val (.int st), .val (.int en), .val (.int (1 : Int32))] [(.int (1 : Int32))])
          refine Go.of (fun _ q => XS.ifNo X.here hx rfl (hb hby d2_42) rfl ((if0 _ _).trans (feq (by decide)).1) q) ?_
          show Go p e below s _ _ T (mkF m 45 #[.val (.ref a), .val (.int st), .val (.int en), .val (.int (1 : Int32))] [])
          refine Go.of (fun _ q => XS.iconst X.here hx rfl (hb hby d2_45) q) ?_
          show Go p e below s _ _ T (mkF m 46 #[.val (.ref a), .val (.int st), .val (.int en), .val (.int (1 : Int32))] [(.int (3 : Int32))])
          refine Go.of (fun _ q => XS.goto X.here hx rfl (pc0 := 46) (pc' := 50) rfl (hb hby d2_46) (by decide) (by decide) q) ?_
          show Go p e below s _ _ T (mkF m 50 #[.val (.ref a), .val (.int st), .val (.int en), .val (.int (1 : Int32))] [(.int (3 : Int32))])
          refine Go.retI X hx hret hlk (hb hby d2_50) (by decide) (by decide) ?_
          try rw [eT]
          exact ⟨by rw [show own_bom st en x0 x1 x2 = (3 : Int32) by simp [own_bom, hc4, hc12, hc22, hc32]], N, rfl⟩
        · refine Go.of (fun _ q => XS.icmpYes X.here hx rfl (pc0 := 32) (pc' := 39) rfl (hb hby d2_32) rfl (feq hc32).2 (by decide) (by decide) q) ?_
          show Go p e below s _ _ T (mkF m 39 #[.val (.ref a), .val (.int st), .val (.int en), .unset] [])
          refine Go.of (fun _ q => XS.iconst X.here hx rfl (hb hby d2_39) q) ?_
          show Go p e below s _ _ T (mkF m 40 #[.val (.ref a), .val (.int st), .val (.int en), .unset] [(.int (0 : Int32))])
          refine Go.of (fun _ q => XS.istoreN X.here hx rfl (hb hby d2_40) rfl (l' := #[.val (.ref a), .val (.int st), .val (.int en), .val (.int (0 : Int32))]) rfl q) ?_
          show Go p e below s _ _ T (mkF m 41 #[.val (.ref a), .val (.int st), .val (.int en), .val (.int (0 : Int32))] [])
          refine Go.of (fun _ q => XS.iloadN X.here hx rfl (hb hby d2_41) rfl q) ?_
          show Go p e below s _ _ T (mkF m 42 #[.val (.ref a), .val (.int st), .val (.int en), .val (.int (0 : Int32))] [(.int (0 : Int32))])
          refine Go.of (fun _ q => XS.ifYes X.here hx rfl (pc0 := 42) (pc' := 49) rfl (hb hby d2_42) rfl ((if0 _ _).trans (teq (rfl)).1) (by decide) (by decide) q) ?_
          show Go p e below s _ _ T (mkF m 49 #[.val (.ref a), .val (.int st), .val (.int en), .val (.int (0 : Int32))] [])
          refine Go.of (fun _ q => XS.iconst X.here hx rfl (hb hby d2_49) q) ?_
          show Go p e below s _ _ T (mkF m 50 #[.val (.ref a), .val (.int st), .val (.int en), .val (.int (0 : Int32))] [(.int (0 : Int32))])
          refine Go.retI X hx hret hlk (hb hby d2_50) (by decide) (by decide) ?_
          try rw [eT]
          exact ⟨by rw [show own_bom st en x0 x1 x2 = (0 : Int32) by simp [own_bom, hc4, hc12, hc22, hc32]], N, rfl⟩
      · refine Go.of (fun _ q => XS.icmpYes X.here hx rfl (pc0 := 22) (pc' := 39) rfl (hb hby d2_22) rfl (feq hc22).2 (by decide) (by decide) q) ?_
        show Go p e below s _ _ T (mkF m 39 #[.val (.ref a), .val (.int st), .val (.int en), .unset] [])
        refine Go.of (fun _ q => XS.iconst X.here hx rfl (hb hby d2_39) q) ?_
        show Go p e below s _ _ T (mkF m 40 #[.val (.ref a), .val (.int st), .val (.int en), .unset] [(.int (0 : Int32))])
        refine Go.of (fun _ q => XS.istoreN X.here hx rfl (hb hby d2_40) rfl (l' := #[.val (.ref a), .val (.int st), .val (.int en), .val (.int (0 : Int32))]) rfl q) ?_
        show Go p e below s _ _ T (mkF m 41 #[.val (.ref a), .val (.int st), .val (.int en), .val (.int (0 : Int32))] [])
        refine Go.of (fun _ q => XS.iloadN X.here hx rfl (hb hby d2_41) rfl q) ?_
        show Go p e below s _ _ T (mkF m 42 #[.val (.ref a), .val (.int st), .val (.int en), .val (.int (0 : Int32))] [(.int (0 : Int32))])
        refine Go.of (fun _ q => XS.ifYes X.here hx rfl (pc0 := 42) (pc' := 49) rfl (hb hby d2_42) rfl ((if0 _ _).trans (teq (rfl)).1) (by decide) (by decide) q) ?_
        show Go p e below s _ _ T (mkF m 49 #[.val (.ref a), .val (.int st), .val (.int en), .val (.int (0 : Int32))] [])
        refine Go.of (fun _ q => XS.iconst X.here hx rfl (hb hby d2_49) q) ?_
        show Go p e below s _ _ T (mkF m 50 #[.val (.ref a), .val (.int st), .val (.int en), .val (.int (0 : Int32))] [(.int (0 : Int32))])
        refine Go.retI X hx hret hlk (hb hby d2_50) (by decide) (by decide) ?_
        try rw [eT]
        exact ⟨by rw [show own_bom st en x0 x1 x2 = (0 : Int32) by simp [own_bom, hc4, hc12, hc22]], N, rfl⟩
    · refine Go.of (fun _ q => XS.icmpYes X.here hx rfl (pc0 := 12) (pc' := 39) rfl (hb hby d2_12) rfl (feq hc12).2 (by decide) (by decide) q) ?_
      show Go p e below s _ _ T (mkF m 39 #[.val (.ref a), .val (.int st), .val (.int en), .unset] [])
      refine Go.of (fun _ q => XS.iconst X.here hx rfl (hb hby d2_39) q) ?_
      show Go p e below s _ _ T (mkF m 40 #[.val (.ref a), .val (.int st), .val (.int en), .unset] [(.int (0 : Int32))])
      refine Go.of (fun _ q => XS.istoreN X.here hx rfl (hb hby d2_40) rfl (l' := #[.val (.ref a), .val (.int st), .val (.int en), .val (.int (0 : Int32))]) rfl q) ?_
      show Go p e below s _ _ T (mkF m 41 #[.val (.ref a), .val (.int st), .val (.int en), .val (.int (0 : Int32))] [])
      refine Go.of (fun _ q => XS.iloadN X.here hx rfl (hb hby d2_41) rfl q) ?_
      show Go p e below s _ _ T (mkF m 42 #[.val (.ref a), .val (.int st), .val (.int en), .val (.int (0 : Int32))] [(.int (0 : Int32))])
      refine Go.of (fun _ q => XS.ifYes X.here hx rfl (pc0 := 42) (pc' := 49) rfl (hb hby d2_42) rfl ((if0 _ _).trans (teq (rfl)).1) (by decide) (by decide) q) ?_
      show Go p e below s _ _ T (mkF m 49 #[.val (.ref a), .val (.int st), .val (.int en), .val (.int (0 : Int32))] [])
      refine Go.of (fun _ q => XS.iconst X.here hx rfl (hb hby d2_49) q) ?_
      show Go p e below s _ _ T (mkF m 50 #[.val (.ref a), .val (.int st), .val (.int en), .val (.int (0 : Int32))] [(.int (0 : Int32))])
      refine Go.retI X hx hret hlk (hb hby d2_50) (by decide) (by decide) ?_
      try rw [eT]
      exact ⟨by rw [show own_bom st en x0 x1 x2 = (0 : Int32) by simp [own_bom, hc4, hc12]], N, rfl⟩
theorem pn0 : plainFor x = true := plainFor_of_name (by first | (simp [plainName, overriddenIn]; done) | decide +kernel)
theorem ef_rm0 (m : MethodId) (x0 : Int64) (x1 : Int64) (x2 : Int32) (x3 : Int32) : entryFrame m #[(.long x0), (.long x1), (.int x2), (.int x3)] maxLocals = mkF m 0 #[.val (.long x0), .second, .val (.long x1), .second, .val (.int x2), .val (.int x3), .unset, .unset, .unset, .unset, .unset, .unset] [] := by first | (simp [entryFrame, mkF, argsToLocals, Value.category, maxLocals]; done) | rfl
set_option maxRecDepth 65536 in
set_option maxHeartbeats 40000000 in
theorem rm0 {l : Launch} {Z : State} {a0 : Array Value} (hw : ∀ d ∈ tables_1, d.before a0 Z = true) (q0 q1 : Int64) (s1 e1 : Int32) (h0 : Heap) (n0 : Nat) (Z0 : n0 ≤ h0.size) :
    Met l Z x code maxLocals ret tables_1 room_1 #[(.long q0), (.long q1), (.int s1), (.int e1)] h0 (fun v h L => v = some (.int 1) ∧ Fr n0 L) := by
  refine Met.mk pn0 ?_
  intro p e s m below meth c T hx hby hml hown hnm hret hlk hZ X eT
  refine Go.cast (ef_rm0 m q0 q1 s1 e1) ?_
  have N := Fr.nil n0
  have K := Keep.refl h0 []
  show Go p e below s _ _ T (mkF m 0 #[.val (.long q0), .second, .val (.long q1), .second, .val (.int s1), .val (.int e1), .unset, .unset, .unset, .unset, .unset, .unset] [])
  refine Go.of (fun _ q => XS.iconst X.here hx rfl (hb hby at_0) q) ?_
  show Go p e below s _ _ T (mkF m 1 #[.val (.long q0), .second, .val (.long q1), .second, .val (.int s1), .val (.int e1), .unset, .unset, .unset, .unset, .unset, .unset] [(.int (5 : Int32))])
  refine Go.newP X hx hZ (hw _ (List.mem_of_getElem? (i := 0) rfl)) eT (hb hby at_1) (by decide) 5 (by decide) (by decide) (by decide) (by decide) ?_
  intro T h b1 X eT E ha V_b1
  have z_b1 : h0.size ≤ b1 := by rw [ha]; exact K.1
  have g_b1 : n0 ≤ b1 := Nat.le_trans Z0 z_b1
  have K := K.ext E
  have V_b1 : AV Z h b1 .byte 5 (fun _ => .int 0) := V_b1
  show Go p e below s _ _ T (mkF m 3 #[.val (.long q0), .second, .val (.long q1), .second, .val (.int s1), .val (.int e1), .unset, .unset, .unset, .unset, .unset, .unset] [(.ref b1)])
  refine Go.of (fun _ q => XS.astore X.here hx rfl (hb hby at_3) rfl rfl (l' := #[.val (.long q0), .second, .val (.long q1), .second, .val (.int s1), .val (.int e1), .val (.ref b1), .unset, .unset, .unset, .unset, .unset]) rfl q) ?_
  show Go p e below s _ _ T (mkF m 5 #[.val (.long q0), .second, .val (.long q1), .second, .val (.int s1), .val (.int e1), .val (.ref b1), .unset, .unset, .unset, .unset, .unset] [])
  refine Go.of (fun _ q => XS.aload X.here hx rfl (hb hby at_5) rfl rfl q) ?_
  show Go p e below s _ _ T (mkF m 7 #[.val (.long q0), .second, .val (.long q1), .second, .val (.int s1), .val (.int e1), .val (.ref b1), .unset, .unset, .unset, .unset, .unset] [(.ref b1)])
  refine Go.of (fun _ q => XS.iconst X.here hx rfl (hb hby at_7) q) ?_
  show Go p e below s _ _ T (mkF m 8 #[.val (.long q0), .second, .val (.long q1), .second, .val (.int s1), .val (.int e1), .val (.ref b1), .unset, .unset, .unset, .unset, .unset] [(.int (0 : Int32)), (.ref b1)])
  refine Go.of (fun _ q => XS.lloadN X.here hx rfl (hb hby at_8) rfl q) ?_
  show Go p e below s _ _ T (mkF m 9 #[.val (.long q0), .second, .val (.long q1), .second, .val (.int s1), .val (.int e1), .val (.ref b1), .unset, .unset, .unset, .unset, .unset] [(.long q0), (.int (0 : Int32)), (.ref b1)])
  refine Go.of (fun _ q => XS.l2i X.here hx rfl (hb hby at_9) rfl q) ?_
  show Go p e below s _ _ T (mkF m 10 #[.val (.long q0), .second, .val (.long q1), .second, .val (.int s1), .val (.int e1), .val (.ref b1), .unset, .unset, .unset, .unset, .unset] [(.int (q0.toInt32)), (.int (0 : Int32)), (.ref b1)])
  refine Go.of (fun _ q => XS.lloadN X.here hx rfl (hb hby at_10) rfl q) ?_
  show Go p e below s _ _ T (mkF m 11 #[.val (.long q0), .second, .val (.long q1), .second, .val (.int s1), .val (.int e1), .val (.ref b1), .unset, .unset, .unset, .unset, .unset] [(.long q1), (.int (q0.toInt32)), (.int (0 : Int32)), (.ref b1)])
  refine Go.of (fun _ q => XS.l2i X.here hx rfl (hb hby at_11) rfl q) ?_
  show Go p e below s _ _ T (mkF m 12 #[.val (.long q0), .second, .val (.long q1), .second, .val (.int s1), .val (.int e1), .val (.ref b1), .unset, .unset, .unset, .unset, .unset] [(.int (q1.toInt32)), (.int (q0.toInt32)), (.int (0 : Int32)), (.ref b1)])
  refine Go.static X hx hZ hown (hw _ (List.mem_of_getElem? (i := 1) rfl)) (hw _ (List.mem_of_getElem? (i := 2) rfl)) (hw _ (List.mem_of_getElem? (i := 3) rfl)) (hw _ (List.mem_of_getElem? (i := 4) rfl)) (by decide) (rm1 hw (q0.toInt32) (q1.toInt32) _ n0) eT 2 (by decide) (by decide) (by decide) (by decide) (by rw [hml]; rfl) (argsL := [(.int (q0.toInt32)), (.int (q1.toInt32))]) [(.int (0 : Int32)), (.ref b1)] (lenOf pd0 rfl) rfl rfl (Nat.le_of_eq rfl) (hb hby at_12) ?_
  intro v T L' X hQ
  obtain ⟨r0, rfl, N', eT⟩ := hQ
  have N := Fr.app N N'
  show Go p e below s _ _ T (mkF m 15 #[.val (.long q0), .second, .val (.long q1), .second, .val (.int s1), .val (.int e1), .val (.ref b1), .unset, .unset, .unset, .unset, .unset] [(.int (nar .byte r0)), (.int (0 : Int32)), (.ref b1)])
  have hin : Inb (0 : Int32) 5 := ⟨by decide, by decide⟩
  refine Go.stB X hx hZ eT V_b1 hin (hb hby at_15) ?_
  intro T h X eT W
  have N := Fr.snoc X N g_b1
  have K := K.wr W (Or.inr z_b1)
  have V_b1 := V_b1.set W hin.2
  show Go p e below s _ _ T (mkF m 16 #[.val (.long q0), .second, .val (.long q1), .second, .val (.int s1), .val (.int e1), .val (.ref b1), .unset, .unset, .unset, .unset, .unset] [])
  refine Go.of (fun _ q => XS.aload X.here hx rfl (hb hby at_16) rfl rfl q) ?_
  show Go p e below s _ _ T (mkF m 18 #[.val (.long q0), .second, .val (.long q1), .second, .val (.int s1), .val (.int e1), .val (.ref b1), .unset, .unset, .unset, .unset, .unset] [(.ref b1)])
  refine Go.of (fun _ q => XS.iconst X.here hx rfl (hb hby at_18) q) ?_
  show Go p e below s _ _ T (mkF m 19 #[.val (.long q0), .second, .val (.long q1), .second, .val (.int s1), .val (.int e1), .val (.ref b1), .unset, .unset, .unset, .unset, .unset] [(.int (1 : Int32)), (.ref b1)])
  refine Go.of (fun _ q => XS.lloadN X.here hx rfl (hb hby at_19) rfl q) ?_
  show Go p e below s _ _ T (mkF m 20 #[.val (.long q0), .second, .val (.long q1), .second, .val (.int s1), .val (.int e1), .val (.ref b1), .unset, .unset, .unset, .unset, .unset] [(.long q0), (.int (1 : Int32)), (.ref b1)])
  refine Go.of (fun _ q => XS.iconst X.here hx rfl (hb hby at_20) q) ?_
  show Go p e below s _ _ T (mkF m 21 #[.val (.long q0), .second, .val (.long q1), .second, .val (.int s1), .val (.int e1), .val (.ref b1), .unset, .unset, .unset, .unset, .unset] [(.int (2 : Int32)), (.long q0), (.int (1 : Int32)), (.ref b1)])
  refine Go.of (fun _ q => XS.lushr X.here hx rfl (hb hby at_21) rfl q) ?_
  show Go p e below s _ _ T (mkF m 22 #[.val (.long q0), .second, .val (.long q1), .second, .val (.int s1), .val (.int e1), .val (.ref b1), .unset, .unset, .unset, .unset, .unset] [(.long ((q0.toUInt64 >>> ((2 : Int32) &&& 0x3f).toInt64.toUInt64).toInt64)), (.int (1 : Int32)), (.ref b1)])
  refine Go.of (fun _ q => XS.l2i X.here hx rfl (hb hby at_22) rfl q) ?_
  show Go p e below s _ _ T (mkF m 23 #[.val (.long q0), .second, .val (.long q1), .second, .val (.int s1), .val (.int e1), .val (.ref b1), .unset, .unset, .unset, .unset, .unset] [(.int (((q0.toUInt64 >>> ((2 : Int32) &&& 0x3f).toInt64.toUInt64).toInt64).toInt32)), (.int (1 : Int32)), (.ref b1)])
  refine Go.of (fun _ q => XS.lloadN X.here hx rfl (hb hby at_23) rfl q) ?_
  show Go p e below s _ _ T (mkF m 24 #[.val (.long q0), .second, .val (.long q1), .second, .val (.int s1), .val (.int e1), .val (.ref b1), .unset, .unset, .unset, .unset, .unset] [(.long q1), (.int (((q0.toUInt64 >>> ((2 : Int32) &&& 0x3f).toInt64.toUInt64).toInt64).toInt32)), (.int (1 : Int32)), (.ref b1)])
  refine Go.of (fun _ q => XS.bipush X.here hx rfl (hb hby at_24) q) ?_
  show Go p e below s _ _ T (mkF m 26 #[.val (.long q0), .second, .val (.long q1), .second, .val (.int s1), .val (.int e1), .val (.ref b1), .unset, .unset, .unset, .unset, .unset] [(.int (8 : Int32)), (.long q1), (.int (((q0.toUInt64 >>> ((2 : Int32) &&& 0x3f).toInt64.toUInt64).toInt64).toInt32)), (.int (1 : Int32)), (.ref b1)])
  refine Go.of (fun _ q => XS.lushr X.here hx rfl (hb hby at_26) rfl q) ?_
  show Go p e below s _ _ T (mkF m 27 #[.val (.long q0), .second, .val (.long q1), .second, .val (.int s1), .val (.int e1), .val (.ref b1), .unset, .unset, .unset, .unset, .unset] [(.long ((q1.toUInt64 >>> ((8 : Int32) &&& 0x3f).toInt64.toUInt64).toInt64)), (.int (((q0.toUInt64 >>> ((2 : Int32) &&& 0x3f).toInt64.toUInt64).toInt64).toInt32)), (.int (1 : Int32)), (.ref b1)])
  refine Go.of (fun _ q => XS.l2i X.here hx rfl (hb hby at_27) rfl q) ?_
  show Go p e below s _ _ T (mkF m 28 #[.val (.long q0), .second, .val (.long q1), .second, .val (.int s1), .val (.int e1), .val (.ref b1), .unset, .unset, .unset, .unset, .unset] [(.int (((q1.toUInt64 >>> ((8 : Int32) &&& 0x3f).toInt64.toUInt64).toInt64).toInt32)), (.int (((q0.toUInt64 >>> ((2 : Int32) &&& 0x3f).toInt64.toUInt64).toInt64).toInt32)), (.int (1 : Int32)), (.ref b1)])
  refine Go.static X hx hZ hown (hw _ (List.mem_of_getElem? (i := 1) rfl)) (hw _ (List.mem_of_getElem? (i := 2) rfl)) (hw _ (List.mem_of_getElem? (i := 3) rfl)) (hw _ (List.mem_of_getElem? (i := 4) rfl)) (by decide) (rm1 hw (((q0.toUInt64 >>> ((2 : Int32) &&& 0x3f).toInt64.toUInt64).toInt64).toInt32) (((q1.toUInt64 >>> ((8 : Int32) &&& 0x3f).toInt64.toUInt64).toInt64).toInt32) _ n0) eT 2 (by decide) (by decide) (by decide) (by decide) (by rw [hml]; rfl) (argsL := [(.int (((q0.toUInt64 >>> ((2 : Int32) &&& 0x3f).toInt64.toUInt64).toInt64).toInt32)), (.int (((q1.toUInt64 >>> ((8 : Int32) &&& 0x3f).toInt64.toUInt64).toInt64).toInt32))]) [(.int (1 : Int32)), (.ref b1)] (lenOf pd0 rfl) rfl rfl (Nat.le_of_eq rfl) (hb hby at_28) ?_
  intro v T L' X hQ
  obtain ⟨r1, rfl, N', eT⟩ := hQ
  have N := Fr.app N N'
  show Go p e below s _ _ T (mkF m 31 #[.val (.long q0), .second, .val (.long q1), .second, .val (.int s1), .val (.int e1), .val (.ref b1), .unset, .unset, .unset, .unset, .unset] [(.int (nar .byte r1)), (.int (1 : Int32)), (.ref b1)])
  have hin : Inb (1 : Int32) 5 := ⟨by decide, by decide⟩
  refine Go.stB X hx hZ eT V_b1 hin (hb hby at_31) ?_
  intro T h X eT W
  have N := Fr.snoc X N g_b1
  have K := K.wr W (Or.inr z_b1)
  have V_b1 := V_b1.set W hin.2
  show Go p e below s _ _ T (mkF m 32 #[.val (.long q0), .second, .val (.long q1), .second, .val (.int s1), .val (.int e1), .val (.ref b1), .unset, .unset, .unset, .unset, .unset] [])
  refine Go.of (fun _ q => XS.aload X.here hx rfl (hb hby at_32) rfl rfl q) ?_
  show Go p e below s _ _ T (mkF m 34 #[.val (.long q0), .second, .val (.long q1), .second, .val (.int s1), .val (.int e1), .val (.ref b1), .unset, .unset, .unset, .unset, .unset] [(.ref b1)])
  refine Go.of (fun _ q => XS.iconst X.here hx rfl (hb hby at_34) q) ?_
  show Go p e below s _ _ T (mkF m 35 #[.val (.long q0), .second, .val (.long q1), .second, .val (.int s1), .val (.int e1), .val (.ref b1), .unset, .unset, .unset, .unset, .unset] [(.int (2 : Int32)), (.ref b1)])
  refine Go.of (fun _ q => XS.lloadN X.here hx rfl (hb hby at_35) rfl q) ?_
  show Go p e below s _ _ T (mkF m 36 #[.val (.long q0), .second, .val (.long q1), .second, .val (.int s1), .val (.int e1), .val (.ref b1), .unset, .unset, .unset, .unset, .unset] [(.long q0), (.int (2 : Int32)), (.ref b1)])
  refine Go.of (fun _ q => XS.iconst X.here hx rfl (hb hby at_36) q) ?_
  show Go p e below s _ _ T (mkF m 37 #[.val (.long q0), .second, .val (.long q1), .second, .val (.int s1), .val (.int e1), .val (.ref b1), .unset, .unset, .unset, .unset, .unset] [(.int (4 : Int32)), (.long q0), (.int (2 : Int32)), (.ref b1)])
  refine Go.of (fun _ q => XS.lushr X.here hx rfl (hb hby at_37) rfl q) ?_
  show Go p e below s _ _ T (mkF m 38 #[.val (.long q0), .second, .val (.long q1), .second, .val (.int s1), .val (.int e1), .val (.ref b1), .unset, .unset, .unset, .unset, .unset] [(.long ((q0.toUInt64 >>> ((4 : Int32) &&& 0x3f).toInt64.toUInt64).toInt64)), (.int (2 : Int32)), (.ref b1)])
  refine Go.of (fun _ q => XS.l2i X.here hx rfl (hb hby at_38) rfl q) ?_
  show Go p e below s _ _ T (mkF m 39 #[.val (.long q0), .second, .val (.long q1), .second, .val (.int s1), .val (.int e1), .val (.ref b1), .unset, .unset, .unset, .unset, .unset] [(.int (((q0.toUInt64 >>> ((4 : Int32) &&& 0x3f).toInt64.toUInt64).toInt64).toInt32)), (.int (2 : Int32)), (.ref b1)])
  refine Go.of (fun _ q => XS.lloadN X.here hx rfl (hb hby at_39) rfl q) ?_
  show Go p e below s _ _ T (mkF m 40 #[.val (.long q0), .second, .val (.long q1), .second, .val (.int s1), .val (.int e1), .val (.ref b1), .unset, .unset, .unset, .unset, .unset] [(.long q1), (.int (((q0.toUInt64 >>> ((4 : Int32) &&& 0x3f).toInt64.toUInt64).toInt64).toInt32)), (.int (2 : Int32)), (.ref b1)])
  refine Go.of (fun _ q => XS.bipush X.here hx rfl (hb hby at_40) q) ?_
  show Go p e below s _ _ T (mkF m 42 #[.val (.long q0), .second, .val (.long q1), .second, .val (.int s1), .val (.int e1), .val (.ref b1), .unset, .unset, .unset, .unset, .unset] [(.int (16 : Int32)), (.long q1), (.int (((q0.toUInt64 >>> ((4 : Int32) &&& 0x3f).toInt64.toUInt64).toInt64).toInt32)), (.int (2 : Int32)), (.ref b1)])
  refine Go.of (fun _ q => XS.lushr X.here hx rfl (hb hby at_42) rfl q) ?_
  show Go p e below s _ _ T (mkF m 43 #[.val (.long q0), .second, .val (.long q1), .second, .val (.int s1), .val (.int e1), .val (.ref b1), .unset, .unset, .unset, .unset, .unset] [(.long ((q1.toUInt64 >>> ((16 : Int32) &&& 0x3f).toInt64.toUInt64).toInt64)), (.int (((q0.toUInt64 >>> ((4 : Int32) &&& 0x3f).toInt64.toUInt64).toInt64).toInt32)), (.int (2 : Int32)), (.ref b1)])
  refine Go.of (fun _ q => XS.l2i X.here hx rfl (hb hby at_43) rfl q) ?_
  show Go p e below s _ _ T (mkF m 44 #[.val (.long q0), .second, .val (.long q1), .second, .val (.int s1), .val (.int e1), .val (.ref b1), .unset, .unset, .unset, .unset, .unset] [(.int (((q1.toUInt64 >>> ((16 : Int32) &&& 0x3f).toInt64.toUInt64).toInt64).toInt32)), (.int (((q0.toUInt64 >>> ((4 : Int32) &&& 0x3f).toInt64.toUInt64).toInt64).toInt32)), (.int (2 : Int32)), (.ref b1)])
  refine Go.static X hx hZ hown (hw _ (List.mem_of_getElem? (i := 1) rfl)) (hw _ (List.mem_of_getElem? (i := 2) rfl)) (hw _ (List.mem_of_getElem? (i := 3) rfl)) (hw _ (List.mem_of_getElem? (i := 4) rfl)) (by decide) (rm1 hw (((q0.toUInt64 >>> ((4 : Int32) &&& 0x3f).toInt64.toUInt64).toInt64).toInt32) (((q1.toUInt64 >>> ((16 : Int32) &&& 0x3f).toInt64.toUInt64).toInt64).toInt32) _ n0) eT 2 (by decide) (by decide) (by decide) (by decide) (by rw [hml]; rfl) (argsL := [(.int (((q0.toUInt64 >>> ((4 : Int32) &&& 0x3f).toInt64.toUInt64).toInt64).toInt32)), (.int (((q1.toUInt64 >>> ((16 : Int32) &&& 0x3f).toInt64.toUInt64).toInt64).toInt32))]) [(.int (2 : Int32)), (.ref b1)] (lenOf pd0 rfl) rfl rfl (Nat.le_of_eq rfl) (hb hby at_44) ?_
  intro v T L' X hQ
  obtain ⟨r2, rfl, N', eT⟩ := hQ
  have N := Fr.app N N'
  show Go p e below s _ _ T (mkF m 47 #[.val (.long q0), .second, .val (.long q1), .second, .val (.int s1), .val (.int e1), .val (.ref b1), .unset, .unset, .unset, .unset, .unset] [(.int (nar .byte r2)), (.int (2 : Int32)), (.ref b1)])
  have hin : Inb (2 : Int32) 5 := ⟨by decide, by decide⟩
  refine Go.stB X hx hZ eT V_b1 hin (hb hby at_47) ?_
  intro T h X eT W
  have N := Fr.snoc X N g_b1
  have K := K.wr W (Or.inr z_b1)
  have V_b1 := V_b1.set W hin.2
  show Go p e below s _ _ T (mkF m 48 #[.val (.long q0), .second, .val (.long q1), .second, .val (.int s1), .val (.int e1), .val (.ref b1), .unset, .unset, .unset, .unset, .unset] [])
  refine Go.of (fun _ q => XS.aload X.here hx rfl (hb hby at_48) rfl rfl q) ?_
  show Go p e below s _ _ T (mkF m 50 #[.val (.long q0), .second, .val (.long q1), .second, .val (.int s1), .val (.int e1), .val (.ref b1), .unset, .unset, .unset, .unset, .unset] [(.ref b1)])
  refine Go.of (fun _ q => XS.iconst X.here hx rfl (hb hby at_50) q) ?_
  show Go p e below s _ _ T (mkF m 51 #[.val (.long q0), .second, .val (.long q1), .second, .val (.int s1), .val (.int e1), .val (.ref b1), .unset, .unset, .unset, .unset, .unset] [(.int (3 : Int32)), (.ref b1)])
  refine Go.of (fun _ q => XS.lloadN X.here hx rfl (hb hby at_51) rfl q) ?_
  show Go p e below s _ _ T (mkF m 52 #[.val (.long q0), .second, .val (.long q1), .second, .val (.int s1), .val (.int e1), .val (.ref b1), .unset, .unset, .unset, .unset, .unset] [(.long q0), (.int (3 : Int32)), (.ref b1)])
  refine Go.of (fun _ q => XS.bipush X.here hx rfl (hb hby at_52) q) ?_
  show Go p e below s _ _ T (mkF m 54 #[.val (.long q0), .second, .val (.long q1), .second, .val (.int s1), .val (.int e1), .val (.ref b1), .unset, .unset, .unset, .unset, .unset] [(.int (6 : Int32)), (.long q0), (.int (3 : Int32)), (.ref b1)])
  refine Go.of (fun _ q => XS.lushr X.here hx rfl (hb hby at_54) rfl q) ?_
  show Go p e below s _ _ T (mkF m 55 #[.val (.long q0), .second, .val (.long q1), .second, .val (.int s1), .val (.int e1), .val (.ref b1), .unset, .unset, .unset, .unset, .unset] [(.long ((q0.toUInt64 >>> ((6 : Int32) &&& 0x3f).toInt64.toUInt64).toInt64)), (.int (3 : Int32)), (.ref b1)])
  refine Go.of (fun _ q => XS.l2i X.here hx rfl (hb hby at_55) rfl q) ?_
  show Go p e below s _ _ T (mkF m 56 #[.val (.long q0), .second, .val (.long q1), .second, .val (.int s1), .val (.int e1), .val (.ref b1), .unset, .unset, .unset, .unset, .unset] [(.int (((q0.toUInt64 >>> ((6 : Int32) &&& 0x3f).toInt64.toUInt64).toInt64).toInt32)), (.int (3 : Int32)), (.ref b1)])
  refine Go.of (fun _ q => XS.lloadN X.here hx rfl (hb hby at_56) rfl q) ?_
  show Go p e below s _ _ T (mkF m 57 #[.val (.long q0), .second, .val (.long q1), .second, .val (.int s1), .val (.int e1), .val (.ref b1), .unset, .unset, .unset, .unset, .unset] [(.long q1), (.int (((q0.toUInt64 >>> ((6 : Int32) &&& 0x3f).toInt64.toUInt64).toInt64).toInt32)), (.int (3 : Int32)), (.ref b1)])
  refine Go.of (fun _ q => XS.bipush X.here hx rfl (hb hby at_57) q) ?_
  show Go p e below s _ _ T (mkF m 59 #[.val (.long q0), .second, .val (.long q1), .second, .val (.int s1), .val (.int e1), .val (.ref b1), .unset, .unset, .unset, .unset, .unset] [(.int (24 : Int32)), (.long q1), (.int (((q0.toUInt64 >>> ((6 : Int32) &&& 0x3f).toInt64.toUInt64).toInt64).toInt32)), (.int (3 : Int32)), (.ref b1)])
  refine Go.of (fun _ q => XS.lushr X.here hx rfl (hb hby at_59) rfl q) ?_
  show Go p e below s _ _ T (mkF m 60 #[.val (.long q0), .second, .val (.long q1), .second, .val (.int s1), .val (.int e1), .val (.ref b1), .unset, .unset, .unset, .unset, .unset] [(.long ((q1.toUInt64 >>> ((24 : Int32) &&& 0x3f).toInt64.toUInt64).toInt64)), (.int (((q0.toUInt64 >>> ((6 : Int32) &&& 0x3f).toInt64.toUInt64).toInt64).toInt32)), (.int (3 : Int32)), (.ref b1)])
  refine Go.of (fun _ q => XS.l2i X.here hx rfl (hb hby at_60) rfl q) ?_
  show Go p e below s _ _ T (mkF m 61 #[.val (.long q0), .second, .val (.long q1), .second, .val (.int s1), .val (.int e1), .val (.ref b1), .unset, .unset, .unset, .unset, .unset] [(.int (((q1.toUInt64 >>> ((24 : Int32) &&& 0x3f).toInt64.toUInt64).toInt64).toInt32)), (.int (((q0.toUInt64 >>> ((6 : Int32) &&& 0x3f).toInt64.toUInt64).toInt64).toInt32)), (.int (3 : Int32)), (.ref b1)])
  refine Go.static X hx hZ hown (hw _ (List.mem_of_getElem? (i := 1) rfl)) (hw _ (List.mem_of_getElem? (i := 2) rfl)) (hw _ (List.mem_of_getElem? (i := 3) rfl)) (hw _ (List.mem_of_getElem? (i := 4) rfl)) (by decide) (rm1 hw (((q0.toUInt64 >>> ((6 : Int32) &&& 0x3f).toInt64.toUInt64).toInt64).toInt32) (((q1.toUInt64 >>> ((24 : Int32) &&& 0x3f).toInt64.toUInt64).toInt64).toInt32) _ n0) eT 2 (by decide) (by decide) (by decide) (by decide) (by rw [hml]; rfl) (argsL := [(.int (((q0.toUInt64 >>> ((6 : Int32) &&& 0x3f).toInt64.toUInt64).toInt64).toInt32)), (.int (((q1.toUInt64 >>> ((24 : Int32) &&& 0x3f).toInt64.toUInt64).toInt64).toInt32))]) [(.int (3 : Int32)), (.ref b1)] (lenOf pd0 rfl) rfl rfl (Nat.le_of_eq rfl) (hb hby at_61) ?_
  intro v T L' X hQ
  obtain ⟨r3, rfl, N', eT⟩ := hQ
  have N := Fr.app N N'
  show Go p e below s _ _ T (mkF m 64 #[.val (.long q0), .second, .val (.long q1), .second, .val (.int s1), .val (.int e1), .val (.ref b1), .unset, .unset, .unset, .unset, .unset] [(.int (nar .byte r3)), (.int (3 : Int32)), (.ref b1)])
  have hin : Inb (3 : Int32) 5 := ⟨by decide, by decide⟩
  refine Go.stB X hx hZ eT V_b1 hin (hb hby at_64) ?_
  intro T h X eT W
  have N := Fr.snoc X N g_b1
  have K := K.wr W (Or.inr z_b1)
  have V_b1 := V_b1.set W hin.2
  show Go p e below s _ _ T (mkF m 65 #[.val (.long q0), .second, .val (.long q1), .second, .val (.int s1), .val (.int e1), .val (.ref b1), .unset, .unset, .unset, .unset, .unset] [])
  refine Go.of (fun _ q => XS.aload X.here hx rfl (hb hby at_65) rfl rfl q) ?_
  show Go p e below s _ _ T (mkF m 67 #[.val (.long q0), .second, .val (.long q1), .second, .val (.int s1), .val (.int e1), .val (.ref b1), .unset, .unset, .unset, .unset, .unset] [(.ref b1)])
  refine Go.of (fun _ q => XS.iconst X.here hx rfl (hb hby at_67) q) ?_
  show Go p e below s _ _ T (mkF m 68 #[.val (.long q0), .second, .val (.long q1), .second, .val (.int s1), .val (.int e1), .val (.ref b1), .unset, .unset, .unset, .unset, .unset] [(.int (4 : Int32)), (.ref b1)])
  refine Go.of (fun _ q => XS.lloadN X.here hx rfl (hb hby at_68) rfl q) ?_
  show Go p e below s _ _ T (mkF m 69 #[.val (.long q0), .second, .val (.long q1), .second, .val (.int s1), .val (.int e1), .val (.ref b1), .unset, .unset, .unset, .unset, .unset] [(.long q0), (.int (4 : Int32)), (.ref b1)])
  refine Go.of (fun _ q => XS.bipush X.here hx rfl (hb hby at_69) q) ?_
  show Go p e below s _ _ T (mkF m 71 #[.val (.long q0), .second, .val (.long q1), .second, .val (.int s1), .val (.int e1), .val (.ref b1), .unset, .unset, .unset, .unset, .unset] [(.int (8 : Int32)), (.long q0), (.int (4 : Int32)), (.ref b1)])
  refine Go.of (fun _ q => XS.lushr X.here hx rfl (hb hby at_71) rfl q) ?_
  show Go p e below s _ _ T (mkF m 72 #[.val (.long q0), .second, .val (.long q1), .second, .val (.int s1), .val (.int e1), .val (.ref b1), .unset, .unset, .unset, .unset, .unset] [(.long ((q0.toUInt64 >>> ((8 : Int32) &&& 0x3f).toInt64.toUInt64).toInt64)), (.int (4 : Int32)), (.ref b1)])
  refine Go.of (fun _ q => XS.l2i X.here hx rfl (hb hby at_72) rfl q) ?_
  show Go p e below s _ _ T (mkF m 73 #[.val (.long q0), .second, .val (.long q1), .second, .val (.int s1), .val (.int e1), .val (.ref b1), .unset, .unset, .unset, .unset, .unset] [(.int (((q0.toUInt64 >>> ((8 : Int32) &&& 0x3f).toInt64.toUInt64).toInt64).toInt32)), (.int (4 : Int32)), (.ref b1)])
  refine Go.of (fun _ q => XS.lloadN X.here hx rfl (hb hby at_73) rfl q) ?_
  show Go p e below s _ _ T (mkF m 74 #[.val (.long q0), .second, .val (.long q1), .second, .val (.int s1), .val (.int e1), .val (.ref b1), .unset, .unset, .unset, .unset, .unset] [(.long q1), (.int (((q0.toUInt64 >>> ((8 : Int32) &&& 0x3f).toInt64.toUInt64).toInt64).toInt32)), (.int (4 : Int32)), (.ref b1)])
  refine Go.of (fun _ q => XS.bipush X.here hx rfl (hb hby at_74) q) ?_
  show Go p e below s _ _ T (mkF m 76 #[.val (.long q0), .second, .val (.long q1), .second, .val (.int s1), .val (.int e1), .val (.ref b1), .unset, .unset, .unset, .unset, .unset] [(.int (32 : Int32)), (.long q1), (.int (((q0.toUInt64 >>> ((8 : Int32) &&& 0x3f).toInt64.toUInt64).toInt64).toInt32)), (.int (4 : Int32)), (.ref b1)])
  refine Go.of (fun _ q => XS.lushr X.here hx rfl (hb hby at_76) rfl q) ?_
  show Go p e below s _ _ T (mkF m 77 #[.val (.long q0), .second, .val (.long q1), .second, .val (.int s1), .val (.int e1), .val (.ref b1), .unset, .unset, .unset, .unset, .unset] [(.long ((q1.toUInt64 >>> ((32 : Int32) &&& 0x3f).toInt64.toUInt64).toInt64)), (.int (((q0.toUInt64 >>> ((8 : Int32) &&& 0x3f).toInt64.toUInt64).toInt64).toInt32)), (.int (4 : Int32)), (.ref b1)])
  refine Go.of (fun _ q => XS.l2i X.here hx rfl (hb hby at_77) rfl q) ?_
  show Go p e below s _ _ T (mkF m 78 #[.val (.long q0), .second, .val (.long q1), .second, .val (.int s1), .val (.int e1), .val (.ref b1), .unset, .unset, .unset, .unset, .unset] [(.int (((q1.toUInt64 >>> ((32 : Int32) &&& 0x3f).toInt64.toUInt64).toInt64).toInt32)), (.int (((q0.toUInt64 >>> ((8 : Int32) &&& 0x3f).toInt64.toUInt64).toInt64).toInt32)), (.int (4 : Int32)), (.ref b1)])
  refine Go.static X hx hZ hown (hw _ (List.mem_of_getElem? (i := 1) rfl)) (hw _ (List.mem_of_getElem? (i := 2) rfl)) (hw _ (List.mem_of_getElem? (i := 3) rfl)) (hw _ (List.mem_of_getElem? (i := 4) rfl)) (by decide) (rm1 hw (((q0.toUInt64 >>> ((8 : Int32) &&& 0x3f).toInt64.toUInt64).toInt64).toInt32) (((q1.toUInt64 >>> ((32 : Int32) &&& 0x3f).toInt64.toUInt64).toInt64).toInt32) _ n0) eT 2 (by decide) (by decide) (by decide) (by decide) (by rw [hml]; rfl) (argsL := [(.int (((q0.toUInt64 >>> ((8 : Int32) &&& 0x3f).toInt64.toUInt64).toInt64).toInt32)), (.int (((q1.toUInt64 >>> ((32 : Int32) &&& 0x3f).toInt64.toUInt64).toInt64).toInt32))]) [(.int (4 : Int32)), (.ref b1)] (lenOf pd0 rfl) rfl rfl (Nat.le_of_eq rfl) (hb hby at_78) ?_
  intro v T L' X hQ
  obtain ⟨r4, rfl, N', eT⟩ := hQ
  have N := Fr.app N N'
  show Go p e below s _ _ T (mkF m 81 #[.val (.long q0), .second, .val (.long q1), .second, .val (.int s1), .val (.int e1), .val (.ref b1), .unset, .unset, .unset, .unset, .unset] [(.int (nar .byte r4)), (.int (4 : Int32)), (.ref b1)])
  have hin : Inb (4 : Int32) 5 := ⟨by decide, by decide⟩
  refine Go.stB X hx hZ eT V_b1 hin (hb hby at_81) ?_
  intro T h X eT W
  have N := Fr.snoc X N g_b1
  have K := K.wr W (Or.inr z_b1)
  have V_b1 := V_b1.set W hin.2
  show Go p e below s _ _ T (mkF m 82 #[.val (.long q0), .second, .val (.long q1), .second, .val (.int s1), .val (.int e1), .val (.ref b1), .unset, .unset, .unset, .unset, .unset] [])
  obtain ⟨B, V_b1⟩ : ∃ B : Nat → Int32, AV Z h b1 .byte 5 (fun j => .int (nar .byte (B j))) := ⟨fun j => match j with | 0 => nar .byte r0 | 1 => nar .byte r1 | 2 => nar .byte r2 | 3 => nar .byte r3 | _ => nar .byte r4, V_b1.congr (fun j hj => by match j, hj with | 0, _ => rfl | 1, _ => rfl | 2, _ => rfl | 3, _ => rfl | 4, _ => rfl)⟩
  refine Go.of (fun _ q => XS.iload X.here hx rfl (hb hby at_82) rfl q) ?_
  show Go p e below s _ _ T (mkF m 84 #[.val (.long q0), .second, .val (.long q1), .second, .val (.int s1), .val (.int e1), .val (.ref b1), .unset, .unset, .unset, .unset, .unset] [(.int s1)])
  refine Go.of (X.ldcInt hx hown (mvT hZ (hw _ (List.mem_of_getElem? (i := 5) rfl))) (g := (mkF m 84 #[.val (.long q0), .second, .val (.long q1), .second, .val (.int s1), .val (.int e1), .val (.ref b1), .unset, .unset, .unset, .unset, .unset] [(.int s1)])) rfl (hb hby at_84)) ?_
  show Go p e below s _ _ T (mkF m 86 #[.val (.long q0), .second, .val (.long q1), .second, .val (.int s1), .val (.int e1), .val (.ref b1), .unset, .unset, .unset, .unset, .unset] [(.int (2147483647 : Int32)), (.int s1)])
  refine Go.of (fun _ q => XS.iand X.here hx rfl (hb hby at_86) rfl q) ?_
  show Go p e below s _ _ T (mkF m 87 #[.val (.long q0), .second, .val (.long q1), .second, .val (.int s1), .val (.int e1), .val (.ref b1), .unset, .unset, .unset, .unset, .unset] [(.int (s1 &&& (2147483647 : Int32)))])
  refine Go.of (fun _ q => XS.bipush X.here hx rfl (hb hby at_87) q) ?_
  show Go p e below s _ _ T (mkF m 89 #[.val (.long q0), .second, .val (.long q1), .second, .val (.int s1), .val (.int e1), .val (.ref b1), .unset, .unset, .unset, .unset, .unset] [(.int (6 : Int32)), (.int (s1 &&& (2147483647 : Int32)))])
  refine Go.of (fun _ q => RoadKit.iremM X hx rfl (hb hby at_89) rfl (by decide) q) ?_
  show Go p e below s _ _ T (mkF m 90 #[.val (.long q0), .second, .val (.long q1), .second, .val (.int s1), .val (.int e1), .val (.ref b1), .unset, .unset, .unset, .unset, .unset] [(.int ((s1 &&& (2147483647 : Int32)) % (6 : Int32)))])
  refine Go.of (fun _ q => XS.istore X.here hx rfl (hb hby at_90) rfl (l' := #[.val (.long q0), .second, .val (.long q1), .second, .val (.int s1), .val (.int e1), .val (.ref b1), .val (.int ((s1 &&& (2147483647 : Int32)) % (6 : Int32))), .unset, .unset, .unset, .unset]) rfl q) ?_
  show Go p e below s _ _ T (mkF m 92 #[.val (.long q0), .second, .val (.long q1), .second, .val (.int s1), .val (.int e1), .val (.ref b1), .val (.int ((s1 &&& (2147483647 : Int32)) % (6 : Int32))), .unset, .unset, .unset, .unset] [])
  have hb1 := own_st s1
  obtain ⟨st, hst⟩ : ∃ z : Int32, z = ((s1 &&& (2147483647 : Int32)) % (6 : Int32)) := ⟨_, rfl⟩
  rw [← hst]
  rw [← hst] at hb1
  obtain ⟨h0s, h5s⟩ := hb1
  refine Go.of (fun _ q => XS.iload X.here hx rfl (hb hby at_92) rfl q) ?_
  show Go p e below s _ _ T (mkF m 94 #[.val (.long q0), .second, .val (.long q1), .second, .val (.int s1), .val (.int e1), .val (.ref b1), .val (.int st), .unset, .unset, .unset, .unset] [(.int st)])
  refine Go.of (fun _ q => XS.iload X.here hx rfl (hb hby at_94) rfl q) ?_
  show Go p e below s _ _ T (mkF m 96 #[.val (.long q0), .second, .val (.long q1), .second, .val (.int s1), .val (.int e1), .val (.ref b1), .val (.int st), .unset, .unset, .unset, .unset] [(.int e1), (.int st)])
  refine Go.of (X.ldcInt hx hown (mvT hZ (hw _ (List.mem_of_getElem? (i := 5) rfl))) (g := (mkF m 96 #[.val (.long q0), .second, .val (.long q1), .second, .val (.int s1), .val (.int e1), .val (.ref b1), .val (.int st), .unset, .unset, .unset, .unset] [(.int e1), (.int st)])) rfl (hb hby at_96)) ?_
  show Go p e below s _ _ T (mkF m 98 #[.val (.long q0), .second, .val (.long q1), .second, .val (.int s1), .val (.int e1), .val (.ref b1), .val (.int st), .unset, .unset, .unset, .unset] [(.int (2147483647 : Int32)), (.int e1), (.int st)])
  refine Go.of (fun _ q => XS.iand X.here hx rfl (hb hby at_98) rfl q) ?_
  show Go p e below s _ _ T (mkF m 99 #[.val (.long q0), .second, .val (.long q1), .second, .val (.int s1), .val (.int e1), .val (.ref b1), .val (.int st), .unset, .unset, .unset, .unset] [(.int (e1 &&& (2147483647 : Int32))), (.int st)])
  refine Go.of (fun _ q => XS.bipush X.here hx rfl (hb hby at_99) q) ?_
  show Go p e below s _ _ T (mkF m 101 #[.val (.long q0), .second, .val (.long q1), .second, .val (.int s1), .val (.int e1), .val (.ref b1), .val (.int st), .unset, .unset, .unset, .unset] [(.int (6 : Int32)), (.int (e1 &&& (2147483647 : Int32))), (.int st)])
  refine Go.of (fun _ q => XS.iload X.here hx rfl (hb hby at_101) rfl q) ?_
  show Go p e below s _ _ T (mkF m 103 #[.val (.long q0), .second, .val (.long q1), .second, .val (.int s1), .val (.int e1), .val (.ref b1), .val (.int st), .unset, .unset, .unset, .unset] [(.int st), (.int (6 : Int32)), (.int (e1 &&& (2147483647 : Int32))), (.int st)])
  refine Go.of (fun _ q => XS.isub X.here hx rfl (hb hby at_103) rfl q) ?_
  show Go p e below s _ _ T (mkF m 104 #[.val (.long q0), .second, .val (.long q1), .second, .val (.int s1), .val (.int e1), .val (.ref b1), .val (.int st), .unset, .unset, .unset, .unset] [(.int ((6 : Int32) - st)), (.int (e1 &&& (2147483647 : Int32))), (.int st)])
  refine Go.of (fun _ q => RoadKit.iremM X hx rfl (hb hby at_104) rfl (own_nz h0s h5s) q) ?_
  show Go p e below s _ _ T (mkF m 105 #[.val (.long q0), .second, .val (.long q1), .second, .val (.int s1), .val (.int e1), .val (.ref b1), .val (.int st), .unset, .unset, .unset, .unset] [(.int ((e1 &&& (2147483647 : Int32)) % ((6 : Int32) - st))), (.int st)])
  refine Go.of (fun _ q => XS.iadd X.here hx rfl (hb hby at_105) rfl q) ?_
  show Go p e below s _ _ T (mkF m 106 #[.val (.long q0), .second, .val (.long q1), .second, .val (.int s1), .val (.int e1), .val (.ref b1), .val (.int st), .unset, .unset, .unset, .unset] [(.int (st + ((e1 &&& (2147483647 : Int32)) % ((6 : Int32) - st))))])
  refine Go.of (fun _ q => XS.istore X.here hx rfl (hb hby at_106) rfl (l' := #[.val (.long q0), .second, .val (.long q1), .second, .val (.int s1), .val (.int e1), .val (.ref b1), .val (.int st), .val (.int (st + ((e1 &&& (2147483647 : Int32)) % ((6 : Int32) - st)))), .unset, .unset, .unset]) rfl q) ?_
  show Go p e below s _ _ T (mkF m 108 #[.val (.long q0), .second, .val (.long q1), .second, .val (.int s1), .val (.int e1), .val (.ref b1), .val (.int st), .val (.int (st + ((e1 &&& (2147483647 : Int32)) % ((6 : Int32) - st)))), .unset, .unset, .unset] [])
  have hb2 := own_en h0s h5s e1
  obtain ⟨en, hen⟩ : ∃ z : Int32, z = (st + ((e1 &&& (2147483647 : Int32)) % ((6 : Int32) - st))) := ⟨_, rfl⟩
  rw [← hen]
  rw [← hen] at hb2
  obtain ⟨hse, h5⟩ := hb2
  obtain ⟨x0, hx0⟩ : ∃ z, B st.toNatClampNeg = z := ⟨_, rfl⟩
  obtain ⟨x1, hx1⟩ : ∃ z, B (st + 1).toNatClampNeg = z := ⟨_, rfl⟩
  obtain ⟨x2, hx2⟩ : ∃ z, B (st + 2).toNatClampNeg = z := ⟨_, rfl⟩
  refine Go.of (fun _ q => XS.aload X.here hx rfl (hb hby at_108) rfl rfl q) ?_
  show Go p e below s _ _ T (mkF m 110 #[.val (.long q0), .second, .val (.long q1), .second, .val (.int s1), .val (.int e1), .val (.ref b1), .val (.int st), .val (.int en), .unset, .unset, .unset] [(.ref b1)])
  refine Go.of (fun _ q => XS.iload X.here hx rfl (hb hby at_110) rfl q) ?_
  show Go p e below s _ _ T (mkF m 112 #[.val (.long q0), .second, .val (.long q1), .second, .val (.int s1), .val (.int e1), .val (.ref b1), .val (.int st), .val (.int en), .unset, .unset, .unset] [(.int st), (.ref b1)])
  refine Go.of (fun _ q => XS.iload X.here hx rfl (hb hby at_112) rfl q) ?_
  show Go p e below s _ _ T (mkF m 114 #[.val (.long q0), .second, .val (.long q1), .second, .val (.int s1), .val (.int e1), .val (.ref b1), .val (.int st), .val (.int en), .unset, .unset, .unset] [(.int en), (.int st), (.ref b1)])
  refine Go.static X hx hZ hown (hw _ (List.mem_of_getElem? (i := 6) rfl)) (hw _ (List.mem_of_getElem? (i := 7) rfl)) (hw _ (List.mem_of_getElem? (i := 8) rfl)) (hw _ (List.mem_of_getElem? (i := 9) rfl)) (by decide) (rm2 hw b1 st en B x0 x1 x2 _ n0 V_b1 h0s hse h5 hx0 hx1 hx2) eT 0 (by decide) (by decide) (by decide) (by decide) (by rw [hml]; rfl) (argsL := [(.ref b1), (.int st), (.int en)]) [] (lenOf pd1 rfl) rfl rfl (Nat.le_of_eq rfl) (hb hby at_114) ?_
  intro v T L' X hQ
  obtain ⟨rfl, N', eT⟩ := hQ
  have N := Fr.app N N'
  show Go p e below s _ _ T (mkF m 117 #[.val (.long q0), .second, .val (.long q1), .second, .val (.int s1), .val (.int e1), .val (.ref b1), .val (.int st), .val (.int en), .unset, .unset, .unset] [(.int (own_bom st en x0 x1 x2))])
  refine Go.of (fun _ q => XS.istore X.here hx rfl (hb hby at_117) rfl (l' := #[.val (.long q0), .second, .val (.long q1), .second, .val (.int s1), .val (.int e1), .val (.ref b1), .val (.int st), .val (.int en), .val (.int (own_bom st en x0 x1 x2)), .unset, .unset]) rfl q) ?_
  show Go p e below s _ _ T (mkF m 119 #[.val (.long q0), .second, .val (.long q1), .second, .val (.int s1), .val (.int e1), .val (.ref b1), .val (.int st), .val (.int en), .val (.int (own_bom st en x0 x1 x2)), .unset, .unset] [])
  refine Go.of (fun _ q => XS.iconst X.here hx rfl (hb hby at_119) q) ?_
  show Go p e below s _ _ T (mkF m 120 #[.val (.long q0), .second, .val (.long q1), .second, .val (.int s1), .val (.int e1), .val (.ref b1), .val (.int st), .val (.int en), .val (.int (own_bom st en x0 x1 x2)), .unset, .unset] [(.int (0 : Int32))])
  refine Go.of (fun _ q => XS.istore X.here hx rfl (hb hby at_120) rfl (l' := #[.val (.long q0), .second, .val (.long q1), .second, .val (.int s1), .val (.int e1), .val (.ref b1), .val (.int st), .val (.int en), .val (.int (own_bom st en x0 x1 x2)), .val (.int (0 : Int32)), .unset]) rfl q) ?_
  show Go p e below s _ _ T (mkF m 122 #[.val (.long q0), .second, .val (.long q1), .second, .val (.int s1), .val (.int e1), .val (.ref b1), .val (.int st), .val (.int en), .val (.int (own_bom st en x0 x1 x2)), .val (.int (0 : Int32)), .unset] [])
  refine Go.of (fun _ q => XS.iload X.here hx rfl (hb hby at_122) rfl q) ?_
  show Go p e below s _ _ T (mkF m 124 #[.val (.long q0), .second, .val (.long q1), .second, .val (.int s1), .val (.int e1), .val (.ref b1), .val (.int st), .val (.int en), .val (.int (own_bom st en x0 x1 x2)), .val (.int (0 : Int32)), .unset] [(.int en)])
  refine Go.of (fun _ q => XS.iload X.here hx rfl (hb hby at_124) rfl q) ?_
  show Go p e below s _ _ T (mkF m 126 #[.val (.long q0), .second, .val (.long q1), .second, .val (.int s1), .val (.int e1), .val (.ref b1), .val (.int st), .val (.int en), .val (.int (own_bom st en x0 x1 x2)), .val (.int (0 : Int32)), .unset] [(.int st), (.int en)])
  refine Go.of (fun _ q => XS.isub X.here hx rfl (hb hby at_126) rfl q) ?_
  show Go p e below s _ _ T (mkF m 127 #[.val (.long q0), .second, .val (.long q1), .second, .val (.int s1), .val (.int e1), .val (.ref b1), .val (.int st), .val (.int en), .val (.int (own_bom st en x0 x1 x2)), .val (.int (0 : Int32)), .unset] [(.int (en - st))])
  refine Go.of (fun _ q => XS.iconst X.here hx rfl (hb hby at_127) q) ?_
  show Go p e below s _ _ T (mkF m 128 #[.val (.long q0), .second, .val (.long q1), .second, .val (.int s1), .val (.int e1), .val (.ref b1), .val (.int st), .val (.int en), .val (.int (own_bom st en x0 x1 x2)), .val (.int (0 : Int32)), .unset] [(.int (3 : Int32)), (.int (en - st))])
  by_cases hc128 : (en - st) < (3 : Int32)
  · refine Go.of (fun _ q => XS.icmpYes X.here hx rfl (pc0 := 128) (pc' := 182) rfl (hb hby at_128) rfl (tlt hc128).1 (by decide) (by decide) q) ?_
    show Go p e below s _ _ T (mkF m 182 #[.val (.long q0), .second, .val (.long q1), .second, .val (.int s1), .val (.int e1), .val (.ref b1), .val (.int st), .val (.int en), .val (.int (own_bom st en x0 x1 x2)), .val (.int (0 : Int32)), .unset] [])
    refine Go.of (fun _ q => XS.iload X.here hx rfl (hb hby at_182) rfl q) ?_
    show Go p e below s _ _ T (mkF m 184 #[.val (.long q0), .second, .val (.long q1), .second, .val (.int s1), .val (.int e1), .val (.ref b1), .val (.int st), .val (.int en), .val (.int (own_bom st en x0 x1 x2)), .val (.int (0 : Int32)), .unset] [(.int (own_bom st en x0 x1 x2))])
    refine Go.of (fun _ q => XS.iload X.here hx rfl (hb hby at_184) rfl q) ?_
    show Go p e below s _ _ T (mkF m 186 #[.val (.long q0), .second, .val (.long q1), .second, .val (.int s1), .val (.int e1), .val (.ref b1), .val (.int st), .val (.int en), .val (.int (own_bom st en x0 x1 x2)), .val (.int (0 : Int32)), .unset] [(.int (0 : Int32)), (.int (own_bom st en x0 x1 x2))])
    refine Go.of (fun _ q => XS.icmpNo X.here hx rfl (hb hby at_186) rfl (teq (by simp [own_bom, hc128])).2 q) ?_
    show Go p e below s _ _ T (mkF m 189 #[.val (.long q0), .second, .val (.long q1), .second, .val (.int s1), .val (.int e1), .val (.ref b1), .val (.int st), .val (.int en), .val (.int (own_bom st en x0 x1 x2)), .val (.int (0 : Int32)), .unset] [])
    refine Go.of (fun _ q => XS.iconst X.here hx rfl (hb hby at_189) q) ?_
    show Go p e below s _ _ T (mkF m 190 #[.val (.long q0), .second, .val (.long q1), .second, .val (.int s1), .val (.int e1), .val (.ref b1), .val (.int st), .val (.int en), .val (.int (own_bom st en x0 x1 x2)), .val (.int (0 : Int32)), .unset] [(.int (1 : Int32))])
    refine Go.of (fun _ q => XS.goto X.here hx rfl (pc0 := 190) (pc' := 194) rfl (hb hby at_190) (by decide) (by decide) q) ?_
    show Go p e below s _ _ T (mkF m 194 #[.val (.long q0), .second, .val (.long q1), .second, .val (.int s1), .val (.int e1), .val (.ref b1), .val (.int st), .val (.int en), .val (.int (own_bom st en x0 x1 x2)), .val (.int (0 : Int32)), .unset] [(.int (1 : Int32))])
    refine Go.retN X hx hret (by simp) hlk (hb hby at_194) (by decide) (by decide) ?_
    try rw [eT]
    exact ⟨rfl, N⟩
  · refine Go.of (fun _ q => XS.icmpNo X.here hx rfl (hb hby at_128) rfl (flt hc128).1 q) ?_
    show Go p e below s _ _ T (mkF m 131 #[.val (.long q0), .second, .val (.long q1), .second, .val (.int s1), .val (.int e1), .val (.ref b1), .val (.int st), .val (.int en), .val (.int (own_bom st en x0 x1 x2)), .val (.int (0 : Int32)), .unset] [])
    refine Go.of (fun _ q => XS.aload X.here hx rfl (hb hby at_131) rfl rfl q) ?_
    show Go p e below s _ _ T (mkF m 133 #[.val (.long q0), .second, .val (.long q1), .second, .val (.int s1), .val (.int e1), .val (.ref b1), .val (.int st), .val (.int en), .val (.int (own_bom st en x0 x1 x2)), .val (.int (0 : Int32)), .unset] [(.ref b1)])
    refine Go.of (fun _ q => XS.iload X.here hx rfl (hb hby at_133) rfl q) ?_
    show Go p e below s _ _ T (mkF m 135 #[.val (.long q0), .second, .val (.long q1), .second, .val (.int s1), .val (.int e1), .val (.ref b1), .val (.int st), .val (.int en), .val (.int (own_bom st en x0 x1 x2)), .val (.int (0 : Int32)), .unset] [(.int st), (.ref b1)])
    refine Go.ldB (.int (nar .byte x0)) X hx hZ eT V_b1 (show Inb st 5 from (own_in h0s hse h5 hc128).1) (by show Value.int (nar .byte (B _)) = _; rw [hx0]) (hb hby at_135) ?_
    show Go p e below s _ _ T (mkF m 136 #[.val (.long q0), .second, .val (.long q1), .second, .val (.int s1), .val (.int e1), .val (.ref b1), .val (.int st), .val (.int en), .val (.int (own_bom st en x0 x1 x2)), .val (.int (0 : Int32)), .unset] [(.int (nar .byte x0))])
    refine Go.of (fun _ q => XS.sipush X.here hx rfl (hb hby at_136) q) ?_
    show Go p e below s _ _ T (mkF m 139 #[.val (.long q0), .second, .val (.long q1), .second, .val (.int s1), .val (.int e1), .val (.ref b1), .val (.int st), .val (.int en), .val (.int (own_bom st en x0 x1 x2)), .val (.int (0 : Int32)), .unset] [(.int (255 : Int32)), (.int (nar .byte x0))])
    refine Go.of (fun _ q => XS.iand X.here hx rfl (hb hby at_139) rfl q) ?_
    show Go p e below s _ _ T (mkF m 140 #[.val (.long q0), .second, .val (.long q1), .second, .val (.int s1), .val (.int e1), .val (.ref b1), .val (.int st), .val (.int en), .val (.int (own_bom st en x0 x1 x2)), .val (.int (0 : Int32)), .unset] [(.int ((nar .byte x0) &&& (255 : Int32)))])
    refine Go.of (fun _ q => XS.bipush X.here hx rfl (hb hby at_140) q) ?_
    show Go p e below s _ _ T (mkF m 142 #[.val (.long q0), .second, .val (.long q1), .second, .val (.int s1), .val (.int e1), .val (.ref b1), .val (.int st), .val (.int en), .val (.int (own_bom st en x0 x1 x2)), .val (.int (0 : Int32)), .unset] [(.int (16 : Int32)), (.int ((nar .byte x0) &&& (255 : Int32)))])
    refine Go.of (fun _ q => XS.ishl X.here hx rfl (hb hby at_142) rfl q) ?_
    show Go p e below s _ _ T (mkF m 143 #[.val (.long q0), .second, .val (.long q1), .second, .val (.int s1), .val (.int e1), .val (.ref b1), .val (.int st), .val (.int en), .val (.int (own_bom st en x0 x1 x2)), .val (.int (0 : Int32)), .unset] [(.int (((nar .byte x0) &&& (255 : Int32)) <<< ((16 : Int32) &&& 31)))])
    refine Go.of (fun _ q => XS.aload X.here hx rfl (hb hby at_143) rfl rfl q) ?_
    show Go p e below s _ _ T (mkF m 145 #[.val (.long q0), .second, .val (.long q1), .second, .val (.int s1), .val (.int e1), .val (.ref b1), .val (.int st), .val (.int en), .val (.int (own_bom st en x0 x1 x2)), .val (.int (0 : Int32)), .unset] [(.ref b1), (.int (((nar .byte x0) &&& (255 : Int32)) <<< ((16 : Int32) &&& 31)))])
    refine Go.of (fun _ q => XS.iload X.here hx rfl (hb hby at_145) rfl q) ?_
    show Go p e below s _ _ T (mkF m 147 #[.val (.long q0), .second, .val (.long q1), .second, .val (.int s1), .val (.int e1), .val (.ref b1), .val (.int st), .val (.int en), .val (.int (own_bom st en x0 x1 x2)), .val (.int (0 : Int32)), .unset] [(.int st), (.ref b1), (.int (((nar .byte x0) &&& (255 : Int32)) <<< ((16 : Int32) &&& 31)))])
    refine Go.of (fun _ q => XS.iconst X.here hx rfl (hb hby at_147) q) ?_
    show Go p e below s _ _ T (mkF m 148 #[.val (.long q0), .second, .val (.long q1), .second, .val (.int s1), .val (.int e1), .val (.ref b1), .val (.int st), .val (.int en), .val (.int (own_bom st en x0 x1 x2)), .val (.int (0 : Int32)), .unset] [(.int (1 : Int32)), (.int st), (.ref b1), (.int (((nar .byte x0) &&& (255 : Int32)) <<< ((16 : Int32) &&& 31)))])
    refine Go.of (fun _ q => XS.iadd X.here hx rfl (hb hby at_148) rfl q) ?_
    show Go p e below s _ _ T (mkF m 149 #[.val (.long q0), .second, .val (.long q1), .second, .val (.int s1), .val (.int e1), .val (.ref b1), .val (.int st), .val (.int en), .val (.int (own_bom st en x0 x1 x2)), .val (.int (0 : Int32)), .unset] [(.int (st + (1 : Int32))), (.ref b1), (.int (((nar .byte x0) &&& (255 : Int32)) <<< ((16 : Int32) &&& 31)))])
    refine Go.ldB (.int (nar .byte x1)) X hx hZ eT V_b1 (show Inb (st + (1 : Int32)) 5 from (own_in h0s hse h5 hc128).2.1) (by show Value.int (nar .byte (B _)) = _; rw [hx1]) (hb hby at_149) ?_
    show Go p e below s _ _ T (mkF m 150 #[.val (.long q0), .second, .val (.long q1), .second, .val (.int s1), .val (.int e1), .val (.ref b1), .val (.int st), .val (.int en), .val (.int (own_bom st en x0 x1 x2)), .val (.int (0 : Int32)), .unset] [(.int (nar .byte x1)), (.int (((nar .byte x0) &&& (255 : Int32)) <<< ((16 : Int32) &&& 31)))])
    refine Go.of (fun _ q => XS.sipush X.here hx rfl (hb hby at_150) q) ?_
    show Go p e below s _ _ T (mkF m 153 #[.val (.long q0), .second, .val (.long q1), .second, .val (.int s1), .val (.int e1), .val (.ref b1), .val (.int st), .val (.int en), .val (.int (own_bom st en x0 x1 x2)), .val (.int (0 : Int32)), .unset] [(.int (255 : Int32)), (.int (nar .byte x1)), (.int (((nar .byte x0) &&& (255 : Int32)) <<< ((16 : Int32) &&& 31)))])
    refine Go.of (fun _ q => XS.iand X.here hx rfl (hb hby at_153) rfl q) ?_
    show Go p e below s _ _ T (mkF m 154 #[.val (.long q0), .second, .val (.long q1), .second, .val (.int s1), .val (.int e1), .val (.ref b1), .val (.int st), .val (.int en), .val (.int (own_bom st en x0 x1 x2)), .val (.int (0 : Int32)), .unset] [(.int ((nar .byte x1) &&& (255 : Int32))), (.int (((nar .byte x0) &&& (255 : Int32)) <<< ((16 : Int32) &&& 31)))])
    refine Go.of (fun _ q => XS.bipush X.here hx rfl (hb hby at_154) q) ?_
    show Go p e below s _ _ T (mkF m 156 #[.val (.long q0), .second, .val (.long q1), .second, .val (.int s1), .val (.int e1), .val (.ref b1), .val (.int st), .val (.int en), .val (.int (own_bom st en x0 x1 x2)), .val (.int (0 : Int32)), .unset] [(.int (8 : Int32)), (.int ((nar .byte x1) &&& (255 : Int32))), (.int (((nar .byte x0) &&& (255 : Int32)) <<< ((16 : Int32) &&& 31)))])
    refine Go.of (fun _ q => XS.ishl X.here hx rfl (hb hby at_156) rfl q) ?_
    show Go p e below s _ _ T (mkF m 157 #[.val (.long q0), .second, .val (.long q1), .second, .val (.int s1), .val (.int e1), .val (.ref b1), .val (.int st), .val (.int en), .val (.int (own_bom st en x0 x1 x2)), .val (.int (0 : Int32)), .unset] [(.int (((nar .byte x1) &&& (255 : Int32)) <<< ((8 : Int32) &&& 31))), (.int (((nar .byte x0) &&& (255 : Int32)) <<< ((16 : Int32) &&& 31)))])
    refine Go.of (fun _ q => XS.ior X.here hx rfl (hb hby at_157) rfl q) ?_
    show Go p e below s _ _ T (mkF m 158 #[.val (.long q0), .second, .val (.long q1), .second, .val (.int s1), .val (.int e1), .val (.ref b1), .val (.int st), .val (.int en), .val (.int (own_bom st en x0 x1 x2)), .val (.int (0 : Int32)), .unset] [(.int ((((nar .byte x0) &&& (255 : Int32)) <<< ((16 : Int32) &&& 31)) ||| (((nar .byte x1) &&& (255 : Int32)) <<< ((8 : Int32) &&& 31))))])
    refine Go.of (fun _ q => XS.aload X.here hx rfl (hb hby at_158) rfl rfl q) ?_
    show Go p e below s _ _ T (mkF m 160 #[.val (.long q0), .second, .val (.long q1), .second, .val (.int s1), .val (.int e1), .val (.ref b1), .val (.int st), .val (.int en), .val (.int (own_bom st en x0 x1 x2)), .val (.int (0 : Int32)), .unset] [(.ref b1), (.int ((((nar .byte x0) &&& (255 : Int32)) <<< ((16 : Int32) &&& 31)) ||| (((nar .byte x1) &&& (255 : Int32)) <<< ((8 : Int32) &&& 31))))])
    refine Go.of (fun _ q => XS.iload X.here hx rfl (hb hby at_160) rfl q) ?_
    show Go p e below s _ _ T (mkF m 162 #[.val (.long q0), .second, .val (.long q1), .second, .val (.int s1), .val (.int e1), .val (.ref b1), .val (.int st), .val (.int en), .val (.int (own_bom st en x0 x1 x2)), .val (.int (0 : Int32)), .unset] [(.int st), (.ref b1), (.int ((((nar .byte x0) &&& (255 : Int32)) <<< ((16 : Int32) &&& 31)) ||| (((nar .byte x1) &&& (255 : Int32)) <<< ((8 : Int32) &&& 31))))])
    refine Go.of (fun _ q => XS.iconst X.here hx rfl (hb hby at_162) q) ?_
    show Go p e below s _ _ T (mkF m 163 #[.val (.long q0), .second, .val (.long q1), .second, .val (.int s1), .val (.int e1), .val (.ref b1), .val (.int st), .val (.int en), .val (.int (own_bom st en x0 x1 x2)), .val (.int (0 : Int32)), .unset] [(.int (2 : Int32)), (.int st), (.ref b1), (.int ((((nar .byte x0) &&& (255 : Int32)) <<< ((16 : Int32) &&& 31)) ||| (((nar .byte x1) &&& (255 : Int32)) <<< ((8 : Int32) &&& 31))))])
    refine Go.of (fun _ q => XS.iadd X.here hx rfl (hb hby at_163) rfl q) ?_
    show Go p e below s _ _ T (mkF m 164 #[.val (.long q0), .second, .val (.long q1), .second, .val (.int s1), .val (.int e1), .val (.ref b1), .val (.int st), .val (.int en), .val (.int (own_bom st en x0 x1 x2)), .val (.int (0 : Int32)), .unset] [(.int (st + (2 : Int32))), (.ref b1), (.int ((((nar .byte x0) &&& (255 : Int32)) <<< ((16 : Int32) &&& 31)) ||| (((nar .byte x1) &&& (255 : Int32)) <<< ((8 : Int32) &&& 31))))])
    refine Go.ldB (.int (nar .byte x2)) X hx hZ eT V_b1 (show Inb (st + (2 : Int32)) 5 from (own_in h0s hse h5 hc128).2.2) (by show Value.int (nar .byte (B _)) = _; rw [hx2]) (hb hby at_164) ?_
    show Go p e below s _ _ T (mkF m 165 #[.val (.long q0), .second, .val (.long q1), .second, .val (.int s1), .val (.int e1), .val (.ref b1), .val (.int st), .val (.int en), .val (.int (own_bom st en x0 x1 x2)), .val (.int (0 : Int32)), .unset] [(.int (nar .byte x2)), (.int ((((nar .byte x0) &&& (255 : Int32)) <<< ((16 : Int32) &&& 31)) ||| (((nar .byte x1) &&& (255 : Int32)) <<< ((8 : Int32) &&& 31))))])
    refine Go.of (fun _ q => XS.sipush X.here hx rfl (hb hby at_165) q) ?_
    show Go p e below s _ _ T (mkF m 168 #[.val (.long q0), .second, .val (.long q1), .second, .val (.int s1), .val (.int e1), .val (.ref b1), .val (.int st), .val (.int en), .val (.int (own_bom st en x0 x1 x2)), .val (.int (0 : Int32)), .unset] [(.int (255 : Int32)), (.int (nar .byte x2)), (.int ((((nar .byte x0) &&& (255 : Int32)) <<< ((16 : Int32) &&& 31)) ||| (((nar .byte x1) &&& (255 : Int32)) <<< ((8 : Int32) &&& 31))))])
    refine Go.of (fun _ q => XS.iand X.here hx rfl (hb hby at_168) rfl q) ?_
    show Go p e below s _ _ T (mkF m 169 #[.val (.long q0), .second, .val (.long q1), .second, .val (.int s1), .val (.int e1), .val (.ref b1), .val (.int st), .val (.int en), .val (.int (own_bom st en x0 x1 x2)), .val (.int (0 : Int32)), .unset] [(.int ((nar .byte x2) &&& (255 : Int32))), (.int ((((nar .byte x0) &&& (255 : Int32)) <<< ((16 : Int32) &&& 31)) ||| (((nar .byte x1) &&& (255 : Int32)) <<< ((8 : Int32) &&& 31))))])
    refine Go.of (fun _ q => XS.ior X.here hx rfl (hb hby at_169) rfl q) ?_
    show Go p e below s _ _ T (mkF m 170 #[.val (.long q0), .second, .val (.long q1), .second, .val (.int s1), .val (.int e1), .val (.ref b1), .val (.int st), .val (.int en), .val (.int (own_bom st en x0 x1 x2)), .val (.int (0 : Int32)), .unset] [(.int (((((nar .byte x0) &&& (255 : Int32)) <<< ((16 : Int32) &&& 31)) ||| (((nar .byte x1) &&& (255 : Int32)) <<< ((8 : Int32) &&& 31))) ||| ((nar .byte x2) &&& (255 : Int32))))])
    refine Go.of (fun _ q => XS.istore X.here hx rfl (hb hby at_170) rfl (l' := #[.val (.long q0), .second, .val (.long q1), .second, .val (.int s1), .val (.int e1), .val (.ref b1), .val (.int st), .val (.int en), .val (.int (own_bom st en x0 x1 x2)), .val (.int (0 : Int32)), .val (.int (((((nar .byte x0) &&& (255 : Int32)) <<< ((16 : Int32) &&& 31)) ||| (((nar .byte x1) &&& (255 : Int32)) <<< ((8 : Int32) &&& 31))) ||| ((nar .byte x2) &&& (255 : Int32))))]) rfl q) ?_
    show Go p e below s _ _ T (mkF m 172 #[.val (.long q0), .second, .val (.long q1), .second, .val (.int s1), .val (.int e1), .val (.ref b1), .val (.int st), .val (.int en), .val (.int (own_bom st en x0 x1 x2)), .val (.int (0 : Int32)), .val (.int (((((nar .byte x0) &&& (255 : Int32)) <<< ((16 : Int32) &&& 31)) ||| (((nar .byte x1) &&& (255 : Int32)) <<< ((8 : Int32) &&& 31))) ||| ((nar .byte x2) &&& (255 : Int32))))] [])
    refine Go.of (fun _ q => XS.iload X.here hx rfl (hb hby at_172) rfl q) ?_
    show Go p e below s _ _ T (mkF m 174 #[.val (.long q0), .second, .val (.long q1), .second, .val (.int s1), .val (.int e1), .val (.ref b1), .val (.int st), .val (.int en), .val (.int (own_bom st en x0 x1 x2)), .val (.int (0 : Int32)), .val (.int (((((nar .byte x0) &&& (255 : Int32)) <<< ((16 : Int32) &&& 31)) ||| (((nar .byte x1) &&& (255 : Int32)) <<< ((8 : Int32) &&& 31))) ||| ((nar .byte x2) &&& (255 : Int32))))] [(.int (((((nar .byte x0) &&& (255 : Int32)) <<< ((16 : Int32) &&& 31)) ||| (((nar .byte x1) &&& (255 : Int32)) <<< ((8 : Int32) &&& 31))) ||| ((nar .byte x2) &&& (255 : Int32))))])
    refine Go.of (X.ldcInt hx hown (mvT hZ (hw _ (List.mem_of_getElem? (i := 10) rfl))) (g := (mkF m 174 #[.val (.long q0), .second, .val (.long q1), .second, .val (.int s1), .val (.int e1), .val (.ref b1), .val (.int st), .val (.int en), .val (.int (own_bom st en x0 x1 x2)), .val (.int (0 : Int32)), .val (.int (((((nar .byte x0) &&& (255 : Int32)) <<< ((16 : Int32) &&& 31)) ||| (((nar .byte x1) &&& (255 : Int32)) <<< ((8 : Int32) &&& 31))) ||| ((nar .byte x2) &&& (255 : Int32))))] [(.int (((((nar .byte x0) &&& (255 : Int32)) <<< ((16 : Int32) &&& 31)) ||| (((nar .byte x1) &&& (255 : Int32)) <<< ((8 : Int32) &&& 31))) ||| ((nar .byte x2) &&& (255 : Int32))))])) rfl (hb hby at_174)) ?_
    show Go p e below s _ _ T (mkF m 176 #[.val (.long q0), .second, .val (.long q1), .second, .val (.int s1), .val (.int e1), .val (.ref b1), .val (.int st), .val (.int en), .val (.int (own_bom st en x0 x1 x2)), .val (.int (0 : Int32)), .val (.int (((((nar .byte x0) &&& (255 : Int32)) <<< ((16 : Int32) &&& 31)) ||| (((nar .byte x1) &&& (255 : Int32)) <<< ((8 : Int32) &&& 31))) ||| ((nar .byte x2) &&& (255 : Int32))))] [(.int (15711167 : Int32)), (.int (((((nar .byte x0) &&& (255 : Int32)) <<< ((16 : Int32) &&& 31)) ||| (((nar .byte x1) &&& (255 : Int32)) <<< ((8 : Int32) &&& 31))) ||| ((nar .byte x2) &&& (255 : Int32))))])
    by_cases hc176 : (((((nar .byte x0) &&& (255 : Int32)) <<< ((16 : Int32) &&& 31)) ||| (((nar .byte x1) &&& (255 : Int32)) <<< ((8 : Int32) &&& 31))) ||| ((nar .byte x2) &&& (255 : Int32))) = (15711167 : Int32)
    · refine Go.of (fun _ q => XS.icmpNo X.here hx rfl (hb hby at_176) rfl (teq hc176).2 q) ?_
      show Go p e below s _ _ T (mkF m 179 #[.val (.long q0), .second, .val (.long q1), .second, .val (.int s1), .val (.int e1), .val (.ref b1), .val (.int st), .val (.int en), .val (.int (own_bom st en x0 x1 x2)), .val (.int (0 : Int32)), .val (.int (((((nar .byte x0) &&& (255 : Int32)) <<< ((16 : Int32) &&& 31)) ||| (((nar .byte x1) &&& (255 : Int32)) <<< ((8 : Int32) &&& 31))) ||| ((nar .byte x2) &&& (255 : Int32))))] [])
      refine Go.of (fun _ q => XS.iconst X.here hx rfl (hb hby at_179) q) ?_
      show Go p e below s _ _ T (mkF m 180 #[.val (.long q0), .second, .val (.long q1), .second, .val (.int s1), .val (.int e1), .val (.ref b1), .val (.int st), .val (.int en), .val (.int (own_bom st en x0 x1 x2)), .val (.int (0 : Int32)), .val (.int (((((nar .byte x0) &&& (255 : Int32)) <<< ((16 : Int32) &&& 31)) ||| (((nar .byte x1) &&& (255 : Int32)) <<< ((8 : Int32) &&& 31))) ||| ((nar .byte x2) &&& (255 : Int32))))] [(.int (3 : Int32))])
      refine Go.of (fun _ q => XS.istore X.here hx rfl (hb hby at_180) rfl (l' := #[.val (.long q0), .second, .val (.long q1), .second, .val (.int s1), .val (.int e1), .val (.ref b1), .val (.int st), .val (.int en), .val (.int (own_bom st en x0 x1 x2)), .val (.int (3 : Int32)), .val (.int (((((nar .byte x0) &&& (255 : Int32)) <<< ((16 : Int32) &&& 31)) ||| (((nar .byte x1) &&& (255 : Int32)) <<< ((8 : Int32) &&& 31))) ||| ((nar .byte x2) &&& (255 : Int32))))]) rfl q) ?_
      show Go p e below s _ _ T (mkF m 182 #[.val (.long q0), .second, .val (.long q1), .second, .val (.int s1), .val (.int e1), .val (.ref b1), .val (.int st), .val (.int en), .val (.int (own_bom st en x0 x1 x2)), .val (.int (3 : Int32)), .val (.int (((((nar .byte x0) &&& (255 : Int32)) <<< ((16 : Int32) &&& 31)) ||| (((nar .byte x1) &&& (255 : Int32)) <<< ((8 : Int32) &&& 31))) ||| ((nar .byte x2) &&& (255 : Int32))))] [])
      refine Go.of (fun _ q => XS.iload X.here hx rfl (hb hby at_182) rfl q) ?_
      show Go p e below s _ _ T (mkF m 184 #[.val (.long q0), .second, .val (.long q1), .second, .val (.int s1), .val (.int e1), .val (.ref b1), .val (.int st), .val (.int en), .val (.int (own_bom st en x0 x1 x2)), .val (.int (3 : Int32)), .val (.int (((((nar .byte x0) &&& (255 : Int32)) <<< ((16 : Int32) &&& 31)) ||| (((nar .byte x1) &&& (255 : Int32)) <<< ((8 : Int32) &&& 31))) ||| ((nar .byte x2) &&& (255 : Int32))))] [(.int (own_bom st en x0 x1 x2))])
      refine Go.of (fun _ q => XS.iload X.here hx rfl (hb hby at_184) rfl q) ?_
      show Go p e below s _ _ T (mkF m 186 #[.val (.long q0), .second, .val (.long q1), .second, .val (.int s1), .val (.int e1), .val (.ref b1), .val (.int st), .val (.int en), .val (.int (own_bom st en x0 x1 x2)), .val (.int (3 : Int32)), .val (.int (((((nar .byte x0) &&& (255 : Int32)) <<< ((16 : Int32) &&& 31)) ||| (((nar .byte x1) &&& (255 : Int32)) <<< ((8 : Int32) &&& 31))) ||| ((nar .byte x2) &&& (255 : Int32))))] [(.int (3 : Int32)), (.int (own_bom st en x0 x1 x2))])
      refine Go.of (fun _ q => XS.icmpNo X.here hx rfl (hb hby at_186) rfl (teq (by have := (own_v x0 x1 x2).mp hc176; simp [own_bom, hc128, this])).2 q) ?_
      show Go p e below s _ _ T (mkF m 189 #[.val (.long q0), .second, .val (.long q1), .second, .val (.int s1), .val (.int e1), .val (.ref b1), .val (.int st), .val (.int en), .val (.int (own_bom st en x0 x1 x2)), .val (.int (3 : Int32)), .val (.int (((((nar .byte x0) &&& (255 : Int32)) <<< ((16 : Int32) &&& 31)) ||| (((nar .byte x1) &&& (255 : Int32)) <<< ((8 : Int32) &&& 31))) ||| ((nar .byte x2) &&& (255 : Int32))))] [])
      refine Go.of (fun _ q => XS.iconst X.here hx rfl (hb hby at_189) q) ?_
      show Go p e below s _ _ T (mkF m 190 #[.val (.long q0), .second, .val (.long q1), .second, .val (.int s1), .val (.int e1), .val (.ref b1), .val (.int st), .val (.int en), .val (.int (own_bom st en x0 x1 x2)), .val (.int (3 : Int32)), .val (.int (((((nar .byte x0) &&& (255 : Int32)) <<< ((16 : Int32) &&& 31)) ||| (((nar .byte x1) &&& (255 : Int32)) <<< ((8 : Int32) &&& 31))) ||| ((nar .byte x2) &&& (255 : Int32))))] [(.int (1 : Int32))])
      refine Go.of (fun _ q => XS.goto X.here hx rfl (pc0 := 190) (pc' := 194) rfl (hb hby at_190) (by decide) (by decide) q) ?_
      show Go p e below s _ _ T (mkF m 194 #[.val (.long q0), .second, .val (.long q1), .second, .val (.int s1), .val (.int e1), .val (.ref b1), .val (.int st), .val (.int en), .val (.int (own_bom st en x0 x1 x2)), .val (.int (3 : Int32)), .val (.int (((((nar .byte x0) &&& (255 : Int32)) <<< ((16 : Int32) &&& 31)) ||| (((nar .byte x1) &&& (255 : Int32)) <<< ((8 : Int32) &&& 31))) ||| ((nar .byte x2) &&& (255 : Int32))))] [(.int (1 : Int32))])
      refine Go.retN X hx hret (by simp) hlk (hb hby at_194) (by decide) (by decide) ?_
      try rw [eT]
      exact ⟨rfl, N⟩
    · refine Go.of (fun _ q => XS.icmpYes X.here hx rfl (pc0 := 176) (pc' := 182) rfl (hb hby at_176) rfl (feq hc176).2 (by decide) (by decide) q) ?_
      show Go p e below s _ _ T (mkF m 182 #[.val (.long q0), .second, .val (.long q1), .second, .val (.int s1), .val (.int e1), .val (.ref b1), .val (.int st), .val (.int en), .val (.int (own_bom st en x0 x1 x2)), .val (.int (0 : Int32)), .val (.int (((((nar .byte x0) &&& (255 : Int32)) <<< ((16 : Int32) &&& 31)) ||| (((nar .byte x1) &&& (255 : Int32)) <<< ((8 : Int32) &&& 31))) ||| ((nar .byte x2) &&& (255 : Int32))))] [])
      refine Go.of (fun _ q => XS.iload X.here hx rfl (hb hby at_182) rfl q) ?_
      show Go p e below s _ _ T (mkF m 184 #[.val (.long q0), .second, .val (.long q1), .second, .val (.int s1), .val (.int e1), .val (.ref b1), .val (.int st), .val (.int en), .val (.int (own_bom st en x0 x1 x2)), .val (.int (0 : Int32)), .val (.int (((((nar .byte x0) &&& (255 : Int32)) <<< ((16 : Int32) &&& 31)) ||| (((nar .byte x1) &&& (255 : Int32)) <<< ((8 : Int32) &&& 31))) ||| ((nar .byte x2) &&& (255 : Int32))))] [(.int (own_bom st en x0 x1 x2))])
      refine Go.of (fun _ q => XS.iload X.here hx rfl (hb hby at_184) rfl q) ?_
      show Go p e below s _ _ T (mkF m 186 #[.val (.long q0), .second, .val (.long q1), .second, .val (.int s1), .val (.int e1), .val (.ref b1), .val (.int st), .val (.int en), .val (.int (own_bom st en x0 x1 x2)), .val (.int (0 : Int32)), .val (.int (((((nar .byte x0) &&& (255 : Int32)) <<< ((16 : Int32) &&& 31)) ||| (((nar .byte x1) &&& (255 : Int32)) <<< ((8 : Int32) &&& 31))) ||| ((nar .byte x2) &&& (255 : Int32))))] [(.int (0 : Int32)), (.int (own_bom st en x0 x1 x2))])
      refine Go.of (fun _ q => XS.icmpNo X.here hx rfl (hb hby at_186) rfl (teq (by have : ¬ _ := fun q => hc176 ((own_v x0 x1 x2).mpr q); simp only [own_bom, if_neg hc128, if_neg this])).2 q) ?_
      show Go p e below s _ _ T (mkF m 189 #[.val (.long q0), .second, .val (.long q1), .second, .val (.int s1), .val (.int e1), .val (.ref b1), .val (.int st), .val (.int en), .val (.int (own_bom st en x0 x1 x2)), .val (.int (0 : Int32)), .val (.int (((((nar .byte x0) &&& (255 : Int32)) <<< ((16 : Int32) &&& 31)) ||| (((nar .byte x1) &&& (255 : Int32)) <<< ((8 : Int32) &&& 31))) ||| ((nar .byte x2) &&& (255 : Int32))))] [])
      refine Go.of (fun _ q => XS.iconst X.here hx rfl (hb hby at_189) q) ?_
      show Go p e below s _ _ T (mkF m 190 #[.val (.long q0), .second, .val (.long q1), .second, .val (.int s1), .val (.int e1), .val (.ref b1), .val (.int st), .val (.int en), .val (.int (own_bom st en x0 x1 x2)), .val (.int (0 : Int32)), .val (.int (((((nar .byte x0) &&& (255 : Int32)) <<< ((16 : Int32) &&& 31)) ||| (((nar .byte x1) &&& (255 : Int32)) <<< ((8 : Int32) &&& 31))) ||| ((nar .byte x2) &&& (255 : Int32))))] [(.int (1 : Int32))])
      refine Go.of (fun _ q => XS.goto X.here hx rfl (pc0 := 190) (pc' := 194) rfl (hb hby at_190) (by decide) (by decide) q) ?_
      show Go p e below s _ _ T (mkF m 194 #[.val (.long q0), .second, .val (.long q1), .second, .val (.int s1), .val (.int e1), .val (.ref b1), .val (.int st), .val (.int en), .val (.int (own_bom st en x0 x1 x2)), .val (.int (0 : Int32)), .val (.int (((((nar .byte x0) &&& (255 : Int32)) <<< ((16 : Int32) &&& 31)) ||| (((nar .byte x1) &&& (255 : Int32)) <<< ((8 : Int32) &&& 31))) ||| ((nar .byte x2) &&& (255 : Int32))))] [(.int (1 : Int32))])
      refine Go.retN X hx hret (by simp) hlk (hb hby at_194) (by decide) (by decide) ?_
      try rw [eT]
      exact ⟨rfl, N⟩
set_option maxRecDepth 65536 in
set_option maxHeartbeats 40000000 in
theorem comes_1 {Post : Tables → Env → Array Value → State → Outcome → State → Prop} (hpost : ∀ tb e args s v u, (limb_1_1.after args s (.returned v) u = true ∧ limb_1_2.after args s (.returned v) u = true ∧ True) → FrameEnd s (.returned v) u (Jvm.fieldLocs frame_1_writes args s ++ Jvm.arrayLocs frame_1_arrays args s ++ Jvm.staticLocs frame_1_statics s) 16 128 → Post tb e args s (.returned v) u) :
    ArmFor flags0 classFile x code maxLocals ret World_1 tables_1 room_1 Calls_1 rest_1 Pre_1 Post := by
  intro l hfl _ _ p e ha hc hk s m args below hf hA hF happ hP
  obtain ⟨hcalls, hrest, hpre⟩ := hP
  obtain ⟨-, -, -, hnamed, -, -, -, hat⟩ := (Spec.applies_iff hf).mp happ
  obtain ⟨hg, hn⟩ := and_e (Cond.before_iff.mp (show (Jvm.Cond.and given_1 narrow_1).before args s = true from hpre))
  obtain ⟨gc, g0⟩ := and_e hg
  obtain ⟨k0, g1⟩ := and_e g0
  obtain ⟨k1, g2⟩ := and_e g1
  obtain ⟨k2, g3⟩ := and_e g2
  obtain ⟨w0, w1, w2, w3, rfl⟩ : ∃ w0 w1 w2 w3 : Value, args = #[w0, w1, w2, w3] := by
    have hs : args.size = 4 := by simpa [Cond.value, given_1] using gc
    obtain ⟨L⟩ := args
    match L, hs with
    | [w0, w1, w2, w3], _ => exact ⟨w0, w1, w2, w3, rfl⟩
  have hw := fun d (hd : d ∈ tables_1) => atoms_spec (ws := Jvm.Cond.code x code maxLocals ret :: tables_1) hat d (List.mem_cons_of_mem _ hd)
  obtain ⟨i0, ei0⟩ := isL_v k0
  obtain rfl : w0 = (.long i0) := Option.some.inj ei0
  obtain ⟨i1, ei1⟩ := isL_v k1
  obtain rfl : w1 = (.long i1) := Option.some.inj ei1
  obtain ⟨i2, ei2⟩ := is_v k2
  obtain rfl : w2 = (.int i2) := Option.some.inj ei2
  obtain ⟨i3, ei3⟩ := is_v g3
  obtain rfl : w3 = (.int i3) := Option.some.inj ei3
  obtain ⟨n, o, h1, h2, h3, _, L, rfl, ⟨rfl, N⟩, hq⟩ := rm0 (l := l) (Z := s) hw i0 i1 i2 i3 s.heap s.heap.size (Nat.le_refl _) p e ha hc hk s m _ below hf ((Spec.applies_iff_loose hf).mp happ).1 ⟨rfl, State.Warmed39.refl s, rfl⟩ trivial
  refine ⟨n, _, h1, h2, h3, hpost _ _ _ _ _ _ ⟨Cond.after_iff.mpr rfl, Cond.after_iff.mpr (eq_i res_at (Term.int_eval (1)) rfl), trivial⟩ ⟨hq.1, hq.2.1, (hq.2.2.sift fun y hy => Or.inr (N y hy)).mono (by decide) (by decide)⟩⟩
theorem main_1_1 : Claimed_1_1 := comes_1 fun _ _ _ _ _ _ h hF => ⟨h.1, hF⟩
theorem main_1_2 : Claimed_1_2 := comes_1 fun _ _ _ _ _ _ h hF => ⟨h.2.1, hF⟩
end Jvm.Pilot.@@N@@
namespace Jvm.Pilot.@@N@@
open Jvm Jvm.ClassFile Sem Op Lib Jvm.Free Jvm.Stand Jvm.Pilot.@@N@@.Jvm.D
/-! MADE BY PROGRAM (witnessworld.py) out of the Statement's table words and the real class files: 9 classes; the members and pool entries that the words name. The judged class is class 1, her method 1. -/
namespace start1
open Jvm.ClassFile
def u (s : String) : CpInfo := .utf8 (stringToUtf16 s)
/-- a pool by its gaps: so many unusable entries, then the entry; so many at the end -/
def gap : Nat → List CpInfo → List CpInfo
  | 0, r => r
  | n + 1, r => .unusable :: gap n r
def poolList (es : List (Nat × CpInfo)) (last : Nat) : List CpInfo := es.foldr (fun e r => gap e.1 (e.2 :: r)) (gap last [])
def pool (es : List (Nat × CpInfo)) (last : Nat) : Array CpInfo := ⟨poolList es last⟩
def fileOf (pool : Array CpInfo) (this : Nat) (attrs : Array Attribute := #[]) (ms : Array MethodInfo := #[]) (fl : Nat := 33) (sup : Nat := 0) (ifs : Array Nat := #[]) (fds : Array FieldInfo := #[]) : ClassFile where
  minorVersion := 0
  majorVersion := 65
  constantPool := pool
  accessFlags := fl
  thisClass := this
  superClass := sup
  interfaces := ifs
  fields := fds
  methods := ms
  attributes := attrs
def plain (name : String) (sup : Option ClassId) : Class where
  name := name
  kind := .ordinary
  loader := none
  accessFlags := 33
  super := sup
  interfaces := #[]
  cf := none
  fields := #[]
  methods := #[]
  instanceTypes := #[]
  staticTypes := #[]
  resolved := #[]
  callSites := []
  init := .initialized
  statics := none
  mirror := none

def pool0 : Array CpInfo := pool [(5, u "<init>"), (0, u "()V"), (1, .class_ 10), (1, u "java/lang/Object")] 113

def k0m0 : Method := { name := "<init>", desc := "()V", sig := { parameters := [], returnType := none }, accessFlags := 1, code := none }
/-- java/lang/Object -/
def k0 : Class := { plain "java/lang/Object" none with
  accessFlags := 33
  interfaces := #[]
  cf := some (fileOf pool0 8 #[] #[{ accessFlags := 1, nameIndex := 5, descriptorIndex := 6, attributes := #[] }] 33 0 #[] #[])
  fields := #[]
  methods := #[k0m0]
  instanceTypes := #[]
  staticTypes := #[]
  resolved := Array.replicate 124 none
  statics := none }

def pool1 : Array CpInfo := pool [(2, .class_ 4), (1, u "java/lang/Object"), (0, u "<init>"), (0, u "()V"), (0, .methodref 8 9), (0, .class_ 10), (0, .nameAndType 11 12), (0, u "com/example/fixpoint/fixpoint/SourceTextByteOrderMarkLengthPinLaw"), (0, u "pick"), (0, u "(II)B"), (0, .integer 2147483647), (0, .methodref 15 16), (0, .class_ 17), (0, .nameAndType 18 19), (0, u "com/example/fixpoint/fixpoint/SourceText"), (0, u "byteOrderMarkLength"), (0, u "([BII)I"), (0, .integer 15711167), (2, u "law"), (0, u "(JJII)Z")] 5

def k1m0 : Method := { name := "<init>", desc := "()V", sig := { parameters := [], returnType := none }, accessFlags := 1, code := none }
def k1c1 : Code := { maxStack := 6, maxLocals := 12, code := code, exceptionTable := #[], attributes := #[] }
def k1m1 : Method := { name := "law", desc := "(JJII)Z", sig := { parameters := [.long, .long, .int, .int], returnType := some .boolean }, accessFlags := 9, code := some k1c1 }
def k1c2 : Code := { maxStack := 2, maxLocals := 3, code := method_3_code, exceptionTable := #[], attributes := #[] }
def k1m2 : Method := { name := "pick", desc := "(II)B", sig := { parameters := [.int, .int], returnType := some .byte }, accessFlags := 10, code := some k1c2 }
/-- com/example/fixpoint/fixpoint/SourceTextByteOrderMarkLengthPinLaw -/
def k1 : Class := { plain "com/example/fixpoint/fixpoint/SourceTextByteOrderMarkLengthPinLaw" (some 0) with
  accessFlags := 49
  interfaces := #[]
  cf := some (fileOf pool1 8 #[] #[{ accessFlags := 1, nameIndex := 5, descriptorIndex := 6, attributes := #[] }, { accessFlags := 9, nameIndex := 23, descriptorIndex := 24, attributes := #[] }, { accessFlags := 10, nameIndex := 11, descriptorIndex := 12, attributes := #[] }] 49 2 #[] #[])
  fields := #[]
  methods := #[k1m0, k1m1, k1m2]
  instanceTypes := #[]
  staticTypes := #[]
  resolved := Array.replicate 30 none
  statics := none }

def pool2 : Array CpInfo := pool [(2, .class_ 4), (1, u "com/example/fixpoint/fixpoint/SourceText"), (3, .class_ 10), (1, u "java/lang/Object"), (3, u "text"), (0, u "Ljava/lang/String;"), (2, u "firstLine"), (0, u "J"), (17, u "byteOrderMarkLength"), (0, u "([BII)I"), (86, u "lineStarts"), (0, u "[I")] 39

def k2c0 : Code := { maxStack := 3, maxLocals := 4, code := prog_109_method_7_code, exceptionTable := #[], attributes := #[] }
def k2m0 : Method := { name := "byteOrderMarkLength", desc := "([BII)I", sig := { parameters := [(.array .byte), .int, .int], returnType := some .int }, accessFlags := 8, code := some k2c0 }
/-- com/example/fixpoint/fixpoint/SourceText -/
def k2 : Class := { plain "com/example/fixpoint/fixpoint/SourceText" (some 0) with
  accessFlags := 48
  interfaces := #[]
  cf := some (fileOf pool2 2 #[] #[{ accessFlags := 8, nameIndex := 37, descriptorIndex := 38, attributes := #[] }] 48 8 #[] #[{ accessFlags := 18, nameIndex := 14, descriptorIndex := 15, attributes := #[] }, { accessFlags := 18, nameIndex := 18, descriptorIndex := 19, attributes := #[] }, { accessFlags := 2, nameIndex := 125, descriptorIndex := 126, attributes := #[] }])
  fields := #[{ name := "text", type := (.object "java/lang/String"), accessFlags := 18, slot := 0, constantValue := 0 }, { name := "firstLine", type := .long, accessFlags := 18, slot := 1, constantValue := 0 }, { name := "lineStarts", type := (.array .int), accessFlags := 2, slot := 2, constantValue := 0 }]
  methods := #[k2m0]
  instanceTypes := #[(.object "java/lang/String"), .long, (.array .int)]
  staticTypes := #[]
  resolved := Array.replicate 166 none
  statics := none }

def pool3 : Array CpInfo := pool [(1, u "java/lang/Cloneable"), (0, .class_ 1), (0, u "java/lang/Object"), (0, .class_ 3)] 3

/-- java/lang/Cloneable -/
def k3 : Class := { plain "java/lang/Cloneable" (some 0) with
  accessFlags := 1537
  interfaces := #[]
  cf := some (fileOf pool3 2 #[] #[] 1537 4 #[] #[])
  fields := #[]
  methods := #[]
  instanceTypes := #[]
  staticTypes := #[]
  resolved := Array.replicate 8 none
  statics := none }

def pool4 : Array CpInfo := pool [(1, u "java/io/Serializable"), (0, .class_ 1), (0, u "java/lang/Object"), (0, .class_ 3)] 3

/-- java/io/Serializable -/
def k4 : Class := { plain "java/io/Serializable" (some 0) with
  accessFlags := 1537
  interfaces := #[]
  cf := some (fileOf pool4 2 #[] #[] 1537 4 #[] #[])
  fields := #[]
  methods := #[]
  instanceTypes := #[]
  staticTypes := #[]
  resolved := Array.replicate 8 none
  statics := none }

/-- the primitive byte -/
def k5 : Class := { plain "byte" none with kind := .primitive 'B', accessFlags := 0x411 }
/-- [B -/
def k6 : Class := { plain "[B" (some 0) with kind := .array 5 .byte, interfaces := #[3, 4], accessFlags := 1041 }

/-- the primitive int -/
def k7 : Class := { plain "int" none with kind := .primitive 'I', accessFlags := 0x411 }
/-- [I -/
def k8 : Class := { plain "[I" (some 0) with kind := .array 7 .int, interfaces := #[3, 4], accessFlags := 1041 }

def heap : Heap := #[]
def classes : Array Class := #[k0, k1, k2, k3, k4, k5, k6, k7, k8]
def interned : List (Array UInt16 × Addr) := []
def slotsUsed : Nat := 0
def theMethod : MethodId := ⟨1, 1⟩
def args0 : Array Value := #[.long 5, .long 7, .int 1, .int 2]
def aboutOver (below : List Frame) : State where
  vm := { classes := classes, interned := interned.toArray }
  heap := heap
  slotsUsed := slotsUsed
  threads := #[{ frames := .invoking theMethod args0 :: below }]
def below0 : List Frame := [.native { method := ⟨0, 0⟩, args := #[] }]
def about1 : State := aboutOver below0
def p0 : Program := .bare "" "" ""
def e0 : Env := launch0.env 0 0 0
theorem w_frames : about1.frames = Frame.invoking theMethod args0 :: below0 := rfl
set_option maxRecDepth 65536 in
theorem w_args : argsFit about1.vm theMethod args0 = true := by decide +kernel
set_option maxRecDepth 65536 in
theorem w_heap : heapFits about1 = true := by decide +kernel
set_option maxRecDepth 65536 in
theorem w_runnable : about1.curStatus? = some .runnable := by decide +kernel
set_option maxRecDepth 65536 in
theorem w_alone : about1.alone = true := by decide +kernel
set_option maxRecDepth 65536 in
theorem w_named : about1.methodNamed? x = some theMethod := by decide +kernel
set_option maxRecDepth 65536 in
theorem w_hears : about1.hears theMethod below0 = true := by decide +kernel
set_option maxRecDepth 65536 in
theorem w_ripe : about1.ripe theMethod args0 below0 = true := by decide +kernel
theorem w_running : about1.status = .running := rfl
set_option maxRecDepth 65536 in
theorem w_room : about1.hasRoom e0.platform room_1 = true :=
  launch0.hasRoom_least _ room_1 (by decide +kernel) (by decide +kernel) (by decide +kernel) (by decide +kernel) (by decide +kernel) (by decide +kernel)
theorem allAtoms_all (ts : List Jvm.Cond) (a : Array Jvm.Value) (st : Jvm.State) : (allAtoms ts).before a st = ts.all (fun c => c.before a st) := by
  induction ts with
  | nil => rfl
  | cons c t ih =>
    show (Jvm.Cond.and c (allAtoms t)).before a st = _
    rw [Jvm.Cond.before_and, ih, List.all_cons]
def words1 : List Jvm.Cond := Jvm.Cond.code x code maxLocals ret :: tables_1
/-- a 'code' word, met by the world's own term for the bytes: nothing is compared byte by byte -/
theorem code_word {y : MethodName} {bytes : ByteArray} {mx : Nat} {rt : Option FieldType} {a : Array Value} {s : State} {m : MethodId} {meth : Method} {c : Code} (h1 : s.methodNamed? y = some m) (h2 : s.vm.method? m = some meth) (h3 : meth.code = some c) (h4 : c.code = bytes)
    (h5 : (c.maxLocals == mx && c.exceptionTable.isEmpty && decide (c.maxStack ≤ mostOperands) && decide (meth.sig.returnType = rt) && !meth.locks && decide (parseMethodDescriptor y.desc = some meth.sig)) = true) : (Jvm.Cond.code y bytes mx rt).before a s = true := by
  simp only [Bool.and_eq_true, beq_iff_eq, Bool.not_eq_true', decide_eq_true_eq] at h5
  obtain ⟨⟨⟨⟨⟨g1, g2⟩, g3⟩, g4⟩, g5⟩, g6⟩ := h5
  simp [Cond.before, Cond.holds, Cond.value, h1, h2, h3, h4, g1, g2, g3, g4, g5, g6]
def isCode : Jvm.Cond → Bool
  | .code _ _ _ _ => true
  | _ => false
theorem all_split {L : List Jvm.Cond} {P : Jvm.Cond → Bool} (h1 : L.all (fun c => isCode c || P c) = true) (h2 : ∀ c ∈ L.filter isCode, P c = true) : L.all P = true := by
  refine List.all_eq_true.mpr fun c hc => ?_
  have h := List.all_eq_true.mp h1 c hc
  rcases Bool.eq_false_or_eq_true (isCode c) with hi | hi
  · exact h2 c (List.mem_filter.mpr ⟨hc, hi⟩)
  · simpa [hi] using h
set_option maxRecDepth 65536 in
theorem w_c0 : (Jvm.Cond.code x code maxLocals ret).before args0 about1 = true := code_word (m := ⟨1, 1⟩) (meth := k1m1) (c := k1c1) (by decide +kernel) rfl rfl rfl (by decide +kernel)
set_option maxRecDepth 65536 in
theorem w_c1 : (Jvm.Cond.code ({ cls := "com/example/fixpoint/fixpoint/SourceTextByteOrderMarkLengthPinLaw", name := "pick", desc := "(II)B" } : Jvm.MethodName) method_3_code (3 : Nat) (Option.some Jvm.ClassFile.FieldType.byte)).before args0 about1 = true := code_word (m := ⟨1, 2⟩) (meth := k1m2) (c := k1c2) (by decide +kernel) rfl rfl rfl (by decide +kernel)
set_option maxRecDepth 65536 in
theorem w_c2 : (Jvm.Cond.code ({ cls := "com/example/fixpoint/fixpoint/SourceText", name := "byteOrderMarkLength", desc := "([BII)I" } : Jvm.MethodName) prog_109_method_7_code (4 : Nat) (Option.some Jvm.ClassFile.FieldType.int)).before args0 about1 = true := code_word (m := ⟨2, 0⟩) (meth := k2m0) (c := k2c0) (by decide +kernel) rfl rfl rfl (by decide +kernel)
def codes1 : List Jvm.Cond := [Jvm.Cond.code x code maxLocals ret, Jvm.Cond.code ({ cls := "com/example/fixpoint/fixpoint/SourceTextByteOrderMarkLengthPinLaw", name := "pick", desc := "(II)B" } : Jvm.MethodName) method_3_code (3 : Nat) (Option.some Jvm.ClassFile.FieldType.byte), Jvm.Cond.code ({ cls := "com/example/fixpoint/fixpoint/SourceText", name := "byteOrderMarkLength", desc := "([BII)I" } : Jvm.MethodName) prog_109_method_7_code (4 : Nat) (Option.some Jvm.ClassFile.FieldType.int)]
set_option maxRecDepth 65536 in
theorem codes_eq : words1.filter isCode = codes1 := rfl
theorem w_codes : ∀ c ∈ words1.filter isCode, c.before args0 about1 = true := by
  rw [codes_eq]
  intro c hc
  simp only [codes1, List.mem_cons, List.not_mem_nil, or_false] at hc
  rcases hc with rfl | rfl | rfl
  · exact w_c0
  · exact w_c1
  · exact w_c2
set_option maxRecDepth 65536 in
theorem w_t1 : words1.all (fun c => isCode c || c.before args0 about1) = true := by decide +kernel
theorem w_tables : (allAtoms (Jvm.Cond.code x code maxLocals ret :: tables_1)).before args0 about1 = true := by
  rw [allAtoms_all]
  show words1.all (fun c => c.before args0 about1) = true
  refine all_split ?_ w_codes
  rw [w_t1]
set_option maxRecDepth 65536 in
theorem w_case : (Jvm.Cond.and given_1 narrow_1).before args0 about1 = true := by decide +kernel
theorem w_applies : (headSpec (Jvm.Cond.code x code maxLocals ret :: tables_1) room_1).applies x e0.platform about1 = true :=
  (Spec.applies_iff w_frames).mpr ⟨w_running, w_runnable, w_alone, w_named, w_hears, w_ripe, w_room, w_tables⟩
theorem atStart : AtStart classFile x code maxLocals ret World_1 tables_1 room_1 Calls_1 rest_1 Pre_1 launch0 p0 e0 about1 theMethod args0 below0 :=
  ⟨lists_1, trivial, launch0.admits_env _ _ _, launch0.least_env, fairChoices_fair.cas, fairChoices_fair.clock, w_frames, w_args, w_heap, w_applies, trivial, trivial, w_case⟩
end start1
theorem witness_1 : WitnessClaimed_1 := ⟨start1.p0, start1.e0, start1.about1, start1.theMethod, start1.args0, start1.below0, start1.atStart⟩
end Jvm.Pilot.@@N@@
