import JvmDerived
import JvmDerived.Pilot.@@N@@Statement
import JvmDerived.Pilot.@@N@@Code
set_option linter.unusedVariables false
set_option linter.unusedSimpArgs false
@@BLOCK:NumsL.lean.txt@@
namespace Jvm.Pilot.@@N@@
open Jvm Jvm.ClassFile Sem Op Lib Jvm.Free Jvm.Stand Jvm.LawKit Jvm.RoadKit Bundle Jvm.Pilot.@@N@@.Jvm.D

section Kit
/-- The run goes on from the state T with the frame f on top and comes back to the caller, and Q holds of what it returned, of the heap and of the places written. -/
def Go (p : Program) (e : Env) (below : List Frame) (s : State) (R : Room) (Q : Option Value → Heap → List Loc → Prop) (T : State) (f : JFrame) : Prop :=
  ∃ s₂ o, Steps p.tables e below (T.setTop f) s₂ ∧ s₂.status = .running ∧ Ended s₂ below o ∧ ∃ v L, o = .returned v ∧ Q v s₂.heap L ∧ FrameEnd s o s₂ L R.cells R.slots
/-- a body's contract -/
def Met (l : Launch) (Z : State) (y : MethodName) (bytes : ByteArray) (maxL : Nat) (ret : Option FieldType) (ws : List Jvm.Cond) (rm : Room) (as : Array Value) (h0 : Heap) (Q : Option Value → Heap → List Loc → Prop) : Prop :=
  MetFree l y (head1 (Jvm.Cond.code y bytes maxL ret :: ws) rm) (fun a U => a = as ∧ Z.Warmed39 U.vm ∧ U.heap = h0) (fun _ _ _ _ _ => True) (fun _ U o U' => ∃ v L, o = .returned v ∧ Q v U'.heap L ∧ FrameEnd U o U' L rm.cells rm.slots)
theorem Met.mk {l : Launch} {Z : State} {y : MethodName} {bytes : ByteArray} {maxL : Nat} {ret : Option FieldType} {ws : List Jvm.Cond} {rm : Room} {as : Array Value} {h0 : Heap} {Q : Option Value → Heap → List Loc → Prop} (hp : plainFor y = true)
    (body : ∀ (p : Program) (e : Env) (s : State) (m : MethodId) (below : List Frame) (meth : Method) (c : Code) (T : State), p.tables.exec = Jvm.exec → c.code = bytes → c.maxLocals = maxL → s.vm.findClass y.cls = some m.cls → meth.name = y.name → meth.sig.returnType = ret → meth.locks = false → Z.Warmed39 s.vm →
      Stand p l e rm s m as below meth c T [] 0 0 → T.heap = h0 → Go p e below s rm Q T (entryFrame m as maxL)) : Met l Z y bytes maxL ret ws rm as h0 Q := by
  refine MetFree.of_bodySF hp hisR ?_
  intro p e s m args below meth c s₁ Bd hml0 hP hK
  obtain ⟨rfl, hZ, hh⟩ := hP
  exact body p e s m below meth c s₁ Bd.exec Bd.bytes hml0 (findClass_of_methodNamed Bd.named) (name_of_methodNamed Bd.named Bd.method).1 Bd.returns (BodyLoose.notSynchronized Bd) hZ (Stand.of_body Bd) (by rw [← hh, Bd.state]; rfl)
variable {p : Program} {l : Launch} {e : Env} {R : Room} {s : State} {m : MethodId} {args : Array Value} {below : List Frame} {meth : Method} {c : Code} {T T' : State} {locs : List Loc} {cells slots : Nat} {R' : Room} {Q : Option Value → Heap → List Loc → Prop} {f f' : JFrame} {Z : State} {a0 : Array Value} {h h' : Heap} {pc : Nat} {Ls : Array Slot} {rest : List Value}
theorem Go.of (h : ∀ t, Steps p.tables e below (T'.setTop f') t → Steps p.tables e below (T.setTop f) t) (g : Go p e below s R Q T' f') : Go p e below s R Q T f := by
  obtain ⟨s₂, o, h1, h2⟩ := g
  exact ⟨s₂, o, h _ h1, h2⟩
theorem Go.cast (q : f = f') (g : Go p e below s R Q T f') : Go p e below s R Q T f := q ▸ g
theorem Go.join {α : Type} (P : α → Prop) (fr : α → JFrame) (k : ∀ x, P x → Go p e below s R Q T (fr x)) (g : (∀ x, P x → Go p e below s R Q T (fr x)) → Go p e below s R Q T f) : Go p e below s R Q T f := g k
theorem Go.joinT {α : Type} (I : α → List Loc → Heap → Prop) (fr : α → JFrame) (k : ∀ x T' locs' h', Stand p l e R s m args below meth c T' locs' cells slots → T'.heap = h' → I x locs' h' → Go p e below s R' Q T' (fr x))
    (g : (∀ x T' locs' h', Stand p l e R s m args below meth c T' locs' cells slots → T'.heap = h' → I x locs' h' → Go p e below s R' Q T' (fr x)) → Go p e below s R' Q T f) : Go p e below s R' Q T f := g k
theorem Go.loop {α : Type} (μ : α → Nat) (I : α → List Loc → Heap → Prop) (fr : α → JFrame)
    (step : ∀ x T' locs' h', Stand p l e R s m args below meth c T' locs' cells slots → T'.heap = h' → I x locs' h' → (∀ y T'' locs'' h'', μ y < μ x → Stand p l e R s m args below meth c T'' locs'' cells slots → T''.heap = h'' → I y locs'' h'' → Go p e below s R' Q T'' (fr y)) → Go p e below s R' Q T' (fr x))
    (x : α) (X : Stand p l e R s m args below meth c T locs cells slots) (eT : T.heap = h) (hI : I x locs h) : Go p e below s R' Q T (fr x) := by
  obtain ⟨n, hn⟩ : ∃ n, μ x < n := ⟨_, Nat.lt_succ_self _⟩
  induction n generalizing x T locs h with
  | zero => exact absurd hn (Nat.not_lt_zero _)
  | succ n ih => exact step x T locs h X eT hI fun y T'' l'' h'' hy X'' e'' I'' => ih y X'' e'' I'' (by omega)
theorem Met.mono {y : MethodName} {bytes : ByteArray} {maxL : Nat} {ret : Option FieldType} {ws : List Jvm.Cond} {rm : Room} {as : Array Value} {h0 : Heap} {Q Q' : Option Value → Heap → List Loc → Prop} (M : Met l Z y bytes maxL ret ws rm as h0 Q) (q : ∀ v h L, Q v h L → Q' v h L) : Met l Z y bytes maxL ret ws rm as h0 Q' := by
  intro p e ha hc hk s m args below hf happ hP hK
  obtain ⟨n, o, h1, h2, h3, v, L, h4, h5, h6⟩ := M p e ha hc hk s m args below hf happ hP hK
  exact ⟨n, o, h1, h2, h3, v, L, h4, q _ _ _ h5, h6⟩
theorem Go.retW {g : JFrame} {v : Option Value} (X : Stand p l e R s m args below meth c T locs cells slots) (hv : meth.sig.returnType = none → v = none) (hlk : meth.locks = false) (hc : cells ≤ R'.cells) (hs : slots ≤ R'.slots) (q : Q v T.heap locs)
    (st : ∀ fs, (∀ (f : JFrame) (acts : List Action), f.method = m → f.locked = none → f.entered = [] → (doReturn e (T.setTop f) acts v).1 = T.setFrames fs) → Steps p.tables e below (T.setTop g) (T.setFrames fs)) : Go p e below s R' Q T g := by
  obtain ⟨fs, hr, hrun, hended, hW, hsame⟩ := X.leave (v := v) hv hlk
  exact ⟨_, _, st fs hr, hrun, hended, _, _, rfl, q, ⟨_, rfl⟩, hW, hsame.mono hc hs⟩
theorem Go.retI {z : Int32} (X : Stand p l e R s m args below meth c T locs cells slots) (hx : p.tables.exec = Jvm.exec) (hret : meth.sig.returnType = some .int) (hlk : meth.locks = false) (hd : decode c.code pc = .ok (.ireturn, 1)) (hc : cells ≤ R'.cells) (hs : slots ≤ R'.slots) (q : Q (some (.int z)) T.heap locs) :
    Go p e below s R' Q T (mkF m pc Ls (.int z :: rest)) :=
  Go.retW X (fun h => by rw [hret] at h; cases h) hlk hc hs q fun fs hr => retOut X hx hret rfl (Or.inl ⟨rfl, Or.inl rfl, z, rfl⟩) hd hr
theorem Go.retJ {z : Int64} (X : Stand p l e R s m args below meth c T locs cells slots) (hx : p.tables.exec = Jvm.exec) (hret : meth.sig.returnType = some .long) (hlk : meth.locks = false) (hd : decode c.code pc = .ok (.lreturn, 1)) (hc : cells ≤ R'.cells) (hs : slots ≤ R'.slots) (q : Q (some (.long z)) T.heap locs) :
    Go p e below s R' Q T (mkF m pc Ls (.long z :: rest)) :=
  Go.retW X (fun h => by rw [hret] at h; cases h) hlk hc hs q fun fs hr => retOut X hx hret rfl (Or.inr (Or.inl ⟨rfl, rfl, z, rfl⟩)) hd hr
theorem Go.retA {w : Value} {t : FieldType} (X : Stand p l e R s m args below meth c T locs cells slots) (hx : p.tables.exec = Jvm.exec) (hret : meth.sig.returnType = some t) (ht : t.isReference = true) (hw : w.isRef = true) (hn : narrow t w = w) (hlk : meth.locks = false) (hd : decode c.code pc = .ok (.areturn, 1)) (hc : cells ≤ R'.cells) (hs : slots ≤ R'.slots) (q : Q (some w) T.heap locs) :
    Go p e below s R' Q T (mkF m pc Ls (w :: rest)) :=
  Go.retW X (fun h => by rw [hret] at h; cases h) hlk hc hs q fun fs hr => retOut X hx hret hn (Or.inr (Or.inr (Or.inr (Or.inr ⟨rfl, ht, hw⟩)))) hd hr
theorem Go.retN {z : Int32} {t : FieldType} (X : Stand p l e R s m args below meth c T locs cells slots) (hx : p.tables.exec = Jvm.exec) (hret : meth.sig.returnType = some t) (ht : t = .boolean ∨ t = .byte ∨ t = .char ∨ t = .short) (hlk : meth.locks = false) (hd : decode c.code pc = .ok (.ireturn, 1)) (hc : cells ≤ R'.cells) (hs : slots ≤ R'.slots) (q : Q (some (.int (nar t z))) T.heap locs) :
    Go p e below s R' Q T (mkF m pc Ls (.int z :: rest)) :=
  Go.retW X (fun h => by rw [hret] at h; cases h) hlk hc hs q fun fs hr => RoadKit.retN X hx hret ht hd hr
theorem Go.retV (X : Stand p l e R s m args below meth c T locs cells slots) (hx : p.tables.exec = Jvm.exec) (hret : meth.sig.returnType = none) (hlk : meth.locks = false) (hd : decode c.code pc = .ok (.return_, 1)) (hc : cells ≤ R'.cells) (hs : slots ≤ R'.slots) (q : Q none T.heap locs) :
    Go p e below s R' Q T (mkF m pc Ls []) :=
  Go.retW X (fun _ => rfl) hlk hc hs q fun fs hr => X.returnOut hx hret hd hr
/-! fields -/
theorem Go.getF {own R0 O n d : String} {index : Nat} {a : Addr} {v : Value} (X : Stand p l e R s m args below meth c T locs cells slots) (hx : p.tables.exec = Jvm.exec) (hZ : Z.Warmed39 s.vm) (hown : s.vm.findClass own = some m.cls) (w : (Jvm.Cond.fieldLink own index R0 n d).before a0 Z = true) (via : Via Z R0 O n d) (eT : T.heap = h) (F : Fld Z h a O n d v)
    (hd : decode c.code pc = .ok (.getfield index, 3)) (k : ∀ T', Stand p l e R s m args below meth c T' locs cells slots → T'.heap = h → Go p e below s R' Q T' (mkF m (pc + 3) Ls (v :: rest))) : Go p e below s R' Q T (mkF m pc Ls (.ref a :: rest)) := by
  obtain ⟨T', X', e', st⟩ := RoadKit.getF X hx hZ hown (host := "") (Or.inl w) via eT F (g := mkF m pc Ls (.ref a :: rest)) rfl rfl hd
  exact Go.of st (k T' X' e')
theorem Go.getFN {own R0 O n d host : String} {index : Nat} {a : Addr} {v : Value} (X : Stand p l e R s m args below meth c T locs cells slots) (hx : p.tables.exec = Jvm.exec) (hZ : Z.Warmed39 s.vm) (hown : s.vm.findClass own = some m.cls) (w : (Jvm.Cond.fieldLinkNest own index R0 n d host).before a0 Z = true) (via : Via Z R0 O n d) (eT : T.heap = h) (F : Fld Z h a O n d v)
    (hd : decode c.code pc = .ok (.getfield index, 3)) (k : ∀ T', Stand p l e R s m args below meth c T' locs cells slots → T'.heap = h → Go p e below s R' Q T' (mkF m (pc + 3) Ls (v :: rest))) : Go p e below s R' Q T (mkF m pc Ls (.ref a :: rest)) := by
  obtain ⟨T', X', e', st⟩ := RoadKit.getF X hx hZ hown (Or.inr w) via eT F (g := mkF m pc Ls (.ref a :: rest)) rfl rfl hd
  exact Go.of st (k T' X' e')
theorem Go.putF {own R0 O n d C : String} {index kk : Nat} {ty : FieldType} {a : Addr} {v old : Value} (X : Stand p l e R s m args below meth c T locs cells slots) (hx : p.tables.exec = Jvm.exec) (hZ : Z.Warmed39 s.vm) (hown : s.vm.findClass own = some m.cls) (w : (Jvm.Cond.fieldLink own index R0 n d).before a0 Z = true) (via : Via Z R0 O n d) (eT : T.heap = h) (F : Fld Z h a O n d old)
    (E : Exa Z h a C) (L : (Jvm.Cond.lays C O n d).before a0 Z = true ∨ ((Jvm.Cond.laysFinal C O n d).before a0 Z = true ∧ own = O ∧ meth.name = "<init>")) (wi : (Jvm.Cond.instantiable C kk).before a0 Z = true) (hty : parseFieldDescriptor d = some ty) (hn : narrow ty v = v) (hf : fits ty v = true)
    (hd : decode c.code pc = .ok (.putfield index, 3)) (k : ∀ T' h', Stand p l e R s m args below meth c T' (locs ++ [⟨a, RoadKit.slotOf Z O n d⟩]) cells slots → T'.heap = h' → Wr h h' a (RoadKit.slotOf Z O n d) v → Go p e below s R' Q T' (mkF m (pc + 3) Ls rest)) : Go p e below s R' Q T (mkF m pc Ls (v :: .ref a :: rest)) := by
  obtain ⟨T', h', X', e', W, st⟩ := RoadKit.putF X hx hZ hown (host := "") (Or.inl w) via eT F E L wi hty hn hf (g := mkF m pc Ls (v :: .ref a :: rest)) rfl rfl hd
  exact Go.of st (k T' h' X' e' W)
theorem Go.putFN {own R0 O n d C : String} {index kk : Nat} {ty : FieldType} {a : Addr} {z : Int32} {old : Value} (X : Stand p l e R s m args below meth c T locs cells slots) (hx : p.tables.exec = Jvm.exec) (hZ : Z.Warmed39 s.vm) (hown : s.vm.findClass own = some m.cls) (w : (Jvm.Cond.fieldLink own index R0 n d).before a0 Z = true) (via : Via Z R0 O n d) (eT : T.heap = h) (F : Fld Z h a O n d old)
    (E : Exa Z h a C) (L : (Jvm.Cond.lays C O n d).before a0 Z = true ∨ ((Jvm.Cond.laysFinal C O n d).before a0 Z = true ∧ own = O ∧ meth.name = "<init>")) (wi : (Jvm.Cond.instantiable C kk).before a0 Z = true) (hty : parseFieldDescriptor d = some ty) (hn : narrow ty (.int z) = .int (nar ty z)) (hf : fits ty (.int (nar ty z)) = true)
    (hd : decode c.code pc = .ok (.putfield index, 3)) (k : ∀ T' h', Stand p l e R s m args below meth c T' (locs ++ [⟨a, RoadKit.slotOf Z O n d⟩]) cells slots → T'.heap = h' → Wr h h' a (RoadKit.slotOf Z O n d) (.int (nar ty z)) → Go p e below s R' Q T' (mkF m (pc + 3) Ls rest)) : Go p e below s R' Q T (mkF m pc Ls (.int z :: .ref a :: rest)) := by
  obtain ⟨T', h', X', e', W, st⟩ := RoadKit.putFN X hx hZ hown w via eT F E L wi hty hn hf (g := mkF m pc Ls (.int z :: .ref a :: rest)) rfl rfl hd
  exact Go.of st (k T' h' X' e' W)
/-! objects and arrays made -/
theorem Go.newO {own C : String} {index n : Nat} (X : Stand p l e R s m args below meth c T locs cells slots) (hx : p.tables.exec = Jvm.exec) (hZ : Z.Warmed39 s.vm) (hown : s.vm.findClass own = some m.cls) (w : (Jvm.Cond.classLink own index C).before a0 Z = true) (wi : (Jvm.Cond.instantiable C n).before a0 Z = true) (wz : (Jvm.Cond.initialized C).before a0 Z = true) (eT : T.heap = h)
    (hd : decode c.code pc = .ok (.new index, 3)) (hc : cells + 1 ≤ R.cells) (hl : slots + n ≤ R.slots)
    (k : ∀ T' h' a, Stand p l e R s m args below meth c T' locs (cells + 1) (slots + n) → T'.heap = h' → Ext h h' → a = h.size → Exa Z h' a C → (∀ {O nm d : String} {ty : FieldType}, Laid Z a0 C O nm d → parseFieldDescriptor d = some ty → Fld Z h' a O nm d (defaultValue ty)) → Go p e below s R' Q T' (mkF m (pc + 3) Ls (.ref a :: rest))) : Go p e below s R' Q T (mkF m pc Ls rest) := by
  obtain ⟨T', h', X', e', E, A, D, -, st⟩ := RoadKit.newO X hx hZ hown w wi wz eT (g := mkF m pc Ls rest) rfl hd hc hl
  exact Go.of st (k T' h' _ X' e' E rfl A D)
/-- an array: its kind, its length, what each place holds -/
def AV (Z : State) (h : Heap) (a : Addr) (ty : FieldType) (n : Nat) (f : Nat → Value) : Prop := ∃ cl : Cell, Arr Z h a cl ty ∧ cl.slots.size = n ∧ ∀ j, j < n → cl.slots[j]? = some (f j)
def upd (f : Nat → Value) (j : Nat) (v : Value) : Nat → Value := fun i => if i = j then v else f i
def Inb (j : Int32) (n : Nat) : Prop := ¬ j < 0 ∧ j.toNatClampNeg < n
theorem upd_same (f : Nat → Value) (j : Nat) (v : Value) : upd f j v j = v := by simp [upd]
theorem upd_ne (f : Nat → Value) {i j : Nat} (v : Value) (hn : i ≠ j) : upd f j v i = f i := by simp [upd, hn]
theorem AV.lt {a : Addr} {ty : FieldType} {n : Nat} {f : Nat → Value} (V : AV Z h a ty n f) : a < h.size := by obtain ⟨cl, A, -⟩ := V; exact A.lt
theorem AV.ext {a : Addr} {ty : FieldType} {n : Nat} {f : Nat → Value} (V : AV Z h a ty n f) (E : Ext h h') : AV Z h' a ty n f := by obtain ⟨cl, A, r⟩ := V; exact ⟨cl, A.ext E, r⟩
theorem AV.other {a b : Addr} {ty : FieldType} {n : Nat} {f : Nat → Value} {sl : Nat} {v : Value} (V : AV Z h b ty n f) (W : Wr h h' a sl v) (q : b ≠ a) : AV Z h' b ty n f := by obtain ⟨cl, A, r⟩ := V; exact ⟨cl, A.other W q, r⟩
theorem AV.keep {a : Addr} {ty : FieldType} {n : Nat} {f : Nat → Value} {ws : List Addr} (V : AV Z h a ty n f) (K : Keep h h' ws) (q : a ∉ ws) : AV Z h' a ty n f := by obtain ⟨cl, A, r⟩ := V; exact ⟨cl, ⟨K.2.1 a cl A.1 q, A.2⟩, r⟩
theorem AV.set {a : Addr} {ty : FieldType} {n : Nat} {f : Nat → Value} {j : Nat} {v : Value} (V : AV Z h a ty n f) (W : Wr h h' a j v) (hj : j < n) : AV Z h' a ty n (upd f j v) := by
  obtain ⟨cl, A, S, H⟩ := V
  refine ⟨cl.setSlot j v, A.same W, by rw [sz_set]; exact S, fun i hi => ?_⟩
  by_cases q : i = j
  · subst q; simp [upd, Cell.setSlot, S, hj]
  · rw [upd_ne f v q, ← H i hi]; exact Array.getElem?_setIfInBounds_ne (Ne.symm q)
def updJ (f : Nat → Int64) (n : Nat) (q : Int64) : Nat → Int64 := fun j => if j = n then q else f j
def updI (f : Nat → Int32) (n : Nat) (q : Int32) : Nat → Int32 := fun j => if j = n then q else f j
theorem AV.setJ {a : Addr} {ty : FieldType} {n : Nat} {f : Nat → Int64} {j : Nat} {q : Int64} (V : AV Z h a ty n (fun i => .long (f i))) (W : Wr h h' a j (.long q)) (hj : j < n) : AV Z h' a ty n (fun i => .long (updJ f j q i)) := by
  have r := V.set W hj
  have e : upd (fun i => .long (f i)) j (.long q) = fun i => .long (updJ f j q i) := by funext i; unfold upd updJ; split <;> rfl
  rw [← e]; exact r
theorem AV.setI {a : Addr} {ty : FieldType} {n : Nat} {f : Nat → Int32} {j : Nat} {q : Int32} (V : AV Z h a ty n (fun i => .int (f i))) (W : Wr h h' a j (.int q)) (hj : j < n) : AV Z h' a ty n (fun i => .int (updI f j q i)) := by
  have r := V.set W hj
  have e : upd (fun i => .int (f i)) j (.int q) = fun i => .int (updI f j q i) := by funext i; unfold upd updI; split <;> rfl
  rw [← e]; exact r
def updD (f : Nat → UInt64) (n : Nat) (q : UInt64) : Nat → UInt64 := fun j => if j = n then q else f j
theorem AV.setD {a : Addr} {ty : FieldType} {n : Nat} {f : Nat → UInt64} {j : Nat} {q : UInt64} (V : AV Z h a ty n (fun i => .double (f i))) (W : Wr h h' a j (.double q)) (hj : j < n) : AV Z h' a ty n (fun i => .double (updD f j q i)) := by
  have r := V.set W hj
  have e : upd (fun i => .double (f i)) j (.double q) = fun i => .double (updD f j q i) := by funext i; unfold upd updD; split <;> rfl
  rw [← e]; exact r
theorem AV.congr {a : Addr} {ty : FieldType} {n : Nat} {f g : Nat → Value} (V : AV Z h a ty n f) (q : ∀ j, j < n → f j = g j) : AV Z h a ty n g := by
  obtain ⟨cl, A, S, H⟩ := V; exact ⟨cl, A, S, fun j hj => by rw [← q j hj]; exact H j hj⟩
theorem AV.new {a : Addr} {ty : FieldType} {cA : ClassId} {z : Int32} (A : Arr Z h a (newA cA ty z) ty) : AV Z h a ty z.toNatClampNeg (fun _ => defaultValue ty) :=
  ⟨_, A, sz_new _ _ _, fun j hj => by simp [newA, hj]⟩
theorem Inb.not {j : Int32} {n : Nat} (i : Inb j n) {k : Nat} (hk : k = n) : ¬ (j < 0 ∨ k ≤ j.toNatClampNeg) := fun q => q.elim i.1 (fun r => absurd i.2 (by omega))
theorem Go.newP {aty : ArrayType} {n : Int32} (X : Stand p l e R s m args below meth c T locs cells slots) (hx : p.tables.exec = Jvm.exec) (hZ : Z.Warmed39 s.vm) (w : (Jvm.Cond.arrayClass (newarray.typeOf aty)).before a0 Z = true) (eT : T.heap = h) (hd : decode c.code pc = .ok (.newarray aty, 2)) (hn : ¬ n < 0) (cap : Nat) (hcap : n.toNatClampNeg ≤ cap) (hb : cap * 8 ≤ 536870912) (hc : cells + 1 ≤ R.cells) (hl : slots + cap ≤ R.slots)
    (k : ∀ T' h' a, Stand p l e R s m args below meth c T' locs (cells + 1) (slots + cap) → T'.heap = h' → Ext h h' → a = h.size → AV Z h' a (newarray.typeOf aty) n.toNatClampNeg (fun _ => defaultValue (newarray.typeOf aty)) → Go p e below s R' Q T' (mkF m (pc + 2) Ls (.ref a :: rest))) : Go p e below s R' Q T (mkF m pc Ls (.int n :: rest)) := by
  obtain ⟨T', h', cA, X', e', E, A, st⟩ := RoadKit.newP X hx hZ w eT (g := mkF m pc Ls (.int n :: rest)) rfl hd rfl hn hcap hb hc hl
  exact Go.of st (k T' h' _ X' e' E rfl (AV.new A))
theorem Go.stI {a : Addr} {n : Nat} {g : Nat → Value} {j x : Int32} (X : Stand p l e R s m args below meth c T locs cells slots) (hx : p.tables.exec = Jvm.exec) (hZ : Z.Warmed39 s.vm) (eT : T.heap = h) (V : AV Z h a .int n g) (hj : Inb j n) (hd : decode c.code pc = .ok (.iastore, 1))
    (k : ∀ T' h', Stand p l e R s m args below meth c T' (locs ++ [⟨a, j.toNatClampNeg⟩]) cells slots → T'.heap = h' → Wr h h' a j.toNatClampNeg (.int x) → Go p e below s R' Q T' (mkF m (pc + 1) Ls rest)) : Go p e below s R' Q T (mkF m pc Ls (.int x :: .int j :: .ref a :: rest)) := by
  obtain ⟨cl, A, S, H⟩ := V
  obtain ⟨T', h', X', e', W, st⟩ := RoadKit.stI X hx hZ eT A (x := x) (hj.not S) (g := mkF m pc Ls (.int x :: .int j :: .ref a :: rest)) rfl rfl hd
  exact Go.of st (k T' h' X' e' W)
theorem Go.stJ {a : Addr} {n : Nat} {g : Nat → Value} {j : Int32} {x : Int64} (X : Stand p l e R s m args below meth c T locs cells slots) (hx : p.tables.exec = Jvm.exec) (hZ : Z.Warmed39 s.vm) (eT : T.heap = h) (V : AV Z h a .long n g) (hj : Inb j n) (hd : decode c.code pc = .ok (.lastore, 1))
    (k : ∀ T' h', Stand p l e R s m args below meth c T' (locs ++ [⟨a, j.toNatClampNeg⟩]) cells slots → T'.heap = h' → Wr h h' a j.toNatClampNeg (.long x) → Go p e below s R' Q T' (mkF m (pc + 1) Ls rest)) : Go p e below s R' Q T (mkF m pc Ls (.long x :: .int j :: .ref a :: rest)) := by
  obtain ⟨cl, A, S, H⟩ := V
  obtain ⟨T', h', X', e', W, st⟩ := RoadKit.stJ X hx hZ eT A (x := x) (hj.not S) (g := mkF m pc Ls (.long x :: .int j :: .ref a :: rest)) rfl rfl hd
  exact Go.of st (k T' h' X' e' W)
theorem Go.stC {a : Addr} {n : Nat} {g : Nat → Value} {j x : Int32} (X : Stand p l e R s m args below meth c T locs cells slots) (hx : p.tables.exec = Jvm.exec) (hZ : Z.Warmed39 s.vm) (eT : T.heap = h) (V : AV Z h a .char n g) (hj : Inb j n) (hd : decode c.code pc = .ok (.castore, 1))
    (k : ∀ T' h', Stand p l e R s m args below meth c T' (locs ++ [⟨a, j.toNatClampNeg⟩]) cells slots → T'.heap = h' → Wr h h' a j.toNatClampNeg (.int (nar .char x)) → Go p e below s R' Q T' (mkF m (pc + 1) Ls rest)) : Go p e below s R' Q T (mkF m pc Ls (.int x :: .int j :: .ref a :: rest)) := by
  obtain ⟨cl, A, S, H⟩ := V
  obtain ⟨T', h', X', e', W, st⟩ := RoadKit.stC X hx hZ eT A (x := x) (hj.not S) (g := mkF m pc Ls (.int x :: .int j :: .ref a :: rest)) rfl rfl hd
  exact Go.of st (k T' h' X' e' W)
theorem Go.stB {a : Addr} {n : Nat} {g : Nat → Value} {j x : Int32} (X : Stand p l e R s m args below meth c T locs cells slots) (hx : p.tables.exec = Jvm.exec) (hZ : Z.Warmed39 s.vm) (eT : T.heap = h) (V : AV Z h a .byte n g) (hj : Inb j n) (hd : decode c.code pc = .ok (.bastore, 1))
    (k : ∀ T' h', Stand p l e R s m args below meth c T' (locs ++ [⟨a, j.toNatClampNeg⟩]) cells slots → T'.heap = h' → Wr h h' a j.toNatClampNeg (.int (nar .byte x)) → Go p e below s R' Q T' (mkF m (pc + 1) Ls rest)) : Go p e below s R' Q T (mkF m pc Ls (.int x :: .int j :: .ref a :: rest)) := by
  obtain ⟨cl, A, S, H⟩ := V
  obtain ⟨T', h', X', e', W, st⟩ := RoadKit.stB X hx hZ eT A (x := x) (hj.not S) (g := mkF m pc Ls (.int x :: .int j :: .ref a :: rest)) rfl rfl hd
  exact Go.of st (k T' h' X' e' W)
theorem Go.stD {a : Addr} {n : Nat} {g : Nat → Value} {j : Int32} {x : UInt64} (X : Stand p l e R s m args below meth c T locs cells slots) (hx : p.tables.exec = Jvm.exec) (hZ : Z.Warmed39 s.vm) (eT : T.heap = h) (V : AV Z h a .double n g) (hj : Inb j n) (hd : decode c.code pc = .ok (.dastore, 1))
    (k : ∀ T' h', Stand p l e R s m args below meth c T' (locs ++ [⟨a, j.toNatClampNeg⟩]) cells slots → T'.heap = h' → Wr h h' a j.toNatClampNeg (.double x) → Go p e below s R' Q T' (mkF m (pc + 1) Ls rest)) : Go p e below s R' Q T (mkF m pc Ls (.double x :: .int j :: .ref a :: rest)) := by
  obtain ⟨cl, A, S, H⟩ := V
  obtain ⟨T', h', X', e', W, st⟩ := RoadKit.stD X hx hZ eT A (x := x) (hj.not S) (g := mkF m pc Ls (.double x :: .int j :: .ref a :: rest)) rfl rfl hd
  exact Go.of st (k T' h' X' e' W)
theorem Go.ldD {a : Addr} {n : Nat} {g : Nat → Value} {j : Int32} (v : Value) (X : Stand p l e R s m args below meth c T locs cells slots) (hx : p.tables.exec = Jvm.exec) (hZ : Z.Warmed39 s.vm) (eT : T.heap = h) (V : AV Z h a .double n g) (hj : Inb j n) (hv : g j.toNatClampNeg = v) (hd : decode c.code pc = .ok (.daload, 1))
    (k : Go p e below s R' Q T (mkF m (pc + 1) Ls (v :: rest))) : Go p e below s R' Q T (mkF m pc Ls (.int j :: .ref a :: rest)) := by
  obtain ⟨cl, A, S, H⟩ := V
  exact Go.of (X.daload hx (by rw [eT]; exact A.1) (State.isArrayOf_alike hZ.alike A.2.1) A.2.2 (hj.not S) ((H _ hj.2).trans (by rw [hv])) (g := mkF m pc Ls (.int j :: .ref a :: rest)) rfl rfl hd) k
theorem Go.ldI {a : Addr} {n : Nat} {g : Nat → Value} {j : Int32} (v : Value) (X : Stand p l e R s m args below meth c T locs cells slots) (hx : p.tables.exec = Jvm.exec) (hZ : Z.Warmed39 s.vm) (eT : T.heap = h) (V : AV Z h a .int n g) (hj : Inb j n) (hv : g j.toNatClampNeg = v) (hd : decode c.code pc = .ok (.iaload, 1))
    (k : Go p e below s R' Q T (mkF m (pc + 1) Ls (v :: rest))) : Go p e below s R' Q T (mkF m pc Ls (.int j :: .ref a :: rest)) := by
  obtain ⟨cl, A, S, H⟩ := V
  exact Go.of (X.iaload hx (by rw [eT]; exact A.1) (State.isArrayOf_alike hZ.alike A.2.1) A.2.2 (hj.not S) ((H _ hj.2).trans (by rw [hv])) (g := mkF m pc Ls (.int j :: .ref a :: rest)) rfl rfl hd) k
theorem Go.ldJ {a : Addr} {n : Nat} {g : Nat → Value} {j : Int32} (v : Value) (X : Stand p l e R s m args below meth c T locs cells slots) (hx : p.tables.exec = Jvm.exec) (hZ : Z.Warmed39 s.vm) (eT : T.heap = h) (V : AV Z h a .long n g) (hj : Inb j n) (hv : g j.toNatClampNeg = v) (hd : decode c.code pc = .ok (.laload, 1))
    (k : Go p e below s R' Q T (mkF m (pc + 1) Ls (v :: rest))) : Go p e below s R' Q T (mkF m pc Ls (.int j :: .ref a :: rest)) := by
  obtain ⟨cl, A, S, H⟩ := V
  exact Go.of (X.laload hx (by rw [eT]; exact A.1) (State.isArrayOf_alike hZ.alike A.2.1) A.2.2 (hj.not S) ((H _ hj.2).trans (by rw [hv])) (g := mkF m pc Ls (.int j :: .ref a :: rest)) rfl rfl hd) k
theorem Go.ldC {a : Addr} {n : Nat} {g : Nat → Value} {j : Int32} (v : Value) (X : Stand p l e R s m args below meth c T locs cells slots) (hx : p.tables.exec = Jvm.exec) (hZ : Z.Warmed39 s.vm) (eT : T.heap = h) (V : AV Z h a .char n g) (hj : Inb j n) (hv : g j.toNatClampNeg = v) (hd : decode c.code pc = .ok (.caload, 1))
    (k : Go p e below s R' Q T (mkF m (pc + 1) Ls (v :: rest))) : Go p e below s R' Q T (mkF m pc Ls (.int j :: .ref a :: rest)) := by
  obtain ⟨cl, A, S, H⟩ := V
  exact Go.of (X.caload hx (by rw [eT]; exact A.1) (State.isArrayOf_alike hZ.alike A.2.1) A.2.2 (hj.not S) ((H _ hj.2).trans (by rw [hv])) (g := mkF m pc Ls (.int j :: .ref a :: rest)) rfl rfl hd) k
theorem Go.ldB {a : Addr} {n : Nat} {g : Nat → Value} {j : Int32} (v : Value) (X : Stand p l e R s m args below meth c T locs cells slots) (hx : p.tables.exec = Jvm.exec) (hZ : Z.Warmed39 s.vm) (eT : T.heap = h) (V : AV Z h a .byte n g) (hj : Inb j n) (hv : g j.toNatClampNeg = v) (hd : decode c.code pc = .ok (.baload, 1))
    (k : Go p e below s R' Q T (mkF m (pc + 1) Ls (v :: rest))) : Go p e below s R' Q T (mkF m pc Ls (.int j :: .ref a :: rest)) := by
  obtain ⟨cl, A, S, H⟩ := V
  exact Go.of (X.baloadBytes hx (by rw [eT]; exact A.1) (State.isArrayOf_alike hZ.alike A.2.1) A.2.2 (hj.not S) ((H _ hj.2).trans (by rw [hv])) (g := mkF m pc Ls (.int j :: .ref a :: rest)) rfl rfl hd) k
theorem Go.alen {a : Addr} {n : Nat} {ty : FieldType} {g : Nat → Value} (z : Int32) (X : Stand p l e R s m args below meth c T locs cells slots) (hx : p.tables.exec = Jvm.exec) (hZ : Z.Warmed39 s.vm) (eT : T.heap = h) (V : AV Z h a ty n g) (hz : n.toInt32 = z) (hd : decode c.code pc = .ok (.arraylength, 1))
    (k : Go p e below s R' Q T (mkF m (pc + 1) Ls (.int z :: rest))) : Go p e below s R' Q T (mkF m pc Ls (.ref a :: rest)) := by
  obtain ⟨cl, A, S, H⟩ := V
  refine Go.of (X.arraylength hx (by rw [eT]; exact A.1) (State.isArrayOf_alike hZ.alike A.2.1) (g := mkF m pc Ls (.ref a :: rest)) rfl rfl hd) ?_
  rw [S, hz]; exact k
/-! calls -/
theorem Go.initO {own : String} {idx : Nat} {a : Addr} (X : Stand p l e R s m args below meth c T locs cells slots) (hx : p.tables.exec = Jvm.exec) (hZ : Z.Warmed39 s.vm) (hown : s.vm.findClass own = some m.cls) (w1 : (Jvm.Cond.methodLink own idx Lib.objectInit).before a0 Z = true) (w2 : (Jvm.Cond.instanceMethod Lib.objectInit).before a0 Z = true) (w3 : (Jvm.Cond.code Lib.objectInit ⟨#[0xb1]⟩ 1 none).before a0 Z = true) (eT : T.heap = h)
    (hsz : Ls.size = c.maxLocals) (hd : decode c.code pc = .ok (.invokespecial idx, 3)) (hf : 1 ≤ R.frames) (W : Nat) (hW : (rest.map fun v => v.category).sum ≤ W) (hl : W + 12 ≤ R.locals) (k : ∀ T', Stand p l e R s m args below meth c T' locs cells slots → T'.heap = h → Go p e below s R' Q T' (mkF m (pc + 3) Ls rest)) : Go p e below s R' Q T (mkF m pc Ls (.ref a :: rest)) := by
  obtain ⟨T', X', e', st⟩ := RoadKit.initO X hx hZ hown w1 w2 w3 eT (g := mkF m pc Ls (.ref a :: rest)) rfl hsz rfl hd hf (W := W) (by show 2 * 0 + _ ≤ _; omega) hl
  exact Go.of st (k T' X' e')
theorem Go.static {own : String} {index : Nat} {y : MethodName} {bytes : ByteArray} {maxL : Nat} {ret : Option FieldType} {rm : Room} {as : Array Value} {Qc : Option Value → Heap → List Loc → Prop} (X : Stand p l e R s m args below meth c T locs cells slots) (hx : p.tables.exec = Jvm.exec) (hZ : Z.Warmed39 s.vm) (hown : s.vm.findClass own = some m.cls)
    (w1 : (Jvm.Cond.methodLink own index y).before a0 Z = true) (w2 : (Jvm.Cond.static y).before a0 Z = true) (w3 : (Jvm.Cond.initialized y.cls).before a0 Z = true) (w4 : (Jvm.Cond.code y bytes maxL ret).before a0 Z = true) (hy : y.cls ≠ "java/lang/invoke/MethodHandle" ∧ y.cls ≠ "java/lang/invoke/VarHandle")
    (M : Met l Z y bytes maxL ret [] rm as h Qc) (eT : T.heap = h) (W : Nat) (hf : rm.frames + 1 ≤ R.frames) (hl : W + (maxL + 11) + rm.locals ≤ R.locals) (hc : cells + rm.cells ≤ R.cells) (hs : slots + rm.slots ≤ R.slots) (hsz : Ls.size = c.maxLocals) {st argsL : List Value} (rest : List Value) (hlen : ∀ sig, parseMethodDescriptor y.desc = some sig → argsL.length = sig.parameters.length)
    (has : argsL.toArray = as) (hst : st = argsL.reverse ++ rest) (hW : (rest.map fun v => v.category).sum ≤ W) (hd : decode c.code pc = .ok (.invokestatic index, 3))
    (k : ∀ v T' L', Stand p l e R s m args below meth c T' (locs ++ L') (cells + rm.cells) (slots + rm.slots) → Qc v T'.heap L' → Go p e below s R' Q T' (mkF m (pc + 3) Ls (v.toList ++ rest))) : Go p e below s R' Q T (mkF m pc Ls st) := by
  obtain ⟨v, _, ⟨T1, L1, k1, n1⟩, -, X1, ⟨Lc, hQ, l1, y1, z1⟩, stp⟩ := Jvm.LawKit.callS X hx (y := y) hown (mvT hZ w1) (mvT hZ w2) (mvT hZ w3) (mvT hZ w4) hy (backOf (W := W) M hZ w4 w3 hf hl) (g := mkF m pc Ls st) rfl hsz (argsL := argsL) (rest := rest) hlen hst (by show 2 * 0 + _ ≤ _; omega) hd (fun _ _ => ⟨has, eT, hc, hs⟩)
  dsimp only [Pt.U, Pt.locs, Pt.cells, Pt.slots] at X1 l1 y1 z1 stp hQ
  subst l1 y1 z1
  exact Go.of stp (k v T1 Lc X1 hQ)
theorem Go.special {own : String} {index : Nat} {y : MethodName} {bytes : ByteArray} {maxL : Nat} {rm : Room} {as : Array Value} {a : Addr} {Qc : Option Value → Heap → List Loc → Prop} (X : Stand p l e R s m args below meth c T locs cells slots) (hx : p.tables.exec = Jvm.exec) (hZ : Z.Warmed39 s.vm) (hown : s.vm.findClass own = some m.cls) (hy1 : y.name = "<init>")
    (w1 : (Jvm.Cond.methodLink own index y).before a0 Z = true) (w2 : (Jvm.Cond.instanceMethod y).before a0 Z = true) (w3 : (Jvm.Cond.initialized y.cls).before a0 Z = true) (w4 : (Jvm.Cond.code y bytes maxL none).before a0 Z = true) (hy : y.cls ≠ "java/lang/invoke/MethodHandle" ∧ y.cls ≠ "java/lang/invoke/VarHandle")
    (M : Met l Z y bytes maxL none [] rm as h Qc) (eT : T.heap = h) (W : Nat) (hf : rm.frames + 1 ≤ R.frames) (hl : W + (maxL + 11) + rm.locals ≤ R.locals) (hc : cells + rm.cells ≤ R.cells) (hs : slots + rm.slots ≤ R.slots) (hsz : Ls.size = c.maxLocals) {st argsL : List Value} (rest : List Value) (hlen : ∀ sig, parseMethodDescriptor y.desc = some sig → argsL.length = sig.parameters.length)
    (has : (.ref a :: argsL : List Value).toArray = as) (hst : st = argsL.reverse ++ .ref a :: rest) (hW : (rest.map fun v => v.category).sum ≤ W) (hd : decode c.code pc = .ok (.invokespecial index, 3))
    (k : ∀ v T' L', Stand p l e R s m args below meth c T' (locs ++ L') (cells + rm.cells) (slots + rm.slots) → Qc v T'.heap L' → Go p e below s R' Q T' (mkF m (pc + 3) Ls (v.toList ++ rest))) : Go p e below s R' Q T (mkF m pc Ls st) := by
  obtain ⟨v, _, ⟨T1, L1, k1, n1⟩, -, X1, ⟨Lc, hQ, l1, y1, z1⟩, stp⟩ := X.specialBack hx (y := y) hy1 hown (mvT hZ w1) (mvT hZ w2) (mvT hZ w4) hy (backOf (W := W) M hZ w4 w3 hf hl) (g := mkF m pc Ls st) rfl hsz (Steps.refl _) (a := a) (argsL := argsL) (rest := rest) hlen hst (by show 2 * 0 + _ ≤ _; omega) hd (fun _ _ => ⟨has, eT, hc, hs⟩)
  dsimp only [Pt.U, Pt.locs, Pt.cells, Pt.slots] at X1 l1 y1 z1 stp hQ
  subst l1 y1 z1
  exact Go.of (fun _ q => stp.trans q) (k v T1 Lc X1 hQ)
theorem Go.virtual {own C : String} {index : Nat} {y z : MethodName} {bytes : ByteArray} {maxL : Nat} {ret : Option FieldType} {rm : Room} {as : Array Value} {a : Addr} {Qc : Option Value → Heap → List Loc → Prop} (X : Stand p l e R s m args below meth c T locs cells slots) (hx : p.tables.exec = Jvm.exec) (hZ : Z.Warmed39 s.vm) (hown : s.vm.findClass own = some m.cls)
    (w1 : (Jvm.Cond.methodLink own index y).before a0 Z = true) (w2 : (Jvm.Cond.declares y).before a0 Z = true) (nf : NotFace s y) (ws : (Jvm.Cond.selects C y z).before a0 Z = true) (wi : (Jvm.Cond.instanceMethod z).before a0 Z = true) (w3 : (Jvm.Cond.initialized z.cls).before a0 Z = true) (w4 : (Jvm.Cond.code z bytes maxL ret).before a0 Z = true) (hy : y.cls ≠ "java/lang/invoke/MethodHandle" ∧ y.cls ≠ "java/lang/invoke/VarHandle")
    (M : Met l Z z bytes maxL ret [] rm as h Qc) (eT : T.heap = h) (E : Exa Z h a C) (W : Nat) (hf : rm.frames + 1 ≤ R.frames) (hl : W + (maxL + 11) + rm.locals ≤ R.locals) (hc : cells + rm.cells ≤ R.cells) (hs : slots + rm.slots ≤ R.slots) (hsz : Ls.size = c.maxLocals) {st argsL : List Value} (rest : List Value) (hlen : ∀ sig, parseMethodDescriptor y.desc = some sig → argsL.length = sig.parameters.length)
    (has : (.ref a :: argsL : List Value).toArray = as) (hst : st = argsL.reverse ++ .ref a :: rest) (hW : (rest.map fun v => v.category).sum ≤ W) (hd : decode c.code pc = .ok (.invokevirtual index, 3))
    (k : ∀ v T' L', Stand p l e R s m args below meth c T' (locs ++ L') (cells + rm.cells) (slots + rm.slots) → Qc v T'.heap L' → Go p e below s R' Q T' (mkF m (pc + 3) Ls (v.toList ++ rest))) : Go p e below s R' Q T (mkF m pc Ls st) := by
  obtain ⟨cq, kq, qa, qb, qc⟩ := isOf hZ eT E
  obtain ⟨v, _, ⟨T1, L1, k1, n1⟩, -, X1, ⟨Lc, hQ, l1, y1, z1⟩, stp⟩ := X.virtualBack hx (y := y) (z := z) hown (mvT hZ w1) (mvT hZ w2) nf (mvT hZ ws) (mvT hZ wi) hy (backOf (W := W) M hZ w4 w3 hf hl) qa qc (g := mkF m pc Ls st) rfl hsz (Steps.refl _) (argsL := argsL) (rest := rest) hlen hst (by show 2 * 0 + _ ≤ _; omega) hd (fun _ _ => ⟨has, eT, hc, hs⟩)
  dsimp only [Pt.U, Pt.locs, Pt.cells, Pt.slots] at X1 l1 y1 z1 stp hQ
  subst l1 y1 z1
  exact Go.of (fun _ q => stp.trans q) (k v T1 Lc X1 hQ)
theorem Go.priv {own C : String} {index : Nat} {y : MethodName} {bytes : ByteArray} {maxL : Nat} {ret : Option FieldType} {rm : Room} {as : Array Value} {a : Addr} {Qc : Option Value → Heap → List Loc → Prop} (X : Stand p l e R s m args below meth c T locs cells slots) (hx : p.tables.exec = Jvm.exec) (hZ : Z.Warmed39 s.vm) (hown : s.vm.findClass own = some m.cls)
    (w1 : (Jvm.Cond.methodLink own index y).before a0 Z = true) (wi : (Jvm.Cond.instanceMethod y).before a0 Z = true) {kk : Nat} (wk : (Jvm.Cond.instantiable y.cls kk).before a0 Z = true) (wp : (Jvm.Cond.privateMethod y).before a0 Z = true) (w3 : (Jvm.Cond.initialized y.cls).before a0 Z = true) (w4 : (Jvm.Cond.code y bytes maxL ret).before a0 Z = true) (hy : y.cls ≠ "java/lang/invoke/MethodHandle" ∧ y.cls ≠ "java/lang/invoke/VarHandle")
    (M : Met l Z y bytes maxL ret [] rm as h Qc) (eT : T.heap = h) (E : Exa Z h a C) (W : Nat) (hf : rm.frames + 1 ≤ R.frames) (hl : W + (maxL + 11) + rm.locals ≤ R.locals) (hc : cells + rm.cells ≤ R.cells) (hs : slots + rm.slots ≤ R.slots) (hsz : Ls.size = c.maxLocals) {st argsL : List Value} (rest : List Value) (hlen : ∀ sig, parseMethodDescriptor y.desc = some sig → argsL.length = sig.parameters.length)
    (has : (.ref a :: argsL : List Value).toArray = as) (hst : st = argsL.reverse ++ .ref a :: rest) (hW : (rest.map fun v => v.category).sum ≤ W) (hd : decode c.code pc = .ok (.invokevirtual index, 3))
    (k : ∀ v T' L', Stand p l e R s m args below meth c T' (locs ++ L') (cells + rm.cells) (slots + rm.slots) → Qc v T'.heap L' → Go p e below s R' Q T' (mkF m (pc + 3) Ls (v.toList ++ rest))) : Go p e below s R' Q T (mkF m pc Ls st) := by
  obtain ⟨cq, qa, qb⟩ := E.cell
  have hp : s.PrivateAt y := Cond.privateMethod_at (mvP hZ wp (args := #[]))
  obtain ⟨ci, ki, i1, i2, -, i4, -⟩ := Cond.instantiable_spec (show (Jvm.Cond.instantiable y.cls kk).before args s = true from mvT hZ wk)
  have hsel : (Jvm.Cond.selects y.cls y y).before args s = true := selects_self_of_private i1 i2 (by revert i4; cases ki.isInterface <;> simp) hp (mvT hZ wi) hy
  obtain ⟨v, _, ⟨T1, L1, k1, n1⟩, -, X1, ⟨Lc, hQ, l1, y1, z1⟩, stp⟩ := X.privateBack hx (y := y) hown (mvT hZ w1) (mvT hZ wi) hsel hp (mvT hZ w4) hy (backOf (W := W) M hZ w4 w3 hf hl) (g := mkF m pc Ls st) rfl hsz (Steps.refl _) (a := a) (by rw [eT]; exact qa) qb (argsL := argsL) (rest := rest) hlen hst (by show 2 * 0 + _ ≤ _; omega) hd (fun _ _ => ⟨has, eT, hc, hs⟩)
  dsimp only [Pt.U, Pt.locs, Pt.cells, Pt.slots] at X1 l1 y1 z1 stp hQ
  subst l1 y1 z1
  exact Go.of (fun _ q => stp.trans q) (k v T1 Lc X1 hQ)
/-! conditions -/
theorem cZlt {x y : Int64} (q : x < y) : ifCond.holds .lt (lcmpW x y) = true ∧ ifCond.holds .ge (lcmpW x y) = false := ⟨(if0 _ _).trans (tlt ((lw_lt x y).mpr q)).1, (if0 _ _).trans (tlt ((lw_lt x y).mpr q)).2.1⟩
theorem cFlt {x y : Int64} (q : ¬ x < y) : ifCond.holds .lt (lcmpW x y) = false ∧ ifCond.holds .ge (lcmpW x y) = true := ⟨(if0 _ _).trans (flt (fun r => q ((lw_lt x y).mp r))).1, (if0 _ _).trans (flt (fun r => q ((lw_lt x y).mp r))).2.1⟩
theorem cZgt {x y : Int64} (q : y < x) : ifCond.holds .gt (lcmpW x y) = true ∧ ifCond.holds .le (lcmpW x y) = false := ⟨(if0 _ _).trans (tlt ((lw_gt x y).mpr q)).2.2.1, (if0 _ _).trans (tlt ((lw_gt x y).mpr q)).2.2.2⟩
theorem cFgt {x y : Int64} (q : ¬ y < x) : ifCond.holds .gt (lcmpW x y) = false ∧ ifCond.holds .le (lcmpW x y) = true := ⟨(if0 _ _).trans (flt (fun r => q ((lw_gt x y).mp r))).2.2.1, (if0 _ _).trans (flt (fun r => q ((lw_gt x y).mp r))).2.2.2⟩
theorem cZeq {x y : Int64} (q : x = y) : ifCond.holds .eq (lcmpW x y) = true ∧ ifCond.holds .ne (lcmpW x y) = false := ⟨(if0 _ _).trans (teq ((lw_eq x y).mpr q)).1, (if0 _ _).trans (teq ((lw_eq x y).mpr q)).2⟩
theorem cFeq {x y : Int64} (q : ¬ x = y) : ifCond.holds .eq (lcmpW x y) = false ∧ ifCond.holds .ne (lcmpW x y) = true := ⟨(if0 _ _).trans (feq (fun r => q ((lw_eq x y).mp r))).1, (if0 _ _).trans (feq (fun r => q ((lw_eq x y).mp r))).2⟩
end Kit
theorem own_ni0 {a : Addr}  : a ∉ ([] : List Addr) := by simp [*]
theorem own_all0 {P : Addr → Prop} {b0 : Addr}  : ∀ x ∈ ([] : List Addr), P x := by intro x hx; cases hx
theorem own_ni1 {a b0 : Addr} (q0 : a ≠ b0) : a ∉ ([b0] : List Addr) := by simp [*]
theorem own_all1 {P : Addr → Prop} {b0 : Addr} (q0 : P b0) : ∀ x ∈ ([b0] : List Addr), P x := by intro x hx; simp only [List.mem_cons, List.not_mem_nil, or_false] at hx; subst hx; assumption
theorem own_ni2 {a b0 b1 : Addr} (q0 : a ≠ b0) (q1 : a ≠ b1) : a ∉ ([b0, b1] : List Addr) := by simp [*]
theorem own_all2 {P : Addr → Prop} {b0 b1 : Addr} (q0 : P b0) (q1 : P b1) : ∀ x ∈ ([b0, b1] : List Addr), P x := by intro x hx; simp only [List.mem_cons, List.not_mem_nil, or_false] at hx; rcases hx with rfl | rfl <;> assumption
theorem own_ni3 {a b0 b1 b2 : Addr} (q0 : a ≠ b0) (q1 : a ≠ b1) (q2 : a ≠ b2) : a ∉ ([b0, b1, b2] : List Addr) := by simp [*]
theorem own_all3 {P : Addr → Prop} {b0 b1 b2 : Addr} (q0 : P b0) (q1 : P b1) (q2 : P b2) : ∀ x ∈ ([b0, b1, b2] : List Addr), P x := by intro x hx; simp only [List.mem_cons, List.not_mem_nil, or_false] at hx; rcases hx with rfl | rfl | rfl <;> assumption
theorem own_ni4 {a b0 b1 b2 b3 : Addr} (q0 : a ≠ b0) (q1 : a ≠ b1) (q2 : a ≠ b2) (q3 : a ≠ b3) : a ∉ ([b0, b1, b2, b3] : List Addr) := by simp [*]
theorem own_all4 {P : Addr → Prop} {b0 b1 b2 b3 : Addr} (q0 : P b0) (q1 : P b1) (q2 : P b2) (q3 : P b3) : ∀ x ∈ ([b0, b1, b2, b3] : List Addr), P x := by intro x hx; simp only [List.mem_cons, List.not_mem_nil, or_false] at hx; rcases hx with rfl | rfl | rfl | rfl <;> assumption
theorem own_ni5 {a b0 b1 b2 b3 b4 : Addr} (q0 : a ≠ b0) (q1 : a ≠ b1) (q2 : a ≠ b2) (q3 : a ≠ b3) (q4 : a ≠ b4) : a ∉ ([b0, b1, b2, b3, b4] : List Addr) := by simp [*]
theorem own_all5 {P : Addr → Prop} {b0 b1 b2 b3 b4 : Addr} (q0 : P b0) (q1 : P b1) (q2 : P b2) (q3 : P b3) (q4 : P b4) : ∀ x ∈ ([b0, b1, b2, b3, b4] : List Addr), P x := by intro x hx; simp only [List.mem_cons, List.not_mem_nil, or_false] at hx; rcases hx with rfl | rfl | rfl | rfl | rfl <;> assumption
theorem own_ni6 {a b0 b1 b2 b3 b4 b5 : Addr} (q0 : a ≠ b0) (q1 : a ≠ b1) (q2 : a ≠ b2) (q3 : a ≠ b3) (q4 : a ≠ b4) (q5 : a ≠ b5) : a ∉ ([b0, b1, b2, b3, b4, b5] : List Addr) := by simp [*]
theorem own_all6 {P : Addr → Prop} {b0 b1 b2 b3 b4 b5 : Addr} (q0 : P b0) (q1 : P b1) (q2 : P b2) (q3 : P b3) (q4 : P b4) (q5 : P b5) : ∀ x ∈ ([b0, b1, b2, b3, b4, b5] : List Addr), P x := by intro x hx; simp only [List.mem_cons, List.not_mem_nil, or_false] at hx; rcases hx with rfl | rfl | rfl | rfl | rfl | rfl <;> assumption
theorem own_ni7 {a b0 b1 b2 b3 b4 b5 b6 : Addr} (q0 : a ≠ b0) (q1 : a ≠ b1) (q2 : a ≠ b2) (q3 : a ≠ b3) (q4 : a ≠ b4) (q5 : a ≠ b5) (q6 : a ≠ b6) : a ∉ ([b0, b1, b2, b3, b4, b5, b6] : List Addr) := by simp [*]
theorem own_all7 {P : Addr → Prop} {b0 b1 b2 b3 b4 b5 b6 : Addr} (q0 : P b0) (q1 : P b1) (q2 : P b2) (q3 : P b3) (q4 : P b4) (q5 : P b5) (q6 : P b6) : ∀ x ∈ ([b0, b1, b2, b3, b4, b5, b6] : List Addr), P x := by intro x hx; simp only [List.mem_cons, List.not_mem_nil, or_false] at hx; rcases hx with rfl | rfl | rfl | rfl | rfl | rfl | rfl <;> assumption

open Jvm.Kit
def own_W (W : Nat → Int64) (k : Int32) (q : Int64) : Nat → Int64 := fun j => if j = k.toNatClampNeg then W j ||| q else W j
def own_B (W : Nat → Int64) (B : Nat → Int32) (c k : Int32) : Nat → Int32 := fun j => if W k.toNatClampNeg = 0 ∧ j = c.toNatClampNeg then k else B j
def own_c (W : Nat → Int64) (c k : Int32) : Int32 := if W k.toNatClampNeg = 0 then c + 1 else c
theorem own_and3 (x : Int32) : Inb (x &&& (3 : Int32)) 4 := by
  have m0 : (x &&& 3).toInt = x.toInt % 2 ^ 2 := i32_mask _ _ (by decide) (by decide)
  have k0 : (0 : Int32).toInt = 0 := by decide
  simp only [Inb, Int32.lt_iff_toInt_lt, Int32.toNatClampNeg]
  omega
theorem own_inj {x y : Int32} {n : Nat} (hx : Inb x n) (hy : Inb y n) : x.toNatClampNeg = y.toNatClampNeg ↔ x = y := by
  constructor
  · intro q
    have k0 : (0 : Int32).toInt = 0 := by decide
    have h1 := hx.1; have h2 := hy.1
    simp only [Int32.lt_iff_toInt_lt, Int32.toNatClampNeg] at h1 h2 q
    exact Int32.toInt_inj.mp (by omega)
  · intro q; rw [q]
def own_W0 : Nat → Int64 := fun _ => 0
def own_B0 : Nat → Int32 := fun _ => 0
theorem own_c1 (k : Int32) : own_c own_W0 0 k = 1 := by simp [own_c, own_W0]
theorem own_at {k1 k2 j : Int32} {n : Nat} (i1 : Inb k1 n) (i2 : Inb k2 n) (ij : Inb j n) (v1 v2 : Int64) : own_W (own_W own_W0 k1 v1) k2 v2 j.toNatClampNeg = (if j = k1 then v1 else 0) ||| (if j = k2 then v2 else 0) := by
  simp only [own_W, own_W0, own_inj ij i1, own_inj ij i2]
  by_cases h1 : j = k1
  · by_cases h2 : j = k2
    · simp only [if_pos h1, if_pos h2, Int64.zero_or]
    · simp only [if_pos h1, if_neg h2, Int64.zero_or, Int64.or_zero]
  · by_cases h2 : j = k2
    · simp only [if_neg h1, if_pos h2]
    · simp only [if_neg h1, if_neg h2, Int64.or_zero]
theorem own_c2 {k1 k2 : Int32} {n : Nat} (i1 : Inb k1 n) (i2 : Inb k2 n) {v1 : Int64} (h : v1 ≠ 0) : own_c (own_W own_W0 k1 v1) 1 k2 = if k1 = k2 then 1 else 2 := by
  simp only [own_c, own_W, own_W0, own_inj i2 i1]
  by_cases q : k1 = k2
  · subst q; simp [h]
  · have : ¬ k2 = k1 := fun r => q r.symm
    simp only [if_neg this, if_neg q]; rfl
theorem own_b0 {k1 k2 : Int32} {v1 : Int64} : own_B (own_W own_W0 k1 v1) (own_B own_W0 own_B0 0 k1) 1 k2 (0 : Int32).toNatClampNeg = k1 := by
  have e0 : (0 : Int32).toNatClampNeg = 0 := by decide
  have e1 : (1 : Int32).toNatClampNeg = 1 := by decide
  simp [own_B, own_W0, e0, e1]
theorem own_b1 {k1 k2 : Int32} {n : Nat} (i1 : Inb k1 n) (i2 : Inb k2 n) {v1 : Int64} (q : ¬ k1 = k2) : own_B (own_W own_W0 k1 v1) (own_B own_W0 own_B0 0 k1) 1 k2 (1 : Int32).toNatClampNeg = k2 := by
  have e1 : (1 : Int32).toNatClampNeg = 1 := by decide
  have : ¬ k2 = k1 := fun r => q r.symm
  simp [own_B, own_W, own_W0, e1, own_inj i2 i1, this]
theorem pd0 : parseMethodDescriptor "(I)V" = some ⟨[.int], none⟩ := by decide +kernel
theorem pd1 : parseMethodDescriptor "(IJ)V" = some ⟨[.int, .long], none⟩ := by decide +kernel
theorem pd2 : parseMethodDescriptor "(I)J" = some ⟨[.int], some .long⟩ := by decide +kernel
theorem pd3 : parseMethodDescriptor "()I" = some ⟨[], some .int⟩ := by decide +kernel
theorem pd4 : parseMethodDescriptor "(I)I" = some ⟨[.int], some .int⟩ := by decide +kernel
theorem d1_0 : decode prog_55_method_1_code 0 = .ok (.aload_n 0, 1) := by decide +kernel
theorem d1_1 : decode prog_55_method_1_code 1 = .ok (.invokespecial 1, 3) := by decide +kernel
theorem d1_4 : decode prog_55_method_1_code 4 = .ok (.aload_n 0, 1) := by decide +kernel
theorem d1_5 : decode prog_55_method_1_code 5 = .ok (.iload_n 1, 1) := by decide +kernel
theorem d1_6 : decode prog_55_method_1_code 6 = .ok (.i2l, 1) := by decide +kernel
theorem d1_7 : decode prog_55_method_1_code 7 = .ok (.ldc2_w 7, 3) := by decide +kernel
theorem d1_10 : decode prog_55_method_1_code 10 = .ok (.ladd, 1) := by decide +kernel
theorem d1_11 : decode prog_55_method_1_code 11 = .ok (.bipush 6, 2) := by decide +kernel
theorem d1_13 : decode prog_55_method_1_code 13 = .ok (.lushr, 1) := by decide +kernel
theorem d1_14 : decode prog_55_method_1_code 14 = .ok (.l2i, 1) := by decide +kernel
theorem d1_15 : decode prog_55_method_1_code 15 = .ok (.newarray .long, 2) := by decide +kernel
theorem d1_17 : decode prog_55_method_1_code 17 = .ok (.putfield 9, 3) := by decide +kernel
theorem d1_20 : decode prog_55_method_1_code 20 = .ok (.aload_n 0, 1) := by decide +kernel
theorem d1_21 : decode prog_55_method_1_code 21 = .ok (.aload_n 0, 1) := by decide +kernel
theorem d1_22 : decode prog_55_method_1_code 22 = .ok (.getfield 9, 3) := by decide +kernel
theorem d1_25 : decode prog_55_method_1_code 25 = .ok (.arraylength, 1) := by decide +kernel
theorem d1_26 : decode prog_55_method_1_code 26 = .ok (.newarray .int, 2) := by decide +kernel
theorem d1_28 : decode prog_55_method_1_code 28 = .ok (.putfield 15, 3) := by decide +kernel
theorem d1_31 : decode prog_55_method_1_code 31 = .ok (.return_, 1) := by decide +kernel
theorem pn1 : plainFor (⟨"com/example/fixpoint/fixpoint/IdBitmap", "<init>", "(I)V"⟩ : MethodName) = true := plainFor_of_name (by first | (simp [plainName, overriddenIn]; done) | decide +kernel)
theorem ef_rm1 (m : MethodId) (x0 : Addr) (x1 : Int32) : entryFrame m #[(.ref x0), (.int x1)] 2 = mkF m 0 #[.val (.ref x0), .val (.int x1)] [] := by first | (simp [entryFrame, mkF, argsToLocals, Value.category]; done) | rfl
set_option maxRecDepth 65536 in
set_option maxHeartbeats 40000000 in
theorem rm1 {l : Launch} {Z : State} {a0 : Array Value} (hw : ∀ d ∈ tables_1, d.before a0 Z = true) (a : Addr) (h0 : Heap) (n0 : Nat) (Z0 : n0 ≤ h0.size) (g_a : n0 ≤ a) (E_a : Exa Z h0 a "com/example/fixpoint/fixpoint/IdBitmap") (F_words_a : Fld Z h0 a "com/example/fixpoint/fixpoint/IdBitmap" "words" "[J" .null) (F_blocks_a : Fld Z h0 a "com/example/fixpoint/fixpoint/IdBitmap" "blocks" "[I" .null) (F_count_a : Fld Z h0 a "com/example/fixpoint/fixpoint/IdBitmap" "count" "I" (.int (0 : Int32))) :
    Met l Z (⟨"com/example/fixpoint/fixpoint/IdBitmap", "<init>", "(I)V"⟩ : MethodName) prog_55_method_1_code 2 none [] ({ frames := 1, cells := 2, slots := 8, locals := 12 } : Room) #[(.ref a), (.int (256 : Int32))] h0 (fun v h L => v = none ∧ Fr n0 L ∧ Keep h0 h [a] ∧ ∃ w b : Addr, h0.size ≤ w ∧ h0.size ≤ b ∧ a ≠ w ∧ a ≠ b ∧ w ≠ b ∧ Fld Z h a "com/example/fixpoint/fixpoint/IdBitmap" "words" "[J" (.ref w) ∧ Fld Z h a "com/example/fixpoint/fixpoint/IdBitmap" "blocks" "[I" (.ref b) ∧ Fld Z h a "com/example/fixpoint/fixpoint/IdBitmap" "count" "I" (.int (0 : Int32)) ∧ AV Z h w .long 4 (fun j => .long (own_W0 j)) ∧ AV Z h b .int 4 (fun j => .int (own_B0 j))) := by
  refine Met.mk pn1 ?_
  intro p e s m below meth c T hx hby hml hown hnm hret hlk hZ X eT
  refine Go.cast (ef_rm1 m a (256 : Int32)) ?_
  have N := Fr.nil n0
  have K := Keep.refl h0 [a]
  show Go p e below s _ _ T (mkF m 0 #[.val (.ref a), .val (.int (256 : Int32))] [])
  refine Go.of (fun _ kq => XS.aloadN X.here hx rfl (hb hby d1_0) rfl rfl kq) ?_
  show Go p e below s _ _ T (mkF m 1 #[.val (.ref a), .val (.int (256 : Int32))] [(.ref a)])
  refine Go.initO X hx hZ hown (hw _ (List.mem_of_getElem? (i := 6) rfl)) (hw _ (List.mem_of_getElem? (i := 7) rfl)) (hw _ (List.mem_of_getElem? (i := 8) rfl)) eT (by rw [hml]; rfl) (hb hby d1_1) (by decide) 0 (Nat.le_of_eq rfl) (by decide) ?_
  intro T X eT
  show Go p e below s _ _ T (mkF m 4 #[.val (.ref a), .val (.int (256 : Int32))] [])
  refine Go.of (fun _ kq => XS.aloadN X.here hx rfl (hb hby d1_4) rfl rfl kq) ?_
  show Go p e below s _ _ T (mkF m 5 #[.val (.ref a), .val (.int (256 : Int32))] [(.ref a)])
  refine Go.of (fun _ kq => XS.iloadN X.here hx rfl (hb hby d1_5) rfl kq) ?_
  show Go p e below s _ _ T (mkF m 6 #[.val (.ref a), .val (.int (256 : Int32))] [(.int (256 : Int32)), (.ref a)])
  refine Go.of (fun _ kq => XS.i2l X.here hx rfl (hb hby d1_6) rfl kq) ?_
  show Go p e below s _ _ T (mkF m 7 #[.val (.ref a), .val (.int (256 : Int32))] [(.long ((256 : Int32).toInt64)), (.ref a)])
  refine Go.of (X.ldc2Long hx hown (mvT hZ (hw _ (List.mem_of_getElem? (i := 9) rfl))) (g := (mkF m 7 #[.val (.ref a), .val (.int (256 : Int32))] [(.long ((256 : Int32).toInt64)), (.ref a)])) rfl (hb hby d1_7)) ?_
  show Go p e below s _ _ T (mkF m 10 #[.val (.ref a), .val (.int (256 : Int32))] [(.long (63 : Int64)), (.long ((256 : Int32).toInt64)), (.ref a)])
  refine Go.of (fun _ kq => XS.ladd X.here hx rfl (hb hby d1_10) rfl kq) ?_
  show Go p e below s _ _ T (mkF m 11 #[.val (.ref a), .val (.int (256 : Int32))] [(.long (((256 : Int32).toInt64) + (63 : Int64))), (.ref a)])
  refine Go.of (fun _ kq => XS.bipush X.here hx rfl (hb hby d1_11) kq) ?_
  show Go p e below s _ _ T (mkF m 13 #[.val (.ref a), .val (.int (256 : Int32))] [(.int (6 : Int32)), (.long (((256 : Int32).toInt64) + (63 : Int64))), (.ref a)])
  refine Go.of (fun _ kq => XS.lushr X.here hx rfl (hb hby d1_13) rfl kq) ?_
  show Go p e below s _ _ T (mkF m 14 #[.val (.ref a), .val (.int (256 : Int32))] [(.long (((((256 : Int32).toInt64) + (63 : Int64)).toUInt64 >>> ((6 : Int32) &&& 0x3f).toInt64.toUInt64).toInt64)), (.ref a)])
  refine Go.of (fun _ kq => XS.l2i X.here hx rfl (hb hby d1_14) rfl kq) ?_
  show Go p e below s _ _ T (mkF m 15 #[.val (.ref a), .val (.int (256 : Int32))] [(.int ((((((256 : Int32).toInt64) + (63 : Int64)).toUInt64 >>> ((6 : Int32) &&& 0x3f).toInt64.toUInt64).toInt64).toInt32)), (.ref a)])
  rw [show ((((((256 : Int32).toInt64) + (63 : Int64)).toUInt64 >>> ((6 : Int32) &&& 0x3f).toInt64.toUInt64).toInt64).toInt32) = (4 : Int32) by decide]
  refine Go.newP X hx hZ (hw _ (List.mem_of_getElem? (i := 10) rfl)) eT (hb hby d1_15) (by decide) 4 (by decide) (by decide) (by decide) (by decide) ?_
  intro T h b15 X eT E ha V_b15
  have ne_a_b15 : a ≠ b15 := by rw [ha]; exact Nat.ne_of_lt E_a.lt
  have z_b15 : h0.size ≤ b15 := by rw [ha]; exact K.1
  have g_b15 : n0 ≤ b15 := Nat.le_trans Z0 z_b15
  have K := K.ext E
  have E_a := E_a.ext E
  have F_words_a := F_words_a.ext E
  have F_blocks_a := F_blocks_a.ext E
  have F_count_a := F_count_a.ext E
  have V_b15 : AV Z h b15 .long 4 (fun _ => .long 0) := V_b15
  show Go p e below s _ _ T (mkF m 17 #[.val (.ref a), .val (.int (256 : Int32))] [(.ref b15), (.ref a)])
  refine Go.putF X hx hZ hown (hw _ (List.mem_of_getElem? (i := 11) rfl)) Via.refl eT F_words_a E_a (Or.inr ⟨(hw _ (List.mem_of_getElem? (i := 12) rfl)), rfl, hnm⟩) (hw _ (List.mem_of_getElem? (i := 1) rfl)) (ty := (.array .long)) (by decide) rfl rfl (hb hby d1_17) ?_
  intro T h X eT wr
  have N := Fr.snoc X N g_a
  have K := K.wr wr (Or.inl (List.mem_of_getElem? (i := 0) rfl))
  have E_a := E_a.wr wr
  have F_words_a := F_words_a.same wr
  have F_blocks_a := F_blocks_a.other wr (Or.inr (slot_ne (Or.inr (hw _ (List.mem_of_getElem? (i := 15) rfl))) (Or.inr (hw _ (List.mem_of_getElem? (i := 12) rfl))) (by decide) (t := (.array .int)) (t' := (.array .long)) (by decide) (by decide)))
  have F_count_a := F_count_a.other wr (Or.inr (slot_ne (Or.inl (hw _ (List.mem_of_getElem? (i := 22) rfl))) (Or.inr (hw _ (List.mem_of_getElem? (i := 12) rfl))) (by decide) (t := .int) (t' := (.array .long)) (by decide) (by decide)))
  have V_b15 := V_b15.other wr (Ne.symm ne_a_b15)
  show Go p e below s _ _ T (mkF m 20 #[.val (.ref a), .val (.int (256 : Int32))] [])
  refine Go.of (fun _ kq => XS.aloadN X.here hx rfl (hb hby d1_20) rfl rfl kq) ?_
  show Go p e below s _ _ T (mkF m 21 #[.val (.ref a), .val (.int (256 : Int32))] [(.ref a)])
  refine Go.of (fun _ kq => XS.aloadN X.here hx rfl (hb hby d1_21) rfl rfl kq) ?_
  show Go p e below s _ _ T (mkF m 22 #[.val (.ref a), .val (.int (256 : Int32))] [(.ref a), (.ref a)])
  refine Go.getF X hx hZ hown (hw _ (List.mem_of_getElem? (i := 11) rfl)) Via.refl eT F_words_a (hb hby d1_22) ?_
  intro T X eT
  show Go p e below s _ _ T (mkF m 25 #[.val (.ref a), .val (.int (256 : Int32))] [(.ref b15), (.ref a)])
  refine Go.alen (4 : Int32) X hx hZ eT V_b15 (by decide) (hb hby d1_25) ?_
  show Go p e below s _ _ T (mkF m 26 #[.val (.ref a), .val (.int (256 : Int32))] [(.int (4 : Int32)), (.ref a)])
  refine Go.newP X hx hZ (hw _ (List.mem_of_getElem? (i := 13) rfl)) eT (hb hby d1_26) (by decide) 4 (by decide) (by decide) (by decide) (by decide) ?_
  intro T h b26 X eT E ha V_b26
  have ne_a_b26 : a ≠ b26 := by rw [ha]; exact Nat.ne_of_lt E_a.lt
  have ne_b15_b26 : b15 ≠ b26 := by rw [ha]; exact Nat.ne_of_lt V_b15.lt
  have z_b26 : h0.size ≤ b26 := by rw [ha]; exact K.1
  have g_b26 : n0 ≤ b26 := Nat.le_trans Z0 z_b26
  have K := K.ext E
  have E_a := E_a.ext E
  have F_words_a := F_words_a.ext E
  have F_blocks_a := F_blocks_a.ext E
  have F_count_a := F_count_a.ext E
  have V_b15 := V_b15.ext E
  have V_b26 : AV Z h b26 .int 4 (fun _ => .int 0) := V_b26
  show Go p e below s _ _ T (mkF m 28 #[.val (.ref a), .val (.int (256 : Int32))] [(.ref b26), (.ref a)])
  refine Go.putF X hx hZ hown (hw _ (List.mem_of_getElem? (i := 14) rfl)) Via.refl eT F_blocks_a E_a (Or.inr ⟨(hw _ (List.mem_of_getElem? (i := 15) rfl)), rfl, hnm⟩) (hw _ (List.mem_of_getElem? (i := 1) rfl)) (ty := (.array .int)) (by decide) rfl rfl (hb hby d1_28) ?_
  intro T h X eT wr
  have N := Fr.snoc X N g_a
  have K := K.wr wr (Or.inl (List.mem_of_getElem? (i := 0) rfl))
  have E_a := E_a.wr wr
  have F_words_a := F_words_a.other wr (Or.inr (slot_ne (Or.inr (hw _ (List.mem_of_getElem? (i := 12) rfl))) (Or.inr (hw _ (List.mem_of_getElem? (i := 15) rfl))) (by decide) (t := (.array .long)) (t' := (.array .int)) (by decide) (by decide)))
  have F_blocks_a := F_blocks_a.same wr
  have F_count_a := F_count_a.other wr (Or.inr (slot_ne (Or.inl (hw _ (List.mem_of_getElem? (i := 22) rfl))) (Or.inr (hw _ (List.mem_of_getElem? (i := 15) rfl))) (by decide) (t := .int) (t' := (.array .int)) (by decide) (by decide)))
  have V_b15 := V_b15.other wr (Ne.symm ne_a_b15)
  have V_b26 := V_b26.other wr (Ne.symm ne_a_b26)
  show Go p e below s _ _ T (mkF m 31 #[.val (.ref a), .val (.int (256 : Int32))] [])
  refine Go.retV X hx hret hlk (hb hby d1_31) (by decide) (by decide) ?_
  try rw [eT]
  exact ⟨rfl, N, K, b15, b26, z_b15, z_b26, ne_a_b15, ne_a_b26, ne_b15_b26, F_words_a, F_blocks_a, F_count_a, V_b15, V_b26⟩
theorem d3_0 : decode prog_55_method_3_code 0 = .ok (.aload_n 0, 1) := by decide +kernel
theorem d3_1 : decode prog_55_method_3_code 1 = .ok (.getfield 9, 3) := by decide +kernel
theorem d3_4 : decode prog_55_method_3_code 4 = .ok (.iload_n 1, 1) := by decide +kernel
theorem d3_5 : decode prog_55_method_3_code 5 = .ok (.laload, 1) := by decide +kernel
theorem d3_6 : decode prog_55_method_3_code 6 = .ok (.lstore 4, 2) := by decide +kernel
theorem d3_8 : decode prog_55_method_3_code 8 = .ok (.lload 4, 2) := by decide +kernel
theorem d3_10 : decode prog_55_method_3_code 10 = .ok (.lconst 0, 1) := by decide +kernel
theorem d3_11 : decode prog_55_method_3_code 11 = .ok (.lcmp, 1) := by decide +kernel
theorem d3_12 : decode prog_55_method_3_code 12 = .ok (.ifCond .ne 23, 3) := by decide +kernel
theorem d3_15 : decode prog_55_method_3_code 15 = .ok (.aload_n 0, 1) := by decide +kernel
theorem d3_16 : decode prog_55_method_3_code 16 = .ok (.getfield 15, 3) := by decide +kernel
theorem d3_19 : decode prog_55_method_3_code 19 = .ok (.aload_n 0, 1) := by decide +kernel
theorem d3_20 : decode prog_55_method_3_code 20 = .ok (.getfield 23, 3) := by decide +kernel
theorem d3_23 : decode prog_55_method_3_code 23 = .ok (.iload_n 1, 1) := by decide +kernel
theorem d3_24 : decode prog_55_method_3_code 24 = .ok (.iastore, 1) := by decide +kernel
theorem d3_25 : decode prog_55_method_3_code 25 = .ok (.aload_n 0, 1) := by decide +kernel
theorem d3_26 : decode prog_55_method_3_code 26 = .ok (.dup, 1) := by decide +kernel
theorem d3_27 : decode prog_55_method_3_code 27 = .ok (.getfield 23, 3) := by decide +kernel
theorem d3_30 : decode prog_55_method_3_code 30 = .ok (.iconst 1, 1) := by decide +kernel
theorem d3_31 : decode prog_55_method_3_code 31 = .ok (.iadd, 1) := by decide +kernel
theorem d3_32 : decode prog_55_method_3_code 32 = .ok (.putfield 23, 3) := by decide +kernel
theorem d3_35 : decode prog_55_method_3_code 35 = .ok (.aload_n 0, 1) := by decide +kernel
theorem d3_36 : decode prog_55_method_3_code 36 = .ok (.getfield 9, 3) := by decide +kernel
theorem d3_39 : decode prog_55_method_3_code 39 = .ok (.iload_n 1, 1) := by decide +kernel
theorem d3_40 : decode prog_55_method_3_code 40 = .ok (.lload 4, 2) := by decide +kernel
theorem d3_42 : decode prog_55_method_3_code 42 = .ok (.lload_n 2, 1) := by decide +kernel
theorem d3_43 : decode prog_55_method_3_code 43 = .ok (.lor, 1) := by decide +kernel
theorem d3_44 : decode prog_55_method_3_code 44 = .ok (.lastore, 1) := by decide +kernel
theorem d3_45 : decode prog_55_method_3_code 45 = .ok (.return_, 1) := by decide +kernel
theorem pn3 : plainFor (⟨"com/example/fixpoint/fixpoint/IdBitmap", "add", "(IJ)V"⟩ : MethodName) = true := plainFor_of_name (by first | (simp [plainName, overriddenIn]; done) | decide +kernel)
theorem ef_rm3 (m : MethodId) (x0 : Addr) (x1 : Int32) (x2 : Int64) : entryFrame m #[(.ref x0), (.int x1), (.long x2)] 6 = mkF m 0 #[.val (.ref x0), .val (.int x1), .val (.long x2), .second, .unset, .unset] [] := by first | (simp [entryFrame, mkF, argsToLocals, Value.category]; done) | rfl
set_option maxRecDepth 65536 in
set_option maxHeartbeats 40000000 in
theorem rm3 {l : Launch} {Z : State} {a0 : Array Value} (hw : ∀ d ∈ tables_1, d.before a0 Z = true) (a : Addr) (k : Int32) (q : Int64) (w b : Addr) (W : Nat → Int64) (B : Nat → Int32) (c0 : Int32) (h0 : Heap) (n0 : Nat) (g_a : n0 ≤ a) (g_w : n0 ≤ w) (g_b : n0 ≤ b) (ne_a_w : a ≠ w) (ne_a_b : a ≠ b) (ne_w_b : w ≠ b) (hk : Inb k 4) (hcI : Inb c0 4) (E_a : Exa Z h0 a "com/example/fixpoint/fixpoint/IdBitmap") (F_words_a : Fld Z h0 a "com/example/fixpoint/fixpoint/IdBitmap" "words" "[J" (.ref w)) (F_blocks_a : Fld Z h0 a "com/example/fixpoint/fixpoint/IdBitmap" "blocks" "[I" (.ref b)) (F_count_a : Fld Z h0 a "com/example/fixpoint/fixpoint/IdBitmap" "count" "I" (.int c0)) (V_w : AV Z h0 w .long 4 (fun j => .long (W j))) (V_b : AV Z h0 b .int 4 (fun j => .int (B j))) :
    Met l Z (⟨"com/example/fixpoint/fixpoint/IdBitmap", "add", "(IJ)V"⟩ : MethodName) prog_55_method_3_code 6 none [] ({ frames := 0, cells := 0, slots := 0, locals := 0 } : Room) #[(.ref a), (.int k), (.long q)] h0 (fun v h L => v = none ∧ Fr n0 L ∧ Keep h0 h [a, w, b] ∧ Fld Z h a "com/example/fixpoint/fixpoint/IdBitmap" "words" "[J" (.ref w) ∧ Fld Z h a "com/example/fixpoint/fixpoint/IdBitmap" "blocks" "[I" (.ref b) ∧ Fld Z h a "com/example/fixpoint/fixpoint/IdBitmap" "count" "I" (.int (own_c W c0 k)) ∧ AV Z h w .long 4 (fun j => .long (own_W W k q j)) ∧ AV Z h b .int 4 (fun j => .int (own_B W B c0 k j))) := by
  refine Met.mk pn3 ?_
  intro p e s m below meth c T hx hby hml hown hnm hret hlk hZ X eT
  refine Go.cast (ef_rm3 m a k q) ?_
  have N := Fr.nil n0
  have K := Keep.refl h0 [a, w, b]
  show Go p e below s _ _ T (mkF m 0 #[.val (.ref a), .val (.int k), .val (.long q), .second, .unset, .unset] [])
  refine Go.of (fun _ kq => XS.aloadN X.here hx rfl (hb hby d3_0) rfl rfl kq) ?_
  show Go p e below s _ _ T (mkF m 1 #[.val (.ref a), .val (.int k), .val (.long q), .second, .unset, .unset] [(.ref a)])
  refine Go.getF X hx hZ hown (hw _ (List.mem_of_getElem? (i := 11) rfl)) Via.refl eT F_words_a (hb hby d3_1) ?_
  intro T X eT
  show Go p e below s _ _ T (mkF m 4 #[.val (.ref a), .val (.int k), .val (.long q), .second, .unset, .unset] [(.ref w)])
  refine Go.of (fun _ kq => XS.iloadN X.here hx rfl (hb hby d3_4) rfl kq) ?_
  show Go p e below s _ _ T (mkF m 5 #[.val (.ref a), .val (.int k), .val (.long q), .second, .unset, .unset] [(.int k), (.ref w)])
  refine Go.ldJ (.long (W k.toNatClampNeg)) X hx hZ eT V_w (show Inb k 4 from hk) rfl (hb hby d3_5) ?_
  show Go p e below s _ _ T (mkF m 6 #[.val (.ref a), .val (.int k), .val (.long q), .second, .unset, .unset] [(.long (W k.toNatClampNeg))])
  refine Go.of (fun _ kq => XS.lstore X.here hx rfl (hb hby d3_6) rfl (l' := #[.val (.ref a), .val (.int k), .val (.long q), .second, .val (.long (W k.toNatClampNeg)), .second]) rfl kq) ?_
  show Go p e below s _ _ T (mkF m 8 #[.val (.ref a), .val (.int k), .val (.long q), .second, .val (.long (W k.toNatClampNeg)), .second] [])
  refine Go.of (fun _ kq => XS.lload X.here hx rfl (hb hby d3_8) rfl kq) ?_
  show Go p e below s _ _ T (mkF m 10 #[.val (.ref a), .val (.int k), .val (.long q), .second, .val (.long (W k.toNatClampNeg)), .second] [(.long (W k.toNatClampNeg))])
  refine Go.of (fun _ kq => XS.lconst X.here hx rfl (hb hby d3_10) kq) ?_
  show Go p e below s _ _ T (mkF m 11 #[.val (.ref a), .val (.int k), .val (.long q), .second, .val (.long (W k.toNatClampNeg)), .second] [(.long (0 : Int64)), (.long (W k.toNatClampNeg))])
  refine Go.of (fun _ kq => XS.lcmp X.here hx rfl (hb hby d3_11) rfl kq) ?_
  show Go p e below s _ _ T (mkF m 12 #[.val (.ref a), .val (.int k), .val (.long q), .second, .val (.long (W k.toNatClampNeg)), .second] [(.int (lcmpW (W k.toNatClampNeg) (0 : Int64)))])
  by_cases hc12 : (W k.toNatClampNeg) = (0 : Int64)
  · refine Go.of (fun _ kq => XS.ifNo X.here hx rfl (hb hby d3_12) rfl (cZeq hc12).2 kq) ?_
    show Go p e below s _ _ T (mkF m 15 #[.val (.ref a), .val (.int k), .val (.long q), .second, .val (.long (W k.toNatClampNeg)), .second] [])
    refine Go.of (fun _ kq => XS.aloadN X.here hx rfl (hb hby d3_15) rfl rfl kq) ?_
    show Go p e below s _ _ T (mkF m 16 #[.val (.ref a), .val (.int k), .val (.long q), .second, .val (.long (W k.toNatClampNeg)), .second] [(.ref a)])
    refine Go.getF X hx hZ hown (hw _ (List.mem_of_getElem? (i := 14) rfl)) Via.refl eT F_blocks_a (hb hby d3_16) ?_
    intro T X eT
    show Go p e below s _ _ T (mkF m 19 #[.val (.ref a), .val (.int k), .val (.long q), .second, .val (.long (W k.toNatClampNeg)), .second] [(.ref b)])
    refine Go.of (fun _ kq => XS.aloadN X.here hx rfl (hb hby d3_19) rfl rfl kq) ?_
    show Go p e below s _ _ T (mkF m 20 #[.val (.ref a), .val (.int k), .val (.long q), .second, .val (.long (W k.toNatClampNeg)), .second] [(.ref a), (.ref b)])
    refine Go.getF X hx hZ hown (hw _ (List.mem_of_getElem? (i := 21) rfl)) Via.refl eT F_count_a (hb hby d3_20) ?_
    intro T X eT
    show Go p e below s _ _ T (mkF m 23 #[.val (.ref a), .val (.int k), .val (.long q), .second, .val (.long (W k.toNatClampNeg)), .second] [(.int c0), (.ref b)])
    refine Go.of (fun _ kq => XS.iloadN X.here hx rfl (hb hby d3_23) rfl kq) ?_
    show Go p e below s _ _ T (mkF m 24 #[.val (.ref a), .val (.int k), .val (.long q), .second, .val (.long (W k.toNatClampNeg)), .second] [(.int k), (.int c0), (.ref b)])
    have hin : Inb c0 4 := hcI
    refine Go.stI X hx hZ eT V_b hin (hb hby d3_24) ?_
    intro T h X eT wr
    have N := Fr.snoc X N g_b
    have K := K.wr wr (Or.inl (List.mem_of_getElem? (i := 2) rfl))
    have E_a := E_a.wr wr
    have F_words_a := F_words_a.other wr (Or.inl ne_a_b)
    have F_blocks_a := F_blocks_a.other wr (Or.inl ne_a_b)
    have F_count_a := F_count_a.other wr (Or.inl ne_a_b)
    have V_w := V_w.other wr ne_w_b
    have V_b := V_b.set wr hin.2
    show Go p e below s _ _ T (mkF m 25 #[.val (.ref a), .val (.int k), .val (.long q), .second, .val (.long (W k.toNatClampNeg)), .second] [])
    refine Go.of (fun _ kq => XS.aloadN X.here hx rfl (hb hby d3_25) rfl rfl kq) ?_
    show Go p e below s _ _ T (mkF m 26 #[.val (.ref a), .val (.int k), .val (.long q), .second, .val (.long (W k.toNatClampNeg)), .second] [(.ref a)])
    refine Go.of (fun _ kq => XS.dup X.here hx rfl (hb hby d3_26) rfl rfl kq) ?_
    show Go p e below s _ _ T (mkF m 27 #[.val (.ref a), .val (.int k), .val (.long q), .second, .val (.long (W k.toNatClampNeg)), .second] [(.ref a), (.ref a)])
    refine Go.getF X hx hZ hown (hw _ (List.mem_of_getElem? (i := 21) rfl)) Via.refl eT F_count_a (hb hby d3_27) ?_
    intro T X eT
    show Go p e below s _ _ T (mkF m 30 #[.val (.ref a), .val (.int k), .val (.long q), .second, .val (.long (W k.toNatClampNeg)), .second] [(.int c0), (.ref a)])
    refine Go.of (fun _ kq => XS.iconst X.here hx rfl (hb hby d3_30) kq) ?_
    show Go p e below s _ _ T (mkF m 31 #[.val (.ref a), .val (.int k), .val (.long q), .second, .val (.long (W k.toNatClampNeg)), .second] [(.int (1 : Int32)), (.int c0), (.ref a)])
    refine Go.of (fun _ kq => XS.iadd X.here hx rfl (hb hby d3_31) rfl kq) ?_
    show Go p e below s _ _ T (mkF m 32 #[.val (.ref a), .val (.int k), .val (.long q), .second, .val (.long (W k.toNatClampNeg)), .second] [(.int (c0 + (1 : Int32))), (.ref a)])
    refine Go.putF X hx hZ hown (hw _ (List.mem_of_getElem? (i := 21) rfl)) Via.refl eT F_count_a E_a (Or.inl (hw _ (List.mem_of_getElem? (i := 22) rfl))) (hw _ (List.mem_of_getElem? (i := 1) rfl)) (ty := .int) (by decide) rfl rfl (hb hby d3_32) ?_
    intro T h X eT wr
    have N := Fr.snoc X N g_a
    have K := K.wr wr (Or.inl (List.mem_of_getElem? (i := 0) rfl))
    have E_a := E_a.wr wr
    have F_words_a := F_words_a.other wr (Or.inr (slot_ne (Or.inr (hw _ (List.mem_of_getElem? (i := 12) rfl))) (Or.inl (hw _ (List.mem_of_getElem? (i := 22) rfl))) (by decide) (t := (.array .long)) (t' := .int) (by decide) (by decide)))
    have F_blocks_a := F_blocks_a.other wr (Or.inr (slot_ne (Or.inr (hw _ (List.mem_of_getElem? (i := 15) rfl))) (Or.inl (hw _ (List.mem_of_getElem? (i := 22) rfl))) (by decide) (t := (.array .int)) (t' := .int) (by decide) (by decide)))
    have F_count_a := F_count_a.same wr
    have V_w := V_w.other wr (Ne.symm ne_a_w)
    have V_b := V_b.other wr (Ne.symm ne_a_b)
    show Go p e below s _ _ T (mkF m 35 #[.val (.ref a), .val (.int k), .val (.long q), .second, .val (.long (W k.toNatClampNeg)), .second] [])
    refine Go.of (fun _ kq => XS.aloadN X.here hx rfl (hb hby d3_35) rfl rfl kq) ?_
    show Go p e below s _ _ T (mkF m 36 #[.val (.ref a), .val (.int k), .val (.long q), .second, .val (.long (W k.toNatClampNeg)), .second] [(.ref a)])
    refine Go.getF X hx hZ hown (hw _ (List.mem_of_getElem? (i := 11) rfl)) Via.refl eT F_words_a (hb hby d3_36) ?_
    intro T X eT
    show Go p e below s _ _ T (mkF m 39 #[.val (.ref a), .val (.int k), .val (.long q), .second, .val (.long (W k.toNatClampNeg)), .second] [(.ref w)])
    refine Go.of (fun _ kq => XS.iloadN X.here hx rfl (hb hby d3_39) rfl kq) ?_
    show Go p e below s _ _ T (mkF m 40 #[.val (.ref a), .val (.int k), .val (.long q), .second, .val (.long (W k.toNatClampNeg)), .second] [(.int k), (.ref w)])
    refine Go.of (fun _ kq => XS.lload X.here hx rfl (hb hby d3_40) rfl kq) ?_
    show Go p e below s _ _ T (mkF m 42 #[.val (.ref a), .val (.int k), .val (.long q), .second, .val (.long (W k.toNatClampNeg)), .second] [(.long (W k.toNatClampNeg)), (.int k), (.ref w)])
    refine Go.of (fun _ kq => XS.lloadN X.here hx rfl (hb hby d3_42) rfl kq) ?_
    show Go p e below s _ _ T (mkF m 43 #[.val (.ref a), .val (.int k), .val (.long q), .second, .val (.long (W k.toNatClampNeg)), .second] [(.long q), (.long (W k.toNatClampNeg)), (.int k), (.ref w)])
    refine Go.of (fun _ kq => XS.lor X.here hx rfl (hb hby d3_43) rfl kq) ?_
    show Go p e below s _ _ T (mkF m 44 #[.val (.ref a), .val (.int k), .val (.long q), .second, .val (.long (W k.toNatClampNeg)), .second] [(.long ((W k.toNatClampNeg) ||| q)), (.int k), (.ref w)])
    have hin : Inb k 4 := hk
    refine Go.stJ X hx hZ eT V_w hin (hb hby d3_44) ?_
    intro T h X eT wr
    have N := Fr.snoc X N g_w
    have K := K.wr wr (Or.inl (List.mem_of_getElem? (i := 1) rfl))
    have E_a := E_a.wr wr
    have F_words_a := F_words_a.other wr (Or.inl ne_a_w)
    have F_blocks_a := F_blocks_a.other wr (Or.inl ne_a_w)
    have F_count_a := F_count_a.other wr (Or.inl ne_a_w)
    have V_w := V_w.set wr hin.2
    have V_b := V_b.other wr (Ne.symm ne_w_b)
    show Go p e below s _ _ T (mkF m 45 #[.val (.ref a), .val (.int k), .val (.long q), .second, .val (.long (W k.toNatClampNeg)), .second] [])
    refine Go.retV X hx hret hlk (hb hby d3_45) (by decide) (by decide) ?_
    try rw [eT]
    exact ⟨rfl, N, K, F_words_a, F_blocks_a, by simpa [own_c, hc12] using F_count_a, V_w.congr (fun j hj => by unfold upd own_W; by_cases q : j = k.toNatClampNeg <;> simp [q]), V_b.congr (fun j hj => by simp only [upd, own_B]; by_cases q : j = c0.toNatClampNeg <;> simp [q, hc12])⟩
  · refine Go.of (fun _ kq => XS.ifYes X.here hx rfl (pc0 := 12) (pc' := 35) rfl (hb hby d3_12) rfl (cFeq hc12).2 (by decide) (by decide) kq) ?_
    show Go p e below s _ _ T (mkF m 35 #[.val (.ref a), .val (.int k), .val (.long q), .second, .val (.long (W k.toNatClampNeg)), .second] [])
    refine Go.of (fun _ kq => XS.aloadN X.here hx rfl (hb hby d3_35) rfl rfl kq) ?_
    show Go p e below s _ _ T (mkF m 36 #[.val (.ref a), .val (.int k), .val (.long q), .second, .val (.long (W k.toNatClampNeg)), .second] [(.ref a)])
    refine Go.getF X hx hZ hown (hw _ (List.mem_of_getElem? (i := 11) rfl)) Via.refl eT F_words_a (hb hby d3_36) ?_
    intro T X eT
    show Go p e below s _ _ T (mkF m 39 #[.val (.ref a), .val (.int k), .val (.long q), .second, .val (.long (W k.toNatClampNeg)), .second] [(.ref w)])
    refine Go.of (fun _ kq => XS.iloadN X.here hx rfl (hb hby d3_39) rfl kq) ?_
    show Go p e below s _ _ T (mkF m 40 #[.val (.ref a), .val (.int k), .val (.long q), .second, .val (.long (W k.toNatClampNeg)), .second] [(.int k), (.ref w)])
    refine Go.of (fun _ kq => XS.lload X.here hx rfl (hb hby d3_40) rfl kq) ?_
    show Go p e below s _ _ T (mkF m 42 #[.val (.ref a), .val (.int k), .val (.long q), .second, .val (.long (W k.toNatClampNeg)), .second] [(.long (W k.toNatClampNeg)), (.int k), (.ref w)])
    refine Go.of (fun _ kq => XS.lloadN X.here hx rfl (hb hby d3_42) rfl kq) ?_
    show Go p e below s _ _ T (mkF m 43 #[.val (.ref a), .val (.int k), .val (.long q), .second, .val (.long (W k.toNatClampNeg)), .second] [(.long q), (.long (W k.toNatClampNeg)), (.int k), (.ref w)])
    refine Go.of (fun _ kq => XS.lor X.here hx rfl (hb hby d3_43) rfl kq) ?_
    show Go p e below s _ _ T (mkF m 44 #[.val (.ref a), .val (.int k), .val (.long q), .second, .val (.long (W k.toNatClampNeg)), .second] [(.long ((W k.toNatClampNeg) ||| q)), (.int k), (.ref w)])
    have hin : Inb k 4 := hk
    refine Go.stJ X hx hZ eT V_w hin (hb hby d3_44) ?_
    intro T h X eT wr
    have N := Fr.snoc X N g_w
    have K := K.wr wr (Or.inl (List.mem_of_getElem? (i := 1) rfl))
    have E_a := E_a.wr wr
    have F_words_a := F_words_a.other wr (Or.inl ne_a_w)
    have F_blocks_a := F_blocks_a.other wr (Or.inl ne_a_w)
    have F_count_a := F_count_a.other wr (Or.inl ne_a_w)
    have V_w := V_w.set wr hin.2
    have V_b := V_b.other wr (Ne.symm ne_w_b)
    show Go p e below s _ _ T (mkF m 45 #[.val (.ref a), .val (.int k), .val (.long q), .second, .val (.long (W k.toNatClampNeg)), .second] [])
    refine Go.retV X hx hret hlk (hb hby d3_45) (by decide) (by decide) ?_
    try rw [eT]
    exact ⟨rfl, N, K, F_words_a, F_blocks_a, by simpa [own_c, hc12] using F_count_a, V_w.congr (fun j hj => by unfold upd own_W; by_cases q : j = k.toNatClampNeg <;> simp [q]), V_b.congr (fun j hj => by simp only [upd, own_B]; by_cases q : j = c0.toNatClampNeg <;> simp [q, hc12])⟩
theorem d4_0 : decode prog_55_method_6_code 0 = .ok (.aload_n 0, 1) := by decide +kernel
theorem d4_1 : decode prog_55_method_6_code 1 = .ok (.getfield 9, 3) := by decide +kernel
theorem d4_4 : decode prog_55_method_6_code 4 = .ok (.iload_n 1, 1) := by decide +kernel
theorem d4_5 : decode prog_55_method_6_code 5 = .ok (.laload, 1) := by decide +kernel
theorem d4_6 : decode prog_55_method_6_code 6 = .ok (.lreturn, 1) := by decide +kernel
theorem pn4 : plainFor (⟨"com/example/fixpoint/fixpoint/IdBitmap", "bits", "(I)J"⟩ : MethodName) = true := plainFor_of_name (by first | (simp [plainName, overriddenIn]; done) | decide +kernel)
theorem ef_rm4 (m : MethodId) (x0 : Addr) (x1 : Int32) : entryFrame m #[(.ref x0), (.int x1)] 2 = mkF m 0 #[.val (.ref x0), .val (.int x1)] [] := by first | (simp [entryFrame, mkF, argsToLocals, Value.category]; done) | rfl
set_option maxRecDepth 65536 in
set_option maxHeartbeats 40000000 in
theorem rm4 {l : Launch} {Z : State} {a0 : Array Value} (hw : ∀ d ∈ tables_1, d.before a0 Z = true) (a : Addr) (k : Int32) (w : Addr) (W : Nat → Int64) (h0 : Heap) (n0 : Nat) (hk : Inb k 4) (F_words_a : Fld Z h0 a "com/example/fixpoint/fixpoint/IdBitmap" "words" "[J" (.ref w)) (V_w : AV Z h0 w .long 4 (fun j => .long (W j))) :
    Met l Z (⟨"com/example/fixpoint/fixpoint/IdBitmap", "bits", "(I)J"⟩ : MethodName) prog_55_method_6_code 2 (some .long) [] ({ frames := 0, cells := 0, slots := 0, locals := 0 } : Room) #[(.ref a), (.int k)] h0 (fun v h L => v = some (.long (W k.toNatClampNeg)) ∧ Fr n0 L ∧ h = h0) := by
  refine Met.mk pn4 ?_
  intro p e s m below meth c T hx hby hml hown hnm hret hlk hZ X eT
  refine Go.cast (ef_rm4 m a k) ?_
  have N := Fr.nil n0
  show Go p e below s _ _ T (mkF m 0 #[.val (.ref a), .val (.int k)] [])
  refine Go.of (fun _ kq => XS.aloadN X.here hx rfl (hb hby d4_0) rfl rfl kq) ?_
  show Go p e below s _ _ T (mkF m 1 #[.val (.ref a), .val (.int k)] [(.ref a)])
  refine Go.getF X hx hZ hown (hw _ (List.mem_of_getElem? (i := 11) rfl)) Via.refl eT F_words_a (hb hby d4_1) ?_
  intro T X eT
  show Go p e below s _ _ T (mkF m 4 #[.val (.ref a), .val (.int k)] [(.ref w)])
  refine Go.of (fun _ kq => XS.iloadN X.here hx rfl (hb hby d4_4) rfl kq) ?_
  show Go p e below s _ _ T (mkF m 5 #[.val (.ref a), .val (.int k)] [(.int k), (.ref w)])
  refine Go.ldJ (.long (W k.toNatClampNeg)) X hx hZ eT V_w (show Inb k 4 from hk) rfl (hb hby d4_5) ?_
  show Go p e below s _ _ T (mkF m 6 #[.val (.ref a), .val (.int k)] [(.long (W k.toNatClampNeg))])
  refine Go.retJ X hx hret hlk (hb hby d4_6) (by decide) (by decide) ?_
  try rw [eT]
  exact ⟨rfl, N, rfl⟩
theorem d5_0 : decode prog_55_method_4_code 0 = .ok (.aload_n 0, 1) := by decide +kernel
theorem d5_1 : decode prog_55_method_4_code 1 = .ok (.getfield 23, 3) := by decide +kernel
theorem d5_4 : decode prog_55_method_4_code 4 = .ok (.ireturn, 1) := by decide +kernel
theorem pn5 : plainFor (⟨"com/example/fixpoint/fixpoint/IdBitmap", "blockCount", "()I"⟩ : MethodName) = true := plainFor_of_name (by first | (simp [plainName, overriddenIn]; done) | decide +kernel)
theorem ef_rm5 (m : MethodId) (x0 : Addr) : entryFrame m #[(.ref x0)] 1 = mkF m 0 #[.val (.ref x0)] [] := by first | (simp [entryFrame, mkF, argsToLocals, Value.category]; done) | rfl
set_option maxRecDepth 65536 in
set_option maxHeartbeats 40000000 in
theorem rm5 {l : Launch} {Z : State} {a0 : Array Value} (hw : ∀ d ∈ tables_1, d.before a0 Z = true) (a : Addr) (c0 : Int32) (h0 : Heap) (n0 : Nat) (F_count_a : Fld Z h0 a "com/example/fixpoint/fixpoint/IdBitmap" "count" "I" (.int c0)) :
    Met l Z (⟨"com/example/fixpoint/fixpoint/IdBitmap", "blockCount", "()I"⟩ : MethodName) prog_55_method_4_code 1 (some .int) [] ({ frames := 0, cells := 0, slots := 0, locals := 0 } : Room) #[(.ref a)] h0 (fun v h L => v = some (.int c0) ∧ Fr n0 L ∧ h = h0) := by
  refine Met.mk pn5 ?_
  intro p e s m below meth c T hx hby hml hown hnm hret hlk hZ X eT
  refine Go.cast (ef_rm5 m a) ?_
  have N := Fr.nil n0
  show Go p e below s _ _ T (mkF m 0 #[.val (.ref a)] [])
  refine Go.of (fun _ kq => XS.aloadN X.here hx rfl (hb hby d5_0) rfl rfl kq) ?_
  show Go p e below s _ _ T (mkF m 1 #[.val (.ref a)] [(.ref a)])
  refine Go.getF X hx hZ hown (hw _ (List.mem_of_getElem? (i := 21) rfl)) Via.refl eT F_count_a (hb hby d5_1) ?_
  intro T X eT
  show Go p e below s _ _ T (mkF m 4 #[.val (.ref a)] [(.int c0)])
  refine Go.retI X hx hret hlk (hb hby d5_4) (by decide) (by decide) ?_
  try rw [eT]
  exact ⟨rfl, N, rfl⟩
theorem d6_0 : decode prog_55_method_5_code 0 = .ok (.aload_n 0, 1) := by decide +kernel
theorem d6_1 : decode prog_55_method_5_code 1 = .ok (.getfield 15, 3) := by decide +kernel
theorem d6_4 : decode prog_55_method_5_code 4 = .ok (.iload_n 1, 1) := by decide +kernel
theorem d6_5 : decode prog_55_method_5_code 5 = .ok (.iaload, 1) := by decide +kernel
theorem d6_6 : decode prog_55_method_5_code 6 = .ok (.ireturn, 1) := by decide +kernel
theorem pn6 : plainFor (⟨"com/example/fixpoint/fixpoint/IdBitmap", "block", "(I)I"⟩ : MethodName) = true := plainFor_of_name (by first | (simp [plainName, overriddenIn]; done) | decide +kernel)
theorem ef_rm6 (m : MethodId) (x0 : Addr) (x1 : Int32) : entryFrame m #[(.ref x0), (.int x1)] 2 = mkF m 0 #[.val (.ref x0), .val (.int x1)] [] := by first | (simp [entryFrame, mkF, argsToLocals, Value.category]; done) | rfl
set_option maxRecDepth 65536 in
set_option maxHeartbeats 40000000 in
theorem rm6 {l : Launch} {Z : State} {a0 : Array Value} (hw : ∀ d ∈ tables_1, d.before a0 Z = true) (a : Addr) (k : Int32) (b : Addr) (B : Nat → Int32) (h0 : Heap) (n0 : Nat) (hk : Inb k 4) (F_blocks_a : Fld Z h0 a "com/example/fixpoint/fixpoint/IdBitmap" "blocks" "[I" (.ref b)) (V_b : AV Z h0 b .int 4 (fun j => .int (B j))) :
    Met l Z (⟨"com/example/fixpoint/fixpoint/IdBitmap", "block", "(I)I"⟩ : MethodName) prog_55_method_5_code 2 (some .int) [] ({ frames := 0, cells := 0, slots := 0, locals := 0 } : Room) #[(.ref a), (.int k)] h0 (fun v h L => v = some (.int (B k.toNatClampNeg)) ∧ Fr n0 L ∧ h = h0) := by
  refine Met.mk pn6 ?_
  intro p e s m below meth c T hx hby hml hown hnm hret hlk hZ X eT
  refine Go.cast (ef_rm6 m a k) ?_
  have N := Fr.nil n0
  show Go p e below s _ _ T (mkF m 0 #[.val (.ref a), .val (.int k)] [])
  refine Go.of (fun _ kq => XS.aloadN X.here hx rfl (hb hby d6_0) rfl rfl kq) ?_
  show Go p e below s _ _ T (mkF m 1 #[.val (.ref a), .val (.int k)] [(.ref a)])
  refine Go.getF X hx hZ hown (hw _ (List.mem_of_getElem? (i := 14) rfl)) Via.refl eT F_blocks_a (hb hby d6_1) ?_
  intro T X eT
  show Go p e below s _ _ T (mkF m 4 #[.val (.ref a), .val (.int k)] [(.ref b)])
  refine Go.of (fun _ kq => XS.iloadN X.here hx rfl (hb hby d6_4) rfl kq) ?_
  show Go p e below s _ _ T (mkF m 5 #[.val (.ref a), .val (.int k)] [(.int k), (.ref b)])
  refine Go.ldI (.int (B k.toNatClampNeg)) X hx hZ eT V_b (show Inb k 4 from hk) rfl (hb hby d6_5) ?_
  show Go p e below s _ _ T (mkF m 6 #[.val (.ref a), .val (.int k)] [(.int (B k.toNatClampNeg))])
  refine Go.retI X hx hret hlk (hb hby d6_6) (by decide) (by decide) ?_
  try rw [eT]
  exact ⟨rfl, N, rfl⟩
theorem pn0 : plainFor x = true := plainFor_of_name (by first | (simp [plainName, overriddenIn]; done) | decide +kernel)
theorem ef_rm0 (m : MethodId) (x0 : Int32) (x1 : Int64) (x2 : Int64) : entryFrame m #[(.int x0), (.long x1), (.long x2)] maxLocals = mkF m 0 #[.val (.int x0), .val (.long x1), .second, .val (.long x2), .second, .unset, .unset, .unset, .unset, .unset, .unset, .unset, .unset, .unset, .unset] [] := by first | (simp [entryFrame, mkF, argsToLocals, Value.category, maxLocals]; done) | rfl
set_option maxRecDepth 65536 in
set_option maxHeartbeats 40000000 in
theorem rm0 {l : Launch} {Z : State} {a0 : Array Value} (hw : ∀ d ∈ tables_1, d.before a0 Z = true) (p0 : Int32) (x1 x2 : Int64) (h0 : Heap) (n0 : Nat) (Z0 : n0 ≤ h0.size) :
    Met l Z x code maxLocals ret tables_1 room_1 #[(.int p0), (.long x1), (.long x2)] h0 (fun v h L => v = some (.int 1) ∧ Fr n0 L) := by
  refine Met.mk pn0 ?_
  intro p e s m below meth c T hx hby hml hown hnm hret hlk hZ X eT
  refine Go.cast (ef_rm0 m p0 x1 x2) ?_
  have N := Fr.nil n0
  have K := Keep.refl h0 []
  show Go p e below s _ _ T (mkF m 0 #[.val (.int p0), .val (.long x1), .second, .val (.long x2), .second, .unset, .unset, .unset, .unset, .unset, .unset, .unset, .unset, .unset, .unset] [])
  refine Go.join (fun v1 : Int64 => v1 ≠ 0) (fun v1 => (mkF m 13 #[.val (.int p0), .val (.long x1), .second, .val (.long x2), .second, .unset, .unset, .unset, .unset, .unset, .unset, .unset, .unset, .unset, .unset] [(.long v1)])) ?_ ?_
  · intro v1 hv1
    show Go p e below s _ _ T (mkF m 13 #[.val (.int p0), .val (.long x1), .second, .val (.long x2), .second, .unset, .unset, .unset, .unset, .unset, .unset, .unset, .unset, .unset, .unset] [(.long v1)])
    refine Go.of (fun _ kq => XS.lstore X.here hx rfl (hb hby at_13) rfl (l' := #[.val (.int p0), .val (.long x1), .second, .val (.long x2), .second, .val (.long v1), .second, .unset, .unset, .unset, .unset, .unset, .unset, .unset, .unset]) rfl kq) ?_
    show Go p e below s _ _ T (mkF m 15 #[.val (.int p0), .val (.long x1), .second, .val (.long x2), .second, .val (.long v1), .second, .unset, .unset, .unset, .unset, .unset, .unset, .unset, .unset] [])
    refine Go.join (fun v2 : Int64 => v2 ≠ 0) (fun v2 => (mkF m 26 #[.val (.int p0), .val (.long x1), .second, .val (.long x2), .second, .val (.long v1), .second, .unset, .unset, .unset, .unset, .unset, .unset, .unset, .unset] [(.long v2)])) ?_ ?_
    · intro v2 hv2
      show Go p e below s _ _ T (mkF m 26 #[.val (.int p0), .val (.long x1), .second, .val (.long x2), .second, .val (.long v1), .second, .unset, .unset, .unset, .unset, .unset, .unset, .unset, .unset] [(.long v2)])
      refine Go.of (fun _ kq => XS.lstore X.here hx rfl (hb hby at_26) rfl (l' := #[.val (.int p0), .val (.long x1), .second, .val (.long x2), .second, .val (.long v1), .second, .val (.long v2), .second, .unset, .unset, .unset, .unset, .unset, .unset]) rfl kq) ?_
      show Go p e below s _ _ T (mkF m 28 #[.val (.int p0), .val (.long x1), .second, .val (.long x2), .second, .val (.long v1), .second, .val (.long v2), .second, .unset, .unset, .unset, .unset, .unset, .unset] [])
      refine Go.of (fun _ kq => XS.iloadN X.here hx rfl (hb hby at_28) rfl kq) ?_
      show Go p e below s _ _ T (mkF m 29 #[.val (.int p0), .val (.long x1), .second, .val (.long x2), .second, .val (.long v1), .second, .val (.long v2), .second, .unset, .unset, .unset, .unset, .unset, .unset] [(.int p0)])
      refine Go.of (fun _ kq => XS.iconst X.here hx rfl (hb hby at_29) kq) ?_
      show Go p e below s _ _ T (mkF m 30 #[.val (.int p0), .val (.long x1), .second, .val (.long x2), .second, .val (.long v1), .second, .val (.long v2), .second, .unset, .unset, .unset, .unset, .unset, .unset] [(.int (3 : Int32)), (.int p0)])
      refine Go.of (fun _ kq => XS.iand X.here hx rfl (hb hby at_30) rfl kq) ?_
      show Go p e below s _ _ T (mkF m 31 #[.val (.int p0), .val (.long x1), .second, .val (.long x2), .second, .val (.long v1), .second, .val (.long v2), .second, .unset, .unset, .unset, .unset, .unset, .unset] [(.int (p0 &&& (3 : Int32)))])
      refine Go.of (fun _ kq => XS.istore X.here hx rfl (hb hby at_31) rfl (l' := #[.val (.int p0), .val (.long x1), .second, .val (.long x2), .second, .val (.long v1), .second, .val (.long v2), .second, .val (.int (p0 &&& (3 : Int32))), .unset, .unset, .unset, .unset, .unset]) rfl kq) ?_
      show Go p e below s _ _ T (mkF m 33 #[.val (.int p0), .val (.long x1), .second, .val (.long x2), .second, .val (.long v1), .second, .val (.long v2), .second, .val (.int (p0 &&& (3 : Int32))), .unset, .unset, .unset, .unset, .unset] [])
      refine Go.of (fun _ kq => XS.iloadN X.here hx rfl (hb hby at_33) rfl kq) ?_
      show Go p e below s _ _ T (mkF m 34 #[.val (.int p0), .val (.long x1), .second, .val (.long x2), .second, .val (.long v1), .second, .val (.long v2), .second, .val (.int (p0 &&& (3 : Int32))), .unset, .unset, .unset, .unset, .unset] [(.int p0)])
      refine Go.of (fun _ kq => XS.iconst X.here hx rfl (hb hby at_34) kq) ?_
      show Go p e below s _ _ T (mkF m 35 #[.val (.int p0), .val (.long x1), .second, .val (.long x2), .second, .val (.long v1), .second, .val (.long v2), .second, .val (.int (p0 &&& (3 : Int32))), .unset, .unset, .unset, .unset, .unset] [(.int (2 : Int32)), (.int p0)])
      refine Go.of (fun _ kq => XS.iushr X.here hx rfl (hb hby at_35) rfl kq) ?_
      show Go p e below s _ _ T (mkF m 36 #[.val (.int p0), .val (.long x1), .second, .val (.long x2), .second, .val (.long v1), .second, .val (.long v2), .second, .val (.int (p0 &&& (3 : Int32))), .unset, .unset, .unset, .unset, .unset] [(.int ((p0.toUInt32 >>> ((2 : Int32) &&& 31).toUInt32).toInt32))])
      refine Go.of (fun _ kq => XS.iconst X.here hx rfl (hb hby at_36) kq) ?_
      show Go p e below s _ _ T (mkF m 37 #[.val (.int p0), .val (.long x1), .second, .val (.long x2), .second, .val (.long v1), .second, .val (.long v2), .second, .val (.int (p0 &&& (3 : Int32))), .unset, .unset, .unset, .unset, .unset] [(.int (3 : Int32)), (.int ((p0.toUInt32 >>> ((2 : Int32) &&& 31).toUInt32).toInt32))])
      refine Go.of (fun _ kq => XS.iand X.here hx rfl (hb hby at_37) rfl kq) ?_
      show Go p e below s _ _ T (mkF m 38 #[.val (.int p0), .val (.long x1), .second, .val (.long x2), .second, .val (.long v1), .second, .val (.long v2), .second, .val (.int (p0 &&& (3 : Int32))), .unset, .unset, .unset, .unset, .unset] [(.int (((p0.toUInt32 >>> ((2 : Int32) &&& 31).toUInt32).toInt32) &&& (3 : Int32)))])
      refine Go.of (fun _ kq => XS.istore X.here hx rfl (hb hby at_38) rfl (l' := #[.val (.int p0), .val (.long x1), .second, .val (.long x2), .second, .val (.long v1), .second, .val (.long v2), .second, .val (.int (p0 &&& (3 : Int32))), .val (.int (((p0.toUInt32 >>> ((2 : Int32) &&& 31).toUInt32).toInt32) &&& (3 : Int32))), .unset, .unset, .unset, .unset]) rfl kq) ?_
      show Go p e below s _ _ T (mkF m 40 #[.val (.int p0), .val (.long x1), .second, .val (.long x2), .second, .val (.long v1), .second, .val (.long v2), .second, .val (.int (p0 &&& (3 : Int32))), .val (.int (((p0.toUInt32 >>> ((2 : Int32) &&& 31).toUInt32).toInt32) &&& (3 : Int32))), .unset, .unset, .unset, .unset] [])
      refine Go.of (fun _ kq => XS.iloadN X.here hx rfl (hb hby at_40) rfl kq) ?_
      show Go p e below s _ _ T (mkF m 41 #[.val (.int p0), .val (.long x1), .second, .val (.long x2), .second, .val (.long v1), .second, .val (.long v2), .second, .val (.int (p0 &&& (3 : Int32))), .val (.int (((p0.toUInt32 >>> ((2 : Int32) &&& 31).toUInt32).toInt32) &&& (3 : Int32))), .unset, .unset, .unset, .unset] [(.int p0)])
      refine Go.of (fun _ kq => XS.iconst X.here hx rfl (hb hby at_41) kq) ?_
      show Go p e below s _ _ T (mkF m 42 #[.val (.int p0), .val (.long x1), .second, .val (.long x2), .second, .val (.long v1), .second, .val (.long v2), .second, .val (.int (p0 &&& (3 : Int32))), .val (.int (((p0.toUInt32 >>> ((2 : Int32) &&& 31).toUInt32).toInt32) &&& (3 : Int32))), .unset, .unset, .unset, .unset] [(.int (4 : Int32)), (.int p0)])
      refine Go.of (fun _ kq => XS.iushr X.here hx rfl (hb hby at_42) rfl kq) ?_
      show Go p e below s _ _ T (mkF m 43 #[.val (.int p0), .val (.long x1), .second, .val (.long x2), .second, .val (.long v1), .second, .val (.long v2), .second, .val (.int (p0 &&& (3 : Int32))), .val (.int (((p0.toUInt32 >>> ((2 : Int32) &&& 31).toUInt32).toInt32) &&& (3 : Int32))), .unset, .unset, .unset, .unset] [(.int ((p0.toUInt32 >>> ((4 : Int32) &&& 31).toUInt32).toInt32))])
      refine Go.of (fun _ kq => XS.iconst X.here hx rfl (hb hby at_43) kq) ?_
      show Go p e below s _ _ T (mkF m 44 #[.val (.int p0), .val (.long x1), .second, .val (.long x2), .second, .val (.long v1), .second, .val (.long v2), .second, .val (.int (p0 &&& (3 : Int32))), .val (.int (((p0.toUInt32 >>> ((2 : Int32) &&& 31).toUInt32).toInt32) &&& (3 : Int32))), .unset, .unset, .unset, .unset] [(.int (3 : Int32)), (.int ((p0.toUInt32 >>> ((4 : Int32) &&& 31).toUInt32).toInt32))])
      refine Go.of (fun _ kq => XS.iand X.here hx rfl (hb hby at_44) rfl kq) ?_
      show Go p e below s _ _ T (mkF m 45 #[.val (.int p0), .val (.long x1), .second, .val (.long x2), .second, .val (.long v1), .second, .val (.long v2), .second, .val (.int (p0 &&& (3 : Int32))), .val (.int (((p0.toUInt32 >>> ((2 : Int32) &&& 31).toUInt32).toInt32) &&& (3 : Int32))), .unset, .unset, .unset, .unset] [(.int (((p0.toUInt32 >>> ((4 : Int32) &&& 31).toUInt32).toInt32) &&& (3 : Int32)))])
      refine Go.of (fun _ kq => XS.istore X.here hx rfl (hb hby at_45) rfl (l' := #[.val (.int p0), .val (.long x1), .second, .val (.long x2), .second, .val (.long v1), .second, .val (.long v2), .second, .val (.int (p0 &&& (3 : Int32))), .val (.int (((p0.toUInt32 >>> ((2 : Int32) &&& 31).toUInt32).toInt32) &&& (3 : Int32))), .val (.int (((p0.toUInt32 >>> ((4 : Int32) &&& 31).toUInt32).toInt32) &&& (3 : Int32))), .unset, .unset, .unset]) rfl kq) ?_
      show Go p e below s _ _ T (mkF m 47 #[.val (.int p0), .val (.long x1), .second, .val (.long x2), .second, .val (.long v1), .second, .val (.long v2), .second, .val (.int (p0 &&& (3 : Int32))), .val (.int (((p0.toUInt32 >>> ((2 : Int32) &&& 31).toUInt32).toInt32) &&& (3 : Int32))), .val (.int (((p0.toUInt32 >>> ((4 : Int32) &&& 31).toUInt32).toInt32) &&& (3 : Int32))), .unset, .unset, .unset] [])
      obtain ⟨k1, h_k1⟩ : ∃ z : Int32, z = (p0 &&& (3 : Int32)) := ⟨_, rfl⟩
      rw [← h_k1]
      have i_k1 : Inb k1 4 := by rw [h_k1]; exact own_and3 _
      obtain ⟨k2, h_k2⟩ : ∃ z : Int32, z = (((p0.toUInt32 >>> ((2 : Int32) &&& 31).toUInt32).toInt32) &&& (3 : Int32)) := ⟨_, rfl⟩
      rw [← h_k2]
      have i_k2 : Inb k2 4 := by rw [h_k2]; exact own_and3 _
      obtain ⟨kc, h_kc⟩ : ∃ z : Int32, z = (((p0.toUInt32 >>> ((4 : Int32) &&& 31).toUInt32).toInt32) &&& (3 : Int32)) := ⟨_, rfl⟩
      rw [← h_kc]
      have i_kc : Inb kc 4 := by rw [h_kc]; exact own_and3 _
      refine Go.newO X hx hZ hown (hw _ (List.mem_of_getElem? (i := 0) rfl)) (hw _ (List.mem_of_getElem? (i := 1) rfl)) (hw _ (List.mem_of_getElem? (i := 2) rfl)) eT (hb hby at_47) (by decide) (by decide) ?_
      intro T h b47 X eT E ha E_b47 D_b47
      have z_b47 : h0.size ≤ b47 := by rw [ha]; exact K.1
      have g_b47 : n0 ≤ b47 := Nat.le_trans Z0 z_b47
      have K := K.ext E
      have F_words_b47 : Fld Z h b47 "com/example/fixpoint/fixpoint/IdBitmap" "words" "[J" .null := D_b47 (Or.inr (hw _ (List.mem_of_getElem? (i := 12) rfl))) (ty := (.array .long)) (by decide)
      have F_blocks_b47 : Fld Z h b47 "com/example/fixpoint/fixpoint/IdBitmap" "blocks" "[I" .null := D_b47 (Or.inr (hw _ (List.mem_of_getElem? (i := 15) rfl))) (ty := (.array .int)) (by decide)
      have F_count_b47 : Fld Z h b47 "com/example/fixpoint/fixpoint/IdBitmap" "count" "I" (.int (0 : Int32)) := D_b47 (Or.inl (hw _ (List.mem_of_getElem? (i := 22) rfl))) (ty := .int) (by decide)
      show Go p e below s _ _ T (mkF m 50 #[.val (.int p0), .val (.long x1), .second, .val (.long x2), .second, .val (.long v1), .second, .val (.long v2), .second, .val (.int k1), .val (.int k2), .val (.int kc), .unset, .unset, .unset] [(.ref b47)])
      refine Go.of (fun _ kq => XS.dup X.here hx rfl (hb hby at_50) rfl rfl kq) ?_
      show Go p e below s _ _ T (mkF m 51 #[.val (.int p0), .val (.long x1), .second, .val (.long x2), .second, .val (.long v1), .second, .val (.long v2), .second, .val (.int k1), .val (.int k2), .val (.int kc), .unset, .unset, .unset] [(.ref b47), (.ref b47)])
      refine Go.of (fun _ kq => XS.sipush X.here hx rfl (hb hby at_51) kq) ?_
      show Go p e below s _ _ T (mkF m 54 #[.val (.int p0), .val (.long x1), .second, .val (.long x2), .second, .val (.long v1), .second, .val (.long v2), .second, .val (.int k1), .val (.int k2), .val (.int kc), .unset, .unset, .unset] [(.int (256 : Int32)), (.ref b47), (.ref b47)])
      refine Go.special (a := b47) X hx hZ hown rfl (hw _ (List.mem_of_getElem? (i := 3) rfl)) (hw _ (List.mem_of_getElem? (i := 4) rfl)) (hw _ (List.mem_of_getElem? (i := 2) rfl)) (hw _ (List.mem_of_getElem? (i := 5) rfl)) (by decide) (rm1 hw b47 _ n0 (Nat.le_trans Z0 K.1) g_b47 E_b47 F_words_b47 F_blocks_b47 F_count_b47) eT 1 (by decide) (by decide) (by decide) (by decide) (by rw [hml]; rfl) (argsL := [(.int (256 : Int32))]) [(.ref b47)] (lenOf pd0 rfl) rfl rfl (Nat.le_of_eq rfl) (hb hby at_54) ?_
      intro v T L' X hQ
      obtain ⟨h, eT⟩ : ∃ z, T.heap = z := ⟨_, rfl⟩
      rw [eT] at hQ
      obtain ⟨rfl, N', K', w, b, zw, zb, ne_b47_w, ne_b47_b, ne_w_b, F_words_b47, F_blocks_b47, F_count_b47, V_w, V_b⟩ := hQ
      have N := Fr.app N N'
      have z_w := Nat.le_trans K.1 zw
      have z_b := Nat.le_trans K.1 zb
      have g_w := Nat.le_trans Z0 z_w
      have g_b := Nat.le_trans Z0 z_b
      have K := K.trans K' (own_all1 (Or.inr z_b47))
      have E_b47 := E_b47.keep K'
      show Go p e below s _ _ T (mkF m 57 #[.val (.int p0), .val (.long x1), .second, .val (.long x2), .second, .val (.long v1), .second, .val (.long v2), .second, .val (.int k1), .val (.int k2), .val (.int kc), .unset, .unset, .unset] [(.ref b47)])
      refine Go.of (fun _ kq => XS.astore X.here hx rfl (hb hby at_57) rfl rfl (l' := #[.val (.int p0), .val (.long x1), .second, .val (.long x2), .second, .val (.long v1), .second, .val (.long v2), .second, .val (.int k1), .val (.int k2), .val (.int kc), .val (.ref b47), .unset, .unset]) rfl kq) ?_
      show Go p e below s _ _ T (mkF m 59 #[.val (.int p0), .val (.long x1), .second, .val (.long x2), .second, .val (.long v1), .second, .val (.long v2), .second, .val (.int k1), .val (.int k2), .val (.int kc), .val (.ref b47), .unset, .unset] [])
      refine Go.of (fun _ kq => XS.aload X.here hx rfl (hb hby at_59) rfl rfl kq) ?_
      show Go p e below s _ _ T (mkF m 61 #[.val (.int p0), .val (.long x1), .second, .val (.long x2), .second, .val (.long v1), .second, .val (.long v2), .second, .val (.int k1), .val (.int k2), .val (.int kc), .val (.ref b47), .unset, .unset] [(.ref b47)])
      refine Go.of (fun _ kq => XS.iload X.here hx rfl (hb hby at_61) rfl kq) ?_
      show Go p e below s _ _ T (mkF m 63 #[.val (.int p0), .val (.long x1), .second, .val (.long x2), .second, .val (.long v1), .second, .val (.long v2), .second, .val (.int k1), .val (.int k2), .val (.int kc), .val (.ref b47), .unset, .unset] [(.int k1), (.ref b47)])
      refine Go.of (fun _ kq => XS.lload X.here hx rfl (hb hby at_63) rfl kq) ?_
      show Go p e below s _ _ T (mkF m 65 #[.val (.int p0), .val (.long x1), .second, .val (.long x2), .second, .val (.long v1), .second, .val (.long v2), .second, .val (.int k1), .val (.int k2), .val (.int kc), .val (.ref b47), .unset, .unset] [(.long v1), (.int k1), (.ref b47)])
      refine Go.virtual (a := b47) X hx hZ hown (hw _ (List.mem_of_getElem? (i := 16) rfl)) (hw _ (List.mem_of_getElem? (i := 17) rfl)) (notFace_of_selects (args := #[]) (mvT hZ (hw _ (List.mem_of_getElem? (i := 19) rfl)))) (hw _ (List.mem_of_getElem? (i := 19) rfl)) (hw _ (List.mem_of_getElem? (i := 18) rfl)) (hw _ (List.mem_of_getElem? (i := 2) rfl)) (hw _ (List.mem_of_getElem? (i := 20) rfl)) (by decide) (rm3 hw b47 k1 v1 w b own_W0 own_B0 (0 : Int32) _ n0 g_b47 g_w g_b ne_b47_w ne_b47_b ne_w_b i_k1 ⟨by decide, by decide⟩ E_b47 F_words_b47 F_blocks_b47 F_count_b47 V_w V_b) eT E_b47 0 (by decide) (by decide) (by decide) (by decide) (by rw [hml]; rfl) (argsL := [(.int k1), (.long v1)]) [] (lenOf pd1 rfl) rfl rfl (Nat.le_of_eq rfl) (hb hby at_65) ?_
      intro v T L' X hQ
      obtain ⟨h, eT⟩ : ∃ z, T.heap = z := ⟨_, rfl⟩
      rw [eT] at hQ
      obtain ⟨rfl, N', K', F_words_b47, F_blocks_b47, F_count_b47, V_w, V_b⟩ := hQ
      have N := Fr.app N N'
      have K := K.trans K' (own_all3 (Or.inr z_b47) (Or.inr z_w) (Or.inr z_b))
      have E_b47 := E_b47.keep K'
      rw [own_c1] at F_count_b47
      show Go p e below s _ _ T (mkF m 68 #[.val (.int p0), .val (.long x1), .second, .val (.long x2), .second, .val (.long v1), .second, .val (.long v2), .second, .val (.int k1), .val (.int k2), .val (.int kc), .val (.ref b47), .unset, .unset] [])
      refine Go.of (fun _ kq => XS.aload X.here hx rfl (hb hby at_68) rfl rfl kq) ?_
      show Go p e below s _ _ T (mkF m 70 #[.val (.int p0), .val (.long x1), .second, .val (.long x2), .second, .val (.long v1), .second, .val (.long v2), .second, .val (.int k1), .val (.int k2), .val (.int kc), .val (.ref b47), .unset, .unset] [(.ref b47)])
      refine Go.of (fun _ kq => XS.iload X.here hx rfl (hb hby at_70) rfl kq) ?_
      show Go p e below s _ _ T (mkF m 72 #[.val (.int p0), .val (.long x1), .second, .val (.long x2), .second, .val (.long v1), .second, .val (.long v2), .second, .val (.int k1), .val (.int k2), .val (.int kc), .val (.ref b47), .unset, .unset] [(.int k2), (.ref b47)])
      refine Go.of (fun _ kq => XS.lload X.here hx rfl (hb hby at_72) rfl kq) ?_
      show Go p e below s _ _ T (mkF m 74 #[.val (.int p0), .val (.long x1), .second, .val (.long x2), .second, .val (.long v1), .second, .val (.long v2), .second, .val (.int k1), .val (.int k2), .val (.int kc), .val (.ref b47), .unset, .unset] [(.long v2), (.int k2), (.ref b47)])
      refine Go.virtual (a := b47) X hx hZ hown (hw _ (List.mem_of_getElem? (i := 16) rfl)) (hw _ (List.mem_of_getElem? (i := 17) rfl)) (notFace_of_selects (args := #[]) (mvT hZ (hw _ (List.mem_of_getElem? (i := 19) rfl)))) (hw _ (List.mem_of_getElem? (i := 19) rfl)) (hw _ (List.mem_of_getElem? (i := 18) rfl)) (hw _ (List.mem_of_getElem? (i := 2) rfl)) (hw _ (List.mem_of_getElem? (i := 20) rfl)) (by decide) (rm3 hw b47 k2 v2 w b (own_W own_W0 k1 v1) (own_B own_W0 own_B0 0 k1) (1 : Int32) _ n0 g_b47 g_w g_b ne_b47_w ne_b47_b ne_w_b i_k2 ⟨by decide, by decide⟩ E_b47 F_words_b47 F_blocks_b47 F_count_b47 V_w V_b) eT E_b47 0 (by decide) (by decide) (by decide) (by decide) (by rw [hml]; rfl) (argsL := [(.int k2), (.long v2)]) [] (lenOf pd1 rfl) rfl rfl (Nat.le_of_eq rfl) (hb hby at_74) ?_
      intro v T L' X hQ
      obtain ⟨h, eT⟩ : ∃ z, T.heap = z := ⟨_, rfl⟩
      rw [eT] at hQ
      obtain ⟨rfl, N', K', F_words_b47, F_blocks_b47, F_count_b47, V_w, V_b⟩ := hQ
      have N := Fr.app N N'
      have K := K.trans K' (own_all3 (Or.inr z_b47) (Or.inr z_w) (Or.inr z_b))
      have E_b47 := E_b47.keep K'
      rw [own_c2 i_k1 i_k2 hv1] at F_count_b47
      show Go p e below s _ _ T (mkF m 77 #[.val (.int p0), .val (.long x1), .second, .val (.long x2), .second, .val (.long v1), .second, .val (.long v2), .second, .val (.int k1), .val (.int k2), .val (.int kc), .val (.ref b47), .unset, .unset] [])
      refine Go.join (fun e1 : Int64 => e1 = if kc = k1 then v1 else 0) (fun e1 => (mkF m 90 #[.val (.int p0), .val (.long x1), .second, .val (.long x2), .second, .val (.long v1), .second, .val (.long v2), .second, .val (.int k1), .val (.int k2), .val (.int kc), .val (.ref b47), .unset, .unset] [(.long e1)])) ?_ ?_
      · intro e1 he1
        show Go p e below s _ _ T (mkF m 90 #[.val (.int p0), .val (.long x1), .second, .val (.long x2), .second, .val (.long v1), .second, .val (.long v2), .second, .val (.int k1), .val (.int k2), .val (.int kc), .val (.ref b47), .unset, .unset] [(.long e1)])
        refine Go.join (fun e2 : Int64 => e2 = if kc = k2 then v2 else 0) (fun e2 => (mkF m 103 #[.val (.int p0), .val (.long x1), .second, .val (.long x2), .second, .val (.long v1), .second, .val (.long v2), .second, .val (.int k1), .val (.int k2), .val (.int kc), .val (.ref b47), .unset, .unset] [(.long e2), (.long e1)])) ?_ ?_
        · intro e2 he2
          show Go p e below s _ _ T (mkF m 103 #[.val (.int p0), .val (.long x1), .second, .val (.long x2), .second, .val (.long v1), .second, .val (.long v2), .second, .val (.int k1), .val (.int k2), .val (.int kc), .val (.ref b47), .unset, .unset] [(.long e2), (.long e1)])
          refine Go.of (fun _ kq => XS.lor X.here hx rfl (hb hby at_103) rfl kq) ?_
          show Go p e below s _ _ T (mkF m 104 #[.val (.int p0), .val (.long x1), .second, .val (.long x2), .second, .val (.long v1), .second, .val (.long v2), .second, .val (.int k1), .val (.int k2), .val (.int kc), .val (.ref b47), .unset, .unset] [(.long (e1 ||| e2))])
          refine Go.of (fun _ kq => XS.lstore X.here hx rfl (hb hby at_104) rfl (l' := #[.val (.int p0), .val (.long x1), .second, .val (.long x2), .second, .val (.long v1), .second, .val (.long v2), .second, .val (.int k1), .val (.int k2), .val (.int kc), .val (.ref b47), .val (.long (e1 ||| e2)), .second]) rfl kq) ?_
          show Go p e below s _ _ T (mkF m 106 #[.val (.int p0), .val (.long x1), .second, .val (.long x2), .second, .val (.long v1), .second, .val (.long v2), .second, .val (.int k1), .val (.int k2), .val (.int kc), .val (.ref b47), .val (.long (e1 ||| e2)), .second] [])
          refine Go.of (fun _ kq => XS.aload X.here hx rfl (hb hby at_106) rfl rfl kq) ?_
          show Go p e below s _ _ T (mkF m 108 #[.val (.int p0), .val (.long x1), .second, .val (.long x2), .second, .val (.long v1), .second, .val (.long v2), .second, .val (.int k1), .val (.int k2), .val (.int kc), .val (.ref b47), .val (.long (e1 ||| e2)), .second] [(.ref b47)])
          refine Go.of (fun _ kq => XS.iload X.here hx rfl (hb hby at_108) rfl kq) ?_
          show Go p e below s _ _ T (mkF m 110 #[.val (.int p0), .val (.long x1), .second, .val (.long x2), .second, .val (.long v1), .second, .val (.long v2), .second, .val (.int k1), .val (.int k2), .val (.int kc), .val (.ref b47), .val (.long (e1 ||| e2)), .second] [(.int kc), (.ref b47)])
          refine Go.virtual (a := b47) X hx hZ hown (hw _ (List.mem_of_getElem? (i := 23) rfl)) (hw _ (List.mem_of_getElem? (i := 24) rfl)) (notFace_of_selects (args := #[]) (mvT hZ (hw _ (List.mem_of_getElem? (i := 26) rfl)))) (hw _ (List.mem_of_getElem? (i := 26) rfl)) (hw _ (List.mem_of_getElem? (i := 25) rfl)) (hw _ (List.mem_of_getElem? (i := 2) rfl)) (hw _ (List.mem_of_getElem? (i := 27) rfl)) (by decide) (rm4 hw b47 kc w (own_W (own_W own_W0 k1 v1) k2 v2) _ n0 i_kc F_words_b47 V_w) eT E_b47 0 (by decide) (by decide) (by decide) (by decide) (by rw [hml]; rfl) (argsL := [(.int kc)]) [] (lenOf pd2 rfl) rfl rfl (Nat.le_of_eq rfl) (hb hby at_110) ?_
          intro v T L' X hQ
          obtain ⟨rfl, N', eT⟩ := hQ
          have N := Fr.app N N'
          rw [own_at i_k1 i_k2 i_kc]
          show Go p e below s _ _ T (mkF m 113 #[.val (.int p0), .val (.long x1), .second, .val (.long x2), .second, .val (.long v1), .second, .val (.long v2), .second, .val (.int k1), .val (.int k2), .val (.int kc), .val (.ref b47), .val (.long (e1 ||| e2)), .second] [(.long ((if kc = k1 then v1 else 0) ||| (if kc = k2 then v2 else 0)))])
          refine Go.of (fun _ kq => XS.lload X.here hx rfl (hb hby at_113) rfl kq) ?_
          show Go p e below s _ _ T (mkF m 115 #[.val (.int p0), .val (.long x1), .second, .val (.long x2), .second, .val (.long v1), .second, .val (.long v2), .second, .val (.int k1), .val (.int k2), .val (.int kc), .val (.ref b47), .val (.long (e1 ||| e2)), .second] [(.long (e1 ||| e2)), (.long ((if kc = k1 then v1 else 0) ||| (if kc = k2 then v2 else 0)))])
          refine Go.of (fun _ kq => XS.lcmp X.here hx rfl (hb hby at_115) rfl kq) ?_
          show Go p e below s _ _ T (mkF m 116 #[.val (.int p0), .val (.long x1), .second, .val (.long x2), .second, .val (.long v1), .second, .val (.long v2), .second, .val (.int k1), .val (.int k2), .val (.int kc), .val (.ref b47), .val (.long (e1 ||| e2)), .second] [(.int (lcmpW ((if kc = k1 then v1 else 0) ||| (if kc = k2 then v2 else 0)) (e1 ||| e2)))])
          refine Go.of (fun _ kq => XS.ifYes X.here hx rfl (pc0 := 116) (pc' := 121) rfl (hb hby at_116) rfl (cZeq (by rw [he1, he2])).1 (by decide) (by decide) kq) ?_
          show Go p e below s _ _ T (mkF m 121 #[.val (.int p0), .val (.long x1), .second, .val (.long x2), .second, .val (.long v1), .second, .val (.long v2), .second, .val (.int k1), .val (.int k2), .val (.int kc), .val (.ref b47), .val (.long (e1 ||| e2)), .second] [])
          refine Go.of (fun _ kq => XS.iload X.here hx rfl (hb hby at_121) rfl kq) ?_
          show Go p e below s _ _ T (mkF m 123 #[.val (.int p0), .val (.long x1), .second, .val (.long x2), .second, .val (.long v1), .second, .val (.long v2), .second, .val (.int k1), .val (.int k2), .val (.int kc), .val (.ref b47), .val (.long (e1 ||| e2)), .second] [(.int k1)])
          refine Go.of (fun _ kq => XS.iload X.here hx rfl (hb hby at_123) rfl kq) ?_
          show Go p e below s _ _ T (mkF m 125 #[.val (.int p0), .val (.long x1), .second, .val (.long x2), .second, .val (.long v1), .second, .val (.long v2), .second, .val (.int k1), .val (.int k2), .val (.int kc), .val (.ref b47), .val (.long (e1 ||| e2)), .second] [(.int k2), (.int k1)])
          by_cases hc125 : k1 = k2
          · refine Go.of (fun _ kq => XS.icmpNo X.here hx rfl (hb hby at_125) rfl (teq hc125).2 kq) ?_
            show Go p e below s _ _ T (mkF m 128 #[.val (.int p0), .val (.long x1), .second, .val (.long x2), .second, .val (.long v1), .second, .val (.long v2), .second, .val (.int k1), .val (.int k2), .val (.int kc), .val (.ref b47), .val (.long (e1 ||| e2)), .second] [])
            refine Go.of (fun _ kq => XS.aload X.here hx rfl (hb hby at_128) rfl rfl kq) ?_
            show Go p e below s _ _ T (mkF m 130 #[.val (.int p0), .val (.long x1), .second, .val (.long x2), .second, .val (.long v1), .second, .val (.long v2), .second, .val (.int k1), .val (.int k2), .val (.int kc), .val (.ref b47), .val (.long (e1 ||| e2)), .second] [(.ref b47)])
            refine Go.virtual (a := b47) X hx hZ hown (hw _ (List.mem_of_getElem? (i := 28) rfl)) (hw _ (List.mem_of_getElem? (i := 29) rfl)) (notFace_of_selects (args := #[]) (mvT hZ (hw _ (List.mem_of_getElem? (i := 31) rfl)))) (hw _ (List.mem_of_getElem? (i := 31) rfl)) (hw _ (List.mem_of_getElem? (i := 30) rfl)) (hw _ (List.mem_of_getElem? (i := 2) rfl)) (hw _ (List.mem_of_getElem? (i := 32) rfl)) (by decide) (rm5 hw b47 _ _ n0 F_count_b47) eT E_b47 0 (by decide) (by decide) (by decide) (by decide) (by rw [hml]; rfl) (argsL := []) [] (lenOf pd3 rfl) rfl rfl (Nat.le_of_eq rfl) (hb hby at_130) ?_
            intro v T L' X hQ
            obtain ⟨rfl, N', eT⟩ := hQ
            have N := Fr.app N N'
            show Go p e below s _ _ T (mkF m 133 #[.val (.int p0), .val (.long x1), .second, .val (.long x2), .second, .val (.long v1), .second, .val (.long v2), .second, .val (.int k1), .val (.int k2), .val (.int kc), .val (.ref b47), .val (.long (e1 ||| e2)), .second] [(.int (if k1 = k2 then (1 : Int32) else 2))])
            refine Go.of (fun _ kq => XS.iconst X.here hx rfl (hb hby at_133) kq) ?_
            show Go p e below s _ _ T (mkF m 134 #[.val (.int p0), .val (.long x1), .second, .val (.long x2), .second, .val (.long v1), .second, .val (.long v2), .second, .val (.int k1), .val (.int k2), .val (.int kc), .val (.ref b47), .val (.long (e1 ||| e2)), .second] [(.int (1 : Int32)), (.int (if k1 = k2 then (1 : Int32) else 2))])
            refine Go.of (fun _ kq => XS.icmpNo X.here hx rfl (hb hby at_134) rfl (teq (if_pos hc125)).2 kq) ?_
            show Go p e below s _ _ T (mkF m 137 #[.val (.int p0), .val (.long x1), .second, .val (.long x2), .second, .val (.long v1), .second, .val (.long v2), .second, .val (.int k1), .val (.int k2), .val (.int kc), .val (.ref b47), .val (.long (e1 ||| e2)), .second] [])
            refine Go.of (fun _ kq => XS.aload X.here hx rfl (hb hby at_137) rfl rfl kq) ?_
            show Go p e below s _ _ T (mkF m 139 #[.val (.int p0), .val (.long x1), .second, .val (.long x2), .second, .val (.long v1), .second, .val (.long v2), .second, .val (.int k1), .val (.int k2), .val (.int kc), .val (.ref b47), .val (.long (e1 ||| e2)), .second] [(.ref b47)])
            refine Go.of (fun _ kq => XS.iconst X.here hx rfl (hb hby at_139) kq) ?_
            show Go p e below s _ _ T (mkF m 140 #[.val (.int p0), .val (.long x1), .second, .val (.long x2), .second, .val (.long v1), .second, .val (.long v2), .second, .val (.int k1), .val (.int k2), .val (.int kc), .val (.ref b47), .val (.long (e1 ||| e2)), .second] [(.int (0 : Int32)), (.ref b47)])
            refine Go.virtual (a := b47) X hx hZ hown (hw _ (List.mem_of_getElem? (i := 33) rfl)) (hw _ (List.mem_of_getElem? (i := 34) rfl)) (notFace_of_selects (args := #[]) (mvT hZ (hw _ (List.mem_of_getElem? (i := 36) rfl)))) (hw _ (List.mem_of_getElem? (i := 36) rfl)) (hw _ (List.mem_of_getElem? (i := 35) rfl)) (hw _ (List.mem_of_getElem? (i := 2) rfl)) (hw _ (List.mem_of_getElem? (i := 37) rfl)) (by decide) (rm6 hw b47 (0 : Int32) b (own_B (own_W own_W0 k1 v1) (own_B own_W0 own_B0 0 k1) 1 k2) _ n0 ⟨by decide, by decide⟩ F_blocks_b47 V_b) eT E_b47 0 (by decide) (by decide) (by decide) (by decide) (by rw [hml]; rfl) (argsL := [(.int (0 : Int32))]) [] (lenOf pd4 rfl) rfl rfl (Nat.le_of_eq rfl) (hb hby at_140) ?_
            intro v T L' X hQ
            obtain ⟨rfl, N', eT⟩ := hQ
            have N := Fr.app N N'
            rw [own_b0]
            show Go p e below s _ _ T (mkF m 143 #[.val (.int p0), .val (.long x1), .second, .val (.long x2), .second, .val (.long v1), .second, .val (.long v2), .second, .val (.int k1), .val (.int k2), .val (.int kc), .val (.ref b47), .val (.long (e1 ||| e2)), .second] [(.int k1)])
            refine Go.of (fun _ kq => XS.iload X.here hx rfl (hb hby at_143) rfl kq) ?_
            show Go p e below s _ _ T (mkF m 145 #[.val (.int p0), .val (.long x1), .second, .val (.long x2), .second, .val (.long v1), .second, .val (.long v2), .second, .val (.int k1), .val (.int k2), .val (.int kc), .val (.ref b47), .val (.long (e1 ||| e2)), .second] [(.int k1), (.int k1)])
            refine Go.of (fun _ kq => XS.icmpNo X.here hx rfl (hb hby at_145) rfl (teq (rfl)).2 kq) ?_
            show Go p e below s _ _ T (mkF m 148 #[.val (.int p0), .val (.long x1), .second, .val (.long x2), .second, .val (.long v1), .second, .val (.long v2), .second, .val (.int k1), .val (.int k2), .val (.int kc), .val (.ref b47), .val (.long (e1 ||| e2)), .second] [])
            refine Go.of (fun _ kq => XS.aload X.here hx rfl (hb hby at_148) rfl rfl kq) ?_
            show Go p e below s _ _ T (mkF m 150 #[.val (.int p0), .val (.long x1), .second, .val (.long x2), .second, .val (.long v1), .second, .val (.long v2), .second, .val (.int k1), .val (.int k2), .val (.int kc), .val (.ref b47), .val (.long (e1 ||| e2)), .second] [(.ref b47)])
            refine Go.of (fun _ kq => XS.iload X.here hx rfl (hb hby at_150) rfl kq) ?_
            show Go p e below s _ _ T (mkF m 152 #[.val (.int p0), .val (.long x1), .second, .val (.long x2), .second, .val (.long v1), .second, .val (.long v2), .second, .val (.int k1), .val (.int k2), .val (.int kc), .val (.ref b47), .val (.long (e1 ||| e2)), .second] [(.int k1), (.ref b47)])
            refine Go.virtual (a := b47) X hx hZ hown (hw _ (List.mem_of_getElem? (i := 23) rfl)) (hw _ (List.mem_of_getElem? (i := 24) rfl)) (notFace_of_selects (args := #[]) (mvT hZ (hw _ (List.mem_of_getElem? (i := 26) rfl)))) (hw _ (List.mem_of_getElem? (i := 26) rfl)) (hw _ (List.mem_of_getElem? (i := 25) rfl)) (hw _ (List.mem_of_getElem? (i := 2) rfl)) (hw _ (List.mem_of_getElem? (i := 27) rfl)) (by decide) (rm4 hw b47 k1 w (own_W (own_W own_W0 k1 v1) k2 v2) _ n0 i_k1 F_words_b47 V_w) eT E_b47 0 (by decide) (by decide) (by decide) (by decide) (by rw [hml]; rfl) (argsL := [(.int k1)]) [] (lenOf pd2 rfl) rfl rfl (Nat.le_of_eq rfl) (hb hby at_152) ?_
            intro v T L' X hQ
            obtain ⟨rfl, N', eT⟩ := hQ
            have N := Fr.app N N'
            rw [own_at i_k1 i_k2 i_k1]
            show Go p e below s _ _ T (mkF m 155 #[.val (.int p0), .val (.long x1), .second, .val (.long x2), .second, .val (.long v1), .second, .val (.long v2), .second, .val (.int k1), .val (.int k2), .val (.int kc), .val (.ref b47), .val (.long (e1 ||| e2)), .second] [(.long ((if k1 = k1 then v1 else 0) ||| (if k1 = k2 then v2 else 0)))])
            refine Go.of (fun _ kq => XS.lload X.here hx rfl (hb hby at_155) rfl kq) ?_
            show Go p e below s _ _ T (mkF m 157 #[.val (.int p0), .val (.long x1), .second, .val (.long x2), .second, .val (.long v1), .second, .val (.long v2), .second, .val (.int k1), .val (.int k2), .val (.int kc), .val (.ref b47), .val (.long (e1 ||| e2)), .second] [(.long v1), (.long ((if k1 = k1 then v1 else 0) ||| (if k1 = k2 then v2 else 0)))])
            refine Go.of (fun _ kq => XS.lload X.here hx rfl (hb hby at_157) rfl kq) ?_
            show Go p e below s _ _ T (mkF m 159 #[.val (.int p0), .val (.long x1), .second, .val (.long x2), .second, .val (.long v1), .second, .val (.long v2), .second, .val (.int k1), .val (.int k2), .val (.int kc), .val (.ref b47), .val (.long (e1 ||| e2)), .second] [(.long v2), (.long v1), (.long ((if k1 = k1 then v1 else 0) ||| (if k1 = k2 then v2 else 0)))])
            refine Go.of (fun _ kq => XS.lor X.here hx rfl (hb hby at_159) rfl kq) ?_
            show Go p e below s _ _ T (mkF m 160 #[.val (.int p0), .val (.long x1), .second, .val (.long x2), .second, .val (.long v1), .second, .val (.long v2), .second, .val (.int k1), .val (.int k2), .val (.int kc), .val (.ref b47), .val (.long (e1 ||| e2)), .second] [(.long (v1 ||| v2)), (.long ((if k1 = k1 then v1 else 0) ||| (if k1 = k2 then v2 else 0)))])
            refine Go.of (fun _ kq => XS.lcmp X.here hx rfl (hb hby at_160) rfl kq) ?_
            show Go p e below s _ _ T (mkF m 161 #[.val (.int p0), .val (.long x1), .second, .val (.long x2), .second, .val (.long v1), .second, .val (.long v2), .second, .val (.int k1), .val (.int k2), .val (.int kc), .val (.ref b47), .val (.long (e1 ||| e2)), .second] [(.int (lcmpW ((if k1 = k1 then v1 else 0) ||| (if k1 = k2 then v2 else 0)) (v1 ||| v2)))])
            refine Go.of (fun _ kq => XS.ifNo X.here hx rfl (hb hby at_161) rfl (cZeq (by simp [hc125])).2 kq) ?_
            show Go p e below s _ _ T (mkF m 164 #[.val (.int p0), .val (.long x1), .second, .val (.long x2), .second, .val (.long v1), .second, .val (.long v2), .second, .val (.int k1), .val (.int k2), .val (.int kc), .val (.ref b47), .val (.long (e1 ||| e2)), .second] [])
            refine Go.of (fun _ kq => XS.iconst X.here hx rfl (hb hby at_164) kq) ?_
            show Go p e below s _ _ T (mkF m 165 #[.val (.int p0), .val (.long x1), .second, .val (.long x2), .second, .val (.long v1), .second, .val (.long v2), .second, .val (.int k1), .val (.int k2), .val (.int kc), .val (.ref b47), .val (.long (e1 ||| e2)), .second] [(.int (1 : Int32))])
            refine Go.of (fun _ kq => XS.goto X.here hx rfl (pc0 := 165) (pc' := 169) rfl (hb hby at_165) (by decide) (by decide) kq) ?_
            show Go p e below s _ _ T (mkF m 169 #[.val (.int p0), .val (.long x1), .second, .val (.long x2), .second, .val (.long v1), .second, .val (.long v2), .second, .val (.int k1), .val (.int k2), .val (.int kc), .val (.ref b47), .val (.long (e1 ||| e2)), .second] [(.int (1 : Int32))])
            refine Go.retN X hx hret (by simp) hlk (hb hby at_169) (by decide) (by decide) ?_
            try rw [eT]
            exact ⟨rfl, N⟩
          · refine Go.of (fun _ kq => XS.icmpYes X.here hx rfl (pc0 := 125) (pc' := 170) rfl (hb hby at_125) rfl (feq hc125).2 (by decide) (by decide) kq) ?_
            show Go p e below s _ _ T (mkF m 170 #[.val (.int p0), .val (.long x1), .second, .val (.long x2), .second, .val (.long v1), .second, .val (.long v2), .second, .val (.int k1), .val (.int k2), .val (.int kc), .val (.ref b47), .val (.long (e1 ||| e2)), .second] [])
            refine Go.of (fun _ kq => XS.aload X.here hx rfl (hb hby at_170) rfl rfl kq) ?_
            show Go p e below s _ _ T (mkF m 172 #[.val (.int p0), .val (.long x1), .second, .val (.long x2), .second, .val (.long v1), .second, .val (.long v2), .second, .val (.int k1), .val (.int k2), .val (.int kc), .val (.ref b47), .val (.long (e1 ||| e2)), .second] [(.ref b47)])
            refine Go.virtual (a := b47) X hx hZ hown (hw _ (List.mem_of_getElem? (i := 28) rfl)) (hw _ (List.mem_of_getElem? (i := 29) rfl)) (notFace_of_selects (args := #[]) (mvT hZ (hw _ (List.mem_of_getElem? (i := 31) rfl)))) (hw _ (List.mem_of_getElem? (i := 31) rfl)) (hw _ (List.mem_of_getElem? (i := 30) rfl)) (hw _ (List.mem_of_getElem? (i := 2) rfl)) (hw _ (List.mem_of_getElem? (i := 32) rfl)) (by decide) (rm5 hw b47 _ _ n0 F_count_b47) eT E_b47 0 (by decide) (by decide) (by decide) (by decide) (by rw [hml]; rfl) (argsL := []) [] (lenOf pd3 rfl) rfl rfl (Nat.le_of_eq rfl) (hb hby at_172) ?_
            intro v T L' X hQ
            obtain ⟨rfl, N', eT⟩ := hQ
            have N := Fr.app N N'
            show Go p e below s _ _ T (mkF m 175 #[.val (.int p0), .val (.long x1), .second, .val (.long x2), .second, .val (.long v1), .second, .val (.long v2), .second, .val (.int k1), .val (.int k2), .val (.int kc), .val (.ref b47), .val (.long (e1 ||| e2)), .second] [(.int (if k1 = k2 then (1 : Int32) else 2))])
            refine Go.of (fun _ kq => XS.iconst X.here hx rfl (hb hby at_175) kq) ?_
            show Go p e below s _ _ T (mkF m 176 #[.val (.int p0), .val (.long x1), .second, .val (.long x2), .second, .val (.long v1), .second, .val (.long v2), .second, .val (.int k1), .val (.int k2), .val (.int kc), .val (.ref b47), .val (.long (e1 ||| e2)), .second] [(.int (2 : Int32)), (.int (if k1 = k2 then (1 : Int32) else 2))])
            refine Go.of (fun _ kq => XS.icmpNo X.here hx rfl (hb hby at_176) rfl (teq (if_neg hc125)).2 kq) ?_
            show Go p e below s _ _ T (mkF m 179 #[.val (.int p0), .val (.long x1), .second, .val (.long x2), .second, .val (.long v1), .second, .val (.long v2), .second, .val (.int k1), .val (.int k2), .val (.int kc), .val (.ref b47), .val (.long (e1 ||| e2)), .second] [])
            refine Go.of (fun _ kq => XS.aload X.here hx rfl (hb hby at_179) rfl rfl kq) ?_
            show Go p e below s _ _ T (mkF m 181 #[.val (.int p0), .val (.long x1), .second, .val (.long x2), .second, .val (.long v1), .second, .val (.long v2), .second, .val (.int k1), .val (.int k2), .val (.int kc), .val (.ref b47), .val (.long (e1 ||| e2)), .second] [(.ref b47)])
            refine Go.of (fun _ kq => XS.iconst X.here hx rfl (hb hby at_181) kq) ?_
            show Go p e below s _ _ T (mkF m 182 #[.val (.int p0), .val (.long x1), .second, .val (.long x2), .second, .val (.long v1), .second, .val (.long v2), .second, .val (.int k1), .val (.int k2), .val (.int kc), .val (.ref b47), .val (.long (e1 ||| e2)), .second] [(.int (0 : Int32)), (.ref b47)])
            refine Go.virtual (a := b47) X hx hZ hown (hw _ (List.mem_of_getElem? (i := 33) rfl)) (hw _ (List.mem_of_getElem? (i := 34) rfl)) (notFace_of_selects (args := #[]) (mvT hZ (hw _ (List.mem_of_getElem? (i := 36) rfl)))) (hw _ (List.mem_of_getElem? (i := 36) rfl)) (hw _ (List.mem_of_getElem? (i := 35) rfl)) (hw _ (List.mem_of_getElem? (i := 2) rfl)) (hw _ (List.mem_of_getElem? (i := 37) rfl)) (by decide) (rm6 hw b47 (0 : Int32) b (own_B (own_W own_W0 k1 v1) (own_B own_W0 own_B0 0 k1) 1 k2) _ n0 ⟨by decide, by decide⟩ F_blocks_b47 V_b) eT E_b47 0 (by decide) (by decide) (by decide) (by decide) (by rw [hml]; rfl) (argsL := [(.int (0 : Int32))]) [] (lenOf pd4 rfl) rfl rfl (Nat.le_of_eq rfl) (hb hby at_182) ?_
            intro v T L' X hQ
            obtain ⟨rfl, N', eT⟩ := hQ
            have N := Fr.app N N'
            rw [own_b0]
            show Go p e below s _ _ T (mkF m 185 #[.val (.int p0), .val (.long x1), .second, .val (.long x2), .second, .val (.long v1), .second, .val (.long v2), .second, .val (.int k1), .val (.int k2), .val (.int kc), .val (.ref b47), .val (.long (e1 ||| e2)), .second] [(.int k1)])
            refine Go.of (fun _ kq => XS.iload X.here hx rfl (hb hby at_185) rfl kq) ?_
            show Go p e below s _ _ T (mkF m 187 #[.val (.int p0), .val (.long x1), .second, .val (.long x2), .second, .val (.long v1), .second, .val (.long v2), .second, .val (.int k1), .val (.int k2), .val (.int kc), .val (.ref b47), .val (.long (e1 ||| e2)), .second] [(.int k1), (.int k1)])
            refine Go.of (fun _ kq => XS.icmpNo X.here hx rfl (hb hby at_187) rfl (teq (rfl)).2 kq) ?_
            show Go p e below s _ _ T (mkF m 190 #[.val (.int p0), .val (.long x1), .second, .val (.long x2), .second, .val (.long v1), .second, .val (.long v2), .second, .val (.int k1), .val (.int k2), .val (.int kc), .val (.ref b47), .val (.long (e1 ||| e2)), .second] [])
            refine Go.of (fun _ kq => XS.aload X.here hx rfl (hb hby at_190) rfl rfl kq) ?_
            show Go p e below s _ _ T (mkF m 192 #[.val (.int p0), .val (.long x1), .second, .val (.long x2), .second, .val (.long v1), .second, .val (.long v2), .second, .val (.int k1), .val (.int k2), .val (.int kc), .val (.ref b47), .val (.long (e1 ||| e2)), .second] [(.ref b47)])
            refine Go.of (fun _ kq => XS.iconst X.here hx rfl (hb hby at_192) kq) ?_
            show Go p e below s _ _ T (mkF m 193 #[.val (.int p0), .val (.long x1), .second, .val (.long x2), .second, .val (.long v1), .second, .val (.long v2), .second, .val (.int k1), .val (.int k2), .val (.int kc), .val (.ref b47), .val (.long (e1 ||| e2)), .second] [(.int (1 : Int32)), (.ref b47)])
            refine Go.virtual (a := b47) X hx hZ hown (hw _ (List.mem_of_getElem? (i := 33) rfl)) (hw _ (List.mem_of_getElem? (i := 34) rfl)) (notFace_of_selects (args := #[]) (mvT hZ (hw _ (List.mem_of_getElem? (i := 36) rfl)))) (hw _ (List.mem_of_getElem? (i := 36) rfl)) (hw _ (List.mem_of_getElem? (i := 35) rfl)) (hw _ (List.mem_of_getElem? (i := 2) rfl)) (hw _ (List.mem_of_getElem? (i := 37) rfl)) (by decide) (rm6 hw b47 (1 : Int32) b (own_B (own_W own_W0 k1 v1) (own_B own_W0 own_B0 0 k1) 1 k2) _ n0 ⟨by decide, by decide⟩ F_blocks_b47 V_b) eT E_b47 0 (by decide) (by decide) (by decide) (by decide) (by rw [hml]; rfl) (argsL := [(.int (1 : Int32))]) [] (lenOf pd4 rfl) rfl rfl (Nat.le_of_eq rfl) (hb hby at_193) ?_
            intro v T L' X hQ
            obtain ⟨rfl, N', eT⟩ := hQ
            have N := Fr.app N N'
            rw [own_b1 i_k1 i_k2 hc125]
            show Go p e below s _ _ T (mkF m 196 #[.val (.int p0), .val (.long x1), .second, .val (.long x2), .second, .val (.long v1), .second, .val (.long v2), .second, .val (.int k1), .val (.int k2), .val (.int kc), .val (.ref b47), .val (.long (e1 ||| e2)), .second] [(.int k2)])
            refine Go.of (fun _ kq => XS.iload X.here hx rfl (hb hby at_196) rfl kq) ?_
            show Go p e below s _ _ T (mkF m 198 #[.val (.int p0), .val (.long x1), .second, .val (.long x2), .second, .val (.long v1), .second, .val (.long v2), .second, .val (.int k1), .val (.int k2), .val (.int kc), .val (.ref b47), .val (.long (e1 ||| e2)), .second] [(.int k2), (.int k2)])
            refine Go.of (fun _ kq => XS.icmpNo X.here hx rfl (hb hby at_198) rfl (teq (rfl)).2 kq) ?_
            show Go p e below s _ _ T (mkF m 201 #[.val (.int p0), .val (.long x1), .second, .val (.long x2), .second, .val (.long v1), .second, .val (.long v2), .second, .val (.int k1), .val (.int k2), .val (.int kc), .val (.ref b47), .val (.long (e1 ||| e2)), .second] [])
            refine Go.of (fun _ kq => XS.aload X.here hx rfl (hb hby at_201) rfl rfl kq) ?_
            show Go p e below s _ _ T (mkF m 203 #[.val (.int p0), .val (.long x1), .second, .val (.long x2), .second, .val (.long v1), .second, .val (.long v2), .second, .val (.int k1), .val (.int k2), .val (.int kc), .val (.ref b47), .val (.long (e1 ||| e2)), .second] [(.ref b47)])
            refine Go.of (fun _ kq => XS.iload X.here hx rfl (hb hby at_203) rfl kq) ?_
            show Go p e below s _ _ T (mkF m 205 #[.val (.int p0), .val (.long x1), .second, .val (.long x2), .second, .val (.long v1), .second, .val (.long v2), .second, .val (.int k1), .val (.int k2), .val (.int kc), .val (.ref b47), .val (.long (e1 ||| e2)), .second] [(.int k1), (.ref b47)])
            refine Go.virtual (a := b47) X hx hZ hown (hw _ (List.mem_of_getElem? (i := 23) rfl)) (hw _ (List.mem_of_getElem? (i := 24) rfl)) (notFace_of_selects (args := #[]) (mvT hZ (hw _ (List.mem_of_getElem? (i := 26) rfl)))) (hw _ (List.mem_of_getElem? (i := 26) rfl)) (hw _ (List.mem_of_getElem? (i := 25) rfl)) (hw _ (List.mem_of_getElem? (i := 2) rfl)) (hw _ (List.mem_of_getElem? (i := 27) rfl)) (by decide) (rm4 hw b47 k1 w (own_W (own_W own_W0 k1 v1) k2 v2) _ n0 i_k1 F_words_b47 V_w) eT E_b47 0 (by decide) (by decide) (by decide) (by decide) (by rw [hml]; rfl) (argsL := [(.int k1)]) [] (lenOf pd2 rfl) rfl rfl (Nat.le_of_eq rfl) (hb hby at_205) ?_
            intro v T L' X hQ
            obtain ⟨rfl, N', eT⟩ := hQ
            have N := Fr.app N N'
            rw [own_at i_k1 i_k2 i_k1]
            show Go p e below s _ _ T (mkF m 208 #[.val (.int p0), .val (.long x1), .second, .val (.long x2), .second, .val (.long v1), .second, .val (.long v2), .second, .val (.int k1), .val (.int k2), .val (.int kc), .val (.ref b47), .val (.long (e1 ||| e2)), .second] [(.long ((if k1 = k1 then v1 else 0) ||| (if k1 = k2 then v2 else 0)))])
            refine Go.of (fun _ kq => XS.lload X.here hx rfl (hb hby at_208) rfl kq) ?_
            show Go p e below s _ _ T (mkF m 210 #[.val (.int p0), .val (.long x1), .second, .val (.long x2), .second, .val (.long v1), .second, .val (.long v2), .second, .val (.int k1), .val (.int k2), .val (.int kc), .val (.ref b47), .val (.long (e1 ||| e2)), .second] [(.long v1), (.long ((if k1 = k1 then v1 else 0) ||| (if k1 = k2 then v2 else 0)))])
            refine Go.of (fun _ kq => XS.lcmp X.here hx rfl (hb hby at_210) rfl kq) ?_
            show Go p e below s _ _ T (mkF m 211 #[.val (.int p0), .val (.long x1), .second, .val (.long x2), .second, .val (.long v1), .second, .val (.long v2), .second, .val (.int k1), .val (.int k2), .val (.int kc), .val (.ref b47), .val (.long (e1 ||| e2)), .second] [(.int (lcmpW ((if k1 = k1 then v1 else 0) ||| (if k1 = k2 then v2 else 0)) v1))])
            refine Go.of (fun _ kq => XS.ifNo X.here hx rfl (hb hby at_211) rfl (cZeq (by simp [hc125])).2 kq) ?_
            show Go p e below s _ _ T (mkF m 214 #[.val (.int p0), .val (.long x1), .second, .val (.long x2), .second, .val (.long v1), .second, .val (.long v2), .second, .val (.int k1), .val (.int k2), .val (.int kc), .val (.ref b47), .val (.long (e1 ||| e2)), .second] [])
            refine Go.of (fun _ kq => XS.aload X.here hx rfl (hb hby at_214) rfl rfl kq) ?_
            show Go p e below s _ _ T (mkF m 216 #[.val (.int p0), .val (.long x1), .second, .val (.long x2), .second, .val (.long v1), .second, .val (.long v2), .second, .val (.int k1), .val (.int k2), .val (.int kc), .val (.ref b47), .val (.long (e1 ||| e2)), .second] [(.ref b47)])
            refine Go.of (fun _ kq => XS.iload X.here hx rfl (hb hby at_216) rfl kq) ?_
            show Go p e below s _ _ T (mkF m 218 #[.val (.int p0), .val (.long x1), .second, .val (.long x2), .second, .val (.long v1), .second, .val (.long v2), .second, .val (.int k1), .val (.int k2), .val (.int kc), .val (.ref b47), .val (.long (e1 ||| e2)), .second] [(.int k2), (.ref b47)])
            refine Go.virtual (a := b47) X hx hZ hown (hw _ (List.mem_of_getElem? (i := 23) rfl)) (hw _ (List.mem_of_getElem? (i := 24) rfl)) (notFace_of_selects (args := #[]) (mvT hZ (hw _ (List.mem_of_getElem? (i := 26) rfl)))) (hw _ (List.mem_of_getElem? (i := 26) rfl)) (hw _ (List.mem_of_getElem? (i := 25) rfl)) (hw _ (List.mem_of_getElem? (i := 2) rfl)) (hw _ (List.mem_of_getElem? (i := 27) rfl)) (by decide) (rm4 hw b47 k2 w (own_W (own_W own_W0 k1 v1) k2 v2) _ n0 i_k2 F_words_b47 V_w) eT E_b47 0 (by decide) (by decide) (by decide) (by decide) (by rw [hml]; rfl) (argsL := [(.int k2)]) [] (lenOf pd2 rfl) rfl rfl (Nat.le_of_eq rfl) (hb hby at_218) ?_
            intro v T L' X hQ
            obtain ⟨rfl, N', eT⟩ := hQ
            have N := Fr.app N N'
            rw [own_at i_k1 i_k2 i_k2]
            show Go p e below s _ _ T (mkF m 221 #[.val (.int p0), .val (.long x1), .second, .val (.long x2), .second, .val (.long v1), .second, .val (.long v2), .second, .val (.int k1), .val (.int k2), .val (.int kc), .val (.ref b47), .val (.long (e1 ||| e2)), .second] [(.long ((if k2 = k1 then v1 else 0) ||| (if k2 = k2 then v2 else 0)))])
            refine Go.of (fun _ kq => XS.lload X.here hx rfl (hb hby at_221) rfl kq) ?_
            show Go p e below s _ _ T (mkF m 223 #[.val (.int p0), .val (.long x1), .second, .val (.long x2), .second, .val (.long v1), .second, .val (.long v2), .second, .val (.int k1), .val (.int k2), .val (.int kc), .val (.ref b47), .val (.long (e1 ||| e2)), .second] [(.long v2), (.long ((if k2 = k1 then v1 else 0) ||| (if k2 = k2 then v2 else 0)))])
            refine Go.of (fun _ kq => XS.lcmp X.here hx rfl (hb hby at_223) rfl kq) ?_
            show Go p e below s _ _ T (mkF m 224 #[.val (.int p0), .val (.long x1), .second, .val (.long x2), .second, .val (.long v1), .second, .val (.long v2), .second, .val (.int k1), .val (.int k2), .val (.int kc), .val (.ref b47), .val (.long (e1 ||| e2)), .second] [(.int (lcmpW ((if k2 = k1 then v1 else 0) ||| (if k2 = k2 then v2 else 0)) v2))])
            refine Go.of (fun _ kq => XS.ifNo X.here hx rfl (hb hby at_224) rfl (cZeq (by have : ¬ k2 = k1 := fun r => hc125 r.symm; simp [this])).2 kq) ?_
            show Go p e below s _ _ T (mkF m 227 #[.val (.int p0), .val (.long x1), .second, .val (.long x2), .second, .val (.long v1), .second, .val (.long v2), .second, .val (.int k1), .val (.int k2), .val (.int kc), .val (.ref b47), .val (.long (e1 ||| e2)), .second] [])
            refine Go.of (fun _ kq => XS.iconst X.here hx rfl (hb hby at_227) kq) ?_
            show Go p e below s _ _ T (mkF m 228 #[.val (.int p0), .val (.long x1), .second, .val (.long x2), .second, .val (.long v1), .second, .val (.long v2), .second, .val (.int k1), .val (.int k2), .val (.int kc), .val (.ref b47), .val (.long (e1 ||| e2)), .second] [(.int (1 : Int32))])
            refine Go.of (fun _ kq => XS.goto X.here hx rfl (pc0 := 228) (pc' := 232) rfl (hb hby at_228) (by decide) (by decide) kq) ?_
            show Go p e below s _ _ T (mkF m 232 #[.val (.int p0), .val (.long x1), .second, .val (.long x2), .second, .val (.long v1), .second, .val (.long v2), .second, .val (.int k1), .val (.int k2), .val (.int kc), .val (.ref b47), .val (.long (e1 ||| e2)), .second] [(.int (1 : Int32))])
            refine Go.retN X hx hret (by simp) hlk (hb hby at_232) (by decide) (by decide) ?_
            try rw [eT]
            exact ⟨rfl, N⟩
        · intro jn103
          show Go p e below s _ _ T (mkF m 90 #[.val (.int p0), .val (.long x1), .second, .val (.long x2), .second, .val (.long v1), .second, .val (.long v2), .second, .val (.int k1), .val (.int k2), .val (.int kc), .val (.ref b47), .unset, .unset] [(.long e1)])
          refine Go.of (fun _ kq => XS.iload X.here hx rfl (hb hby at_90) rfl kq) ?_
          show Go p e below s _ _ T (mkF m 92 #[.val (.int p0), .val (.long x1), .second, .val (.long x2), .second, .val (.long v1), .second, .val (.long v2), .second, .val (.int k1), .val (.int k2), .val (.int kc), .val (.ref b47), .unset, .unset] [(.int kc), (.long e1)])
          refine Go.of (fun _ kq => XS.iload X.here hx rfl (hb hby at_92) rfl kq) ?_
          show Go p e below s _ _ T (mkF m 94 #[.val (.int p0), .val (.long x1), .second, .val (.long x2), .second, .val (.long v1), .second, .val (.long v2), .second, .val (.int k1), .val (.int k2), .val (.int kc), .val (.ref b47), .unset, .unset] [(.int k2), (.int kc), (.long e1)])
          by_cases hc94 : kc = k2
          · refine Go.of (fun _ kq => XS.icmpNo X.here hx rfl (hb hby at_94) rfl (teq hc94).2 kq) ?_
            show Go p e below s _ _ T (mkF m 97 #[.val (.int p0), .val (.long x1), .second, .val (.long x2), .second, .val (.long v1), .second, .val (.long v2), .second, .val (.int k1), .val (.int k2), .val (.int kc), .val (.ref b47), .unset, .unset] [(.long e1)])
            refine Go.of (fun _ kq => XS.lload X.here hx rfl (hb hby at_97) rfl kq) ?_
            show Go p e below s _ _ T (mkF m 99 #[.val (.int p0), .val (.long x1), .second, .val (.long x2), .second, .val (.long v1), .second, .val (.long v2), .second, .val (.int k1), .val (.int k2), .val (.int kc), .val (.ref b47), .unset, .unset] [(.long v2), (.long e1)])
            refine Go.of (fun _ kq => XS.goto X.here hx rfl (pc0 := 99) (pc' := 103) rfl (hb hby at_99) (by decide) (by decide) kq) ?_
            show Go p e below s _ _ T (mkF m 103 #[.val (.int p0), .val (.long x1), .second, .val (.long x2), .second, .val (.long v1), .second, .val (.long v2), .second, .val (.int k1), .val (.int k2), .val (.int kc), .val (.ref b47), .unset, .unset] [(.long v2), (.long e1)])
            exact jn103 _ (by rw [if_pos hc94])
          · refine Go.of (fun _ kq => XS.icmpYes X.here hx rfl (pc0 := 94) (pc' := 102) rfl (hb hby at_94) rfl (feq hc94).2 (by decide) (by decide) kq) ?_
            show Go p e below s _ _ T (mkF m 102 #[.val (.int p0), .val (.long x1), .second, .val (.long x2), .second, .val (.long v1), .second, .val (.long v2), .second, .val (.int k1), .val (.int k2), .val (.int kc), .val (.ref b47), .unset, .unset] [(.long e1)])
            refine Go.of (fun _ kq => XS.lconst X.here hx rfl (hb hby at_102) kq) ?_
            show Go p e below s _ _ T (mkF m 103 #[.val (.int p0), .val (.long x1), .second, .val (.long x2), .second, .val (.long v1), .second, .val (.long v2), .second, .val (.int k1), .val (.int k2), .val (.int kc), .val (.ref b47), .unset, .unset] [(.long (0 : Int64)), (.long e1)])
            exact jn103 _ (by rw [if_neg hc94])
      · intro jn90
        show Go p e below s _ _ T (mkF m 77 #[.val (.int p0), .val (.long x1), .second, .val (.long x2), .second, .val (.long v1), .second, .val (.long v2), .second, .val (.int k1), .val (.int k2), .val (.int kc), .val (.ref b47), .unset, .unset] [])
        refine Go.of (fun _ kq => XS.iload X.here hx rfl (hb hby at_77) rfl kq) ?_
        show Go p e below s _ _ T (mkF m 79 #[.val (.int p0), .val (.long x1), .second, .val (.long x2), .second, .val (.long v1), .second, .val (.long v2), .second, .val (.int k1), .val (.int k2), .val (.int kc), .val (.ref b47), .unset, .unset] [(.int kc)])
        refine Go.of (fun _ kq => XS.iload X.here hx rfl (hb hby at_79) rfl kq) ?_
        show Go p e below s _ _ T (mkF m 81 #[.val (.int p0), .val (.long x1), .second, .val (.long x2), .second, .val (.long v1), .second, .val (.long v2), .second, .val (.int k1), .val (.int k2), .val (.int kc), .val (.ref b47), .unset, .unset] [(.int k1), (.int kc)])
        by_cases hc81 : kc = k1
        · refine Go.of (fun _ kq => XS.icmpNo X.here hx rfl (hb hby at_81) rfl (teq hc81).2 kq) ?_
          show Go p e below s _ _ T (mkF m 84 #[.val (.int p0), .val (.long x1), .second, .val (.long x2), .second, .val (.long v1), .second, .val (.long v2), .second, .val (.int k1), .val (.int k2), .val (.int kc), .val (.ref b47), .unset, .unset] [])
          refine Go.of (fun _ kq => XS.lload X.here hx rfl (hb hby at_84) rfl kq) ?_
          show Go p e below s _ _ T (mkF m 86 #[.val (.int p0), .val (.long x1), .second, .val (.long x2), .second, .val (.long v1), .second, .val (.long v2), .second, .val (.int k1), .val (.int k2), .val (.int kc), .val (.ref b47), .unset, .unset] [(.long v1)])
          refine Go.of (fun _ kq => XS.goto X.here hx rfl (pc0 := 86) (pc' := 90) rfl (hb hby at_86) (by decide) (by decide) kq) ?_
          show Go p e below s _ _ T (mkF m 90 #[.val (.int p0), .val (.long x1), .second, .val (.long x2), .second, .val (.long v1), .second, .val (.long v2), .second, .val (.int k1), .val (.int k2), .val (.int kc), .val (.ref b47), .unset, .unset] [(.long v1)])
          exact jn90 _ (by rw [if_pos hc81])
        · refine Go.of (fun _ kq => XS.icmpYes X.here hx rfl (pc0 := 81) (pc' := 89) rfl (hb hby at_81) rfl (feq hc81).2 (by decide) (by decide) kq) ?_
          show Go p e below s _ _ T (mkF m 89 #[.val (.int p0), .val (.long x1), .second, .val (.long x2), .second, .val (.long v1), .second, .val (.long v2), .second, .val (.int k1), .val (.int k2), .val (.int kc), .val (.ref b47), .unset, .unset] [])
          refine Go.of (fun _ kq => XS.lconst X.here hx rfl (hb hby at_89) kq) ?_
          show Go p e below s _ _ T (mkF m 90 #[.val (.int p0), .val (.long x1), .second, .val (.long x2), .second, .val (.long v1), .second, .val (.long v2), .second, .val (.int k1), .val (.int k2), .val (.int kc), .val (.ref b47), .unset, .unset] [(.long (0 : Int64))])
          exact jn90 _ (by rw [if_neg hc81])
    · intro jn26
      show Go p e below s _ _ T (mkF m 15 #[.val (.int p0), .val (.long x1), .second, .val (.long x2), .second, .val (.long v1), .second, .unset, .unset, .unset, .unset, .unset, .unset, .unset, .unset] [])
      refine Go.of (fun _ kq => XS.lloadN X.here hx rfl (hb hby at_15) rfl kq) ?_
      show Go p e below s _ _ T (mkF m 16 #[.val (.int p0), .val (.long x1), .second, .val (.long x2), .second, .val (.long v1), .second, .unset, .unset, .unset, .unset, .unset, .unset, .unset, .unset] [(.long x2)])
      refine Go.of (fun _ kq => XS.lconst X.here hx rfl (hb hby at_16) kq) ?_
      show Go p e below s _ _ T (mkF m 17 #[.val (.int p0), .val (.long x1), .second, .val (.long x2), .second, .val (.long v1), .second, .unset, .unset, .unset, .unset, .unset, .unset, .unset, .unset] [(.long (0 : Int64)), (.long x2)])
      refine Go.of (fun _ kq => XS.lcmp X.here hx rfl (hb hby at_17) rfl kq) ?_
      show Go p e below s _ _ T (mkF m 18 #[.val (.int p0), .val (.long x1), .second, .val (.long x2), .second, .val (.long v1), .second, .unset, .unset, .unset, .unset, .unset, .unset, .unset, .unset] [(.int (lcmpW x2 (0 : Int64)))])
      by_cases hc18 : x2 = (0 : Int64)
      · refine Go.of (fun _ kq => XS.ifNo X.here hx rfl (hb hby at_18) rfl (cZeq hc18).2 kq) ?_
        show Go p e below s _ _ T (mkF m 21 #[.val (.int p0), .val (.long x1), .second, .val (.long x2), .second, .val (.long v1), .second, .unset, .unset, .unset, .unset, .unset, .unset, .unset, .unset] [])
        refine Go.of (fun _ kq => XS.lconst X.here hx rfl (hb hby at_21) kq) ?_
        show Go p e below s _ _ T (mkF m 22 #[.val (.int p0), .val (.long x1), .second, .val (.long x2), .second, .val (.long v1), .second, .unset, .unset, .unset, .unset, .unset, .unset, .unset, .unset] [(.long (1 : Int64))])
        refine Go.of (fun _ kq => XS.goto X.here hx rfl (pc0 := 22) (pc' := 26) rfl (hb hby at_22) (by decide) (by decide) kq) ?_
        show Go p e below s _ _ T (mkF m 26 #[.val (.int p0), .val (.long x1), .second, .val (.long x2), .second, .val (.long v1), .second, .unset, .unset, .unset, .unset, .unset, .unset, .unset, .unset] [(.long (1 : Int64))])
        exact jn26 _ (by decide)
      · refine Go.of (fun _ kq => XS.ifYes X.here hx rfl (pc0 := 18) (pc' := 25) rfl (hb hby at_18) rfl (cFeq hc18).2 (by decide) (by decide) kq) ?_
        show Go p e below s _ _ T (mkF m 25 #[.val (.int p0), .val (.long x1), .second, .val (.long x2), .second, .val (.long v1), .second, .unset, .unset, .unset, .unset, .unset, .unset, .unset, .unset] [])
        refine Go.of (fun _ kq => XS.lloadN X.here hx rfl (hb hby at_25) rfl kq) ?_
        show Go p e below s _ _ T (mkF m 26 #[.val (.int p0), .val (.long x1), .second, .val (.long x2), .second, .val (.long v1), .second, .unset, .unset, .unset, .unset, .unset, .unset, .unset, .unset] [(.long x2)])
        exact jn26 _ hc18
  · intro jn13
    show Go p e below s _ _ T (mkF m 0 #[.val (.int p0), .val (.long x1), .second, .val (.long x2), .second, .unset, .unset, .unset, .unset, .unset, .unset, .unset, .unset, .unset, .unset] [])
    refine Go.of (fun _ kq => XS.lloadN X.here hx rfl (hb hby at_0) rfl kq) ?_
    show Go p e below s _ _ T (mkF m 1 #[.val (.int p0), .val (.long x1), .second, .val (.long x2), .second, .unset, .unset, .unset, .unset, .unset, .unset, .unset, .unset, .unset, .unset] [(.long x1)])
    refine Go.of (fun _ kq => XS.lconst X.here hx rfl (hb hby at_1) kq) ?_
    show Go p e below s _ _ T (mkF m 2 #[.val (.int p0), .val (.long x1), .second, .val (.long x2), .second, .unset, .unset, .unset, .unset, .unset, .unset, .unset, .unset, .unset, .unset] [(.long (0 : Int64)), (.long x1)])
    refine Go.of (fun _ kq => XS.lcmp X.here hx rfl (hb hby at_2) rfl kq) ?_
    show Go p e below s _ _ T (mkF m 3 #[.val (.int p0), .val (.long x1), .second, .val (.long x2), .second, .unset, .unset, .unset, .unset, .unset, .unset, .unset, .unset, .unset, .unset] [(.int (lcmpW x1 (0 : Int64)))])
    by_cases hc3 : x1 = (0 : Int64)
    · refine Go.of (fun _ kq => XS.ifNo X.here hx rfl (hb hby at_3) rfl (cZeq hc3).2 kq) ?_
      show Go p e below s _ _ T (mkF m 6 #[.val (.int p0), .val (.long x1), .second, .val (.long x2), .second, .unset, .unset, .unset, .unset, .unset, .unset, .unset, .unset, .unset, .unset] [])
      refine Go.of (X.ldc2Long hx hown (mvT hZ (hw _ (List.mem_of_getElem? (i := 38) rfl))) (g := (mkF m 6 #[.val (.int p0), .val (.long x1), .second, .val (.long x2), .second, .unset, .unset, .unset, .unset, .unset, .unset, .unset, .unset, .unset, .unset] [])) rfl (hb hby at_6)) ?_
      show Go p e below s _ _ T (mkF m 9 #[.val (.int p0), .val (.long x1), .second, .val (.long x2), .second, .unset, .unset, .unset, .unset, .unset, .unset, .unset, .unset, .unset, .unset] [(.long (-9223372036854775808 : Int64))])
      refine Go.of (fun _ kq => XS.goto X.here hx rfl (pc0 := 9) (pc' := 13) rfl (hb hby at_9) (by decide) (by decide) kq) ?_
      show Go p e below s _ _ T (mkF m 13 #[.val (.int p0), .val (.long x1), .second, .val (.long x2), .second, .unset, .unset, .unset, .unset, .unset, .unset, .unset, .unset, .unset, .unset] [(.long (-9223372036854775808 : Int64))])
      exact jn13 _ (by decide)
    · refine Go.of (fun _ kq => XS.ifYes X.here hx rfl (pc0 := 3) (pc' := 12) rfl (hb hby at_3) rfl (cFeq hc3).2 (by decide) (by decide) kq) ?_
      show Go p e below s _ _ T (mkF m 12 #[.val (.int p0), .val (.long x1), .second, .val (.long x2), .second, .unset, .unset, .unset, .unset, .unset, .unset, .unset, .unset, .unset, .unset] [])
      refine Go.of (fun _ kq => XS.lloadN X.here hx rfl (hb hby at_12) rfl kq) ?_
      show Go p e below s _ _ T (mkF m 13 #[.val (.int p0), .val (.long x1), .second, .val (.long x2), .second, .unset, .unset, .unset, .unset, .unset, .unset, .unset, .unset, .unset, .unset] [(.long x1)])
      exact jn13 _ hc3
set_option maxRecDepth 65536 in
set_option maxHeartbeats 40000000 in
theorem comes_1 {Post : Tables → Env → Array Value → State → Outcome → State → Prop} (hpost : ∀ tb e args s v u, (limb_1_1.after args s (.returned v) u = true ∧ limb_1_2.after args s (.returned v) u = true ∧ True) → FrameEnd s (.returned v) u (Jvm.fieldLocs frame_1_writes args s ++ Jvm.arrayLocs frame_1_arrays args s ++ Jvm.staticLocs frame_1_statics s) 16 128 → Post tb e args s (.returned v) u) :
    ArmFor flags0 classFile x code maxLocals ret World_1 tables_1 room_1 Calls_1 rest_1 Pre_1 Post := by
  intro l hfl _ _ p e ha hc hk s m args below hf hA hF happ hP
  obtain ⟨hcalls, hrest, hpre⟩ := hP
  obtain ⟨-, -, -, hnamed, -, -, -, hat⟩ := (Spec.applies_iff hf).mp happ
  obtain ⟨hg, hn⟩ := and_e (Cond.before_iff.mp (show (Jvm.Cond.and given_1 narrow_1).before args s = true from hpre))
  obtain ⟨gc, g0⟩ := and_e hg
  obtain ⟨k0, g1⟩ := and_e g0
  obtain ⟨k1, g2⟩ := and_e g1
  obtain ⟨w0, w1, w2, rfl⟩ : ∃ w0 w1 w2 : Value, args = #[w0, w1, w2] := by
    have hs : args.size = 3 := by simpa [Cond.value, given_1] using gc
    obtain ⟨L⟩ := args
    match L, hs with
    | [w0, w1, w2], _ => exact ⟨w0, w1, w2, rfl⟩
  have hw := fun d (hd : d ∈ tables_1) => atoms_spec (ws := Jvm.Cond.code x code maxLocals ret :: tables_1) hat d (List.mem_cons_of_mem _ hd)
  obtain ⟨i0, ei0⟩ := is_v k0
  obtain rfl : w0 = (.int i0) := Option.some.inj ei0
  obtain ⟨i1, ei1⟩ := isL_v k1
  obtain rfl : w1 = (.long i1) := Option.some.inj ei1
  obtain ⟨i2, ei2⟩ := isL_v g2
  obtain rfl : w2 = (.long i2) := Option.some.inj ei2
  obtain ⟨n, o, h1, h2, h3, _, L, rfl, ⟨rfl, N⟩, hq⟩ := rm0 (l := l) (Z := s) hw i0 i1 i2 s.heap s.heap.size (Nat.le_refl _) p e ha hc hk s m _ below hf ((Spec.applies_iff_loose hf).mp happ).1 ⟨rfl, State.Warmed39.refl s, rfl⟩ trivial
  refine ⟨n, _, h1, h2, h3, hpost _ _ _ _ _ _ ⟨Cond.after_iff.mpr rfl, Cond.after_iff.mpr (eq_i res_at (Term.int_eval (1)) rfl), trivial⟩ ⟨hq.1, hq.2.1, (hq.2.2.sift fun y hy => Or.inr (N y hy)).mono (by decide) (by decide)⟩⟩
theorem main_1_1 : Claimed_1_1 := comes_1 fun _ _ _ _ _ _ h hF => ⟨h.1, hF⟩
theorem main_1_2 : Claimed_1_2 := comes_1 fun _ _ _ _ _ _ h hF => ⟨h.2.1, hF⟩
end Jvm.Pilot.@@N@@
namespace Jvm.Pilot.@@N@@
open Jvm Jvm.ClassFile Sem Op Lib Jvm.Free Jvm.Stand Jvm.Pilot.@@N@@.Jvm.D
/-! MADE BY PROGRAM (witnessworld.py) out of the Statement's table words and the real class files: 11 classes; the members and pool entries that the words name. The judged class is class 1, her method 1. -/
namespace start1
open Jvm.ClassFile
def u (s : String) : CpInfo := .utf8 (stringToUtf16 s)
/-- a pool by its gaps: so many unusable entries, then the entry; so many at the end -/
def gap : Nat → List CpInfo → List CpInfo
  | 0, r => r
  | n + 1, r => .unusable :: gap n r
def poolList (es : List (Nat × CpInfo)) (last : Nat) : List CpInfo := es.foldr (fun e r => gap e.1 (e.2 :: r)) (gap last [])
def pool (es : List (Nat × CpInfo)) (last : Nat) : Array CpInfo := ⟨poolList es last⟩
def fileOf (pool : Array CpInfo) (this : Nat) (attrs : Array Attribute := #[]) (ms : Array MethodInfo := #[]) (fl : Nat := 33) (sup : Nat := 0) (ifs : Array Nat := #[]) (fds : Array FieldInfo := #[]) : ClassFile where
  minorVersion := 0
  majorVersion := 65
  constantPool := pool
  accessFlags := fl
  thisClass := this
  superClass := sup
  interfaces := ifs
  fields := fds
  methods := ms
  attributes := attrs
def plain (name : String) (sup : Option ClassId) : Class where
  name := name
  kind := .ordinary
  loader := none
  accessFlags := 33
  super := sup
  interfaces := #[]
  cf := none
  fields := #[]
  methods := #[]
  instanceTypes := #[]
  staticTypes := #[]
  resolved := #[]
  callSites := []
  init := .initialized
  statics := none
  mirror := none

def pool0 : Array CpInfo := pool [(5, u "<init>"), (0, u "()V"), (1, .class_ 10), (1, u "java/lang/Object")] 113

def k0c0 : Code := { maxStack := 0, maxLocals := 1, code := object_method_1_code, exceptionTable := #[], attributes := #[] }
def k0m0 : Method := { name := "<init>", desc := "()V", sig := { parameters := [], returnType := none }, accessFlags := 1, code := some k0c0 }
/-- java/lang/Object -/
def k0 : Class := { plain "java/lang/Object" none with
  accessFlags := 33
  interfaces := #[]
  cf := some (fileOf pool0 8 #[] #[{ accessFlags := 1, nameIndex := 5, descriptorIndex := 6, attributes := #[] }] 33 0 #[] #[])
  fields := #[]
  methods := #[k0m0]
  instanceTypes := #[]
  staticTypes := #[]
  resolved := Array.replicate 124 none
  statics := none }

def pool1 : Array CpInfo := pool [(2, .class_ 4), (1, u "java/lang/Object"), (0, u "<init>"), (0, u "()V"), (2, .long 9223372036854775808), (1, .class_ 12), (0, u "com/example/fixpoint/fixpoint/IdBitmap"), (0, .methodref 11 14), (0, .nameAndType 5 15), (0, u "(I)V"), (0, .methodref 11 17), (0, .nameAndType 18 19), (0, u "add"), (0, u "(IJ)V"), (0, .methodref 11 21), (0, .nameAndType 22 23), (0, u "bits"), (0, u "(I)J"), (0, .methodref 11 25), (0, .nameAndType 26 27), (0, u "blockCount"), (0, u "()I"), (0, .methodref 11 29), (0, .nameAndType 30 31), (0, u "block"), (0, u "(I)I"), (0, .class_ 33), (0, u "com/example/fixpoint/fixpoint/IdBitmapAddPinLaw"), (2, u "law"), (0, u "(IJJ)Z")] 3

def k1m0 : Method := { name := "<init>", desc := "()V", sig := { parameters := [], returnType := none }, accessFlags := 1, code := none }
def k1c1 : Code := { maxStack := 6, maxLocals := 15, code := code, exceptionTable := #[], attributes := #[] }
def k1m1 : Method := { name := "law", desc := "(IJJ)Z", sig := { parameters := [.int, .long, .long], returnType := some .boolean }, accessFlags := 9, code := some k1c1 }
/-- com/example/fixpoint/fixpoint/IdBitmapAddPinLaw -/
def k1 : Class := { plain "com/example/fixpoint/fixpoint/IdBitmapAddPinLaw" (some 0) with
  accessFlags := 49
  interfaces := #[]
  cf := some (fileOf pool1 32 #[] #[{ accessFlags := 1, nameIndex := 5, descriptorIndex := 6, attributes := #[] }, { accessFlags := 9, nameIndex := 36, descriptorIndex := 37, attributes := #[] }] 49 2 #[] #[])
  fields := #[]
  methods := #[k1m0, k1m1]
  instanceTypes := #[]
  staticTypes := #[]
  resolved := Array.replicate 41 none
  statics := none }

def pool2 : Array CpInfo := pool [(1, .methodref 2 3), (0, .class_ 4), (0, .nameAndType 5 6), (0, u "java/lang/Object"), (0, u "<init>"), (0, u "()V"), (0, .long 63), (1, .fieldref 10 11), (0, .class_ 12), (0, .nameAndType 13 14), (0, u "com/example/fixpoint/fixpoint/IdBitmap"), (0, u "words"), (0, u "[J"), (0, .fieldref 10 16), (0, .nameAndType 17 18), (0, u "blocks"), (0, u "[I"), (2, u "add"), (0, u "(IJ)V"), (0, .fieldref 10 24), (0, .nameAndType 25 26), (0, u "count"), (0, u "I"), (15, u "(I)V"), (3, u "blockCount"), (0, u "()I"), (0, u "block"), (0, u "(I)I"), (0, u "bits"), (0, u "(I)J")] 5

def k2c0 : Code := { maxStack := 5, maxLocals := 2, code := prog_55_method_1_code, exceptionTable := #[], attributes := #[] }
def k2m0 : Method := { name := "<init>", desc := "(I)V", sig := { parameters := [.int], returnType := none }, accessFlags := 0, code := some k2c0 }
def k2c1 : Code := { maxStack := 6, maxLocals := 6, code := prog_55_method_3_code, exceptionTable := #[], attributes := #[] }
def k2m1 : Method := { name := "add", desc := "(IJ)V", sig := { parameters := [.int, .long], returnType := none }, accessFlags := 0, code := some k2c1 }
def k2c2 : Code := { maxStack := 1, maxLocals := 1, code := prog_55_method_4_code, exceptionTable := #[], attributes := #[] }
def k2m2 : Method := { name := "blockCount", desc := "()I", sig := { parameters := [], returnType := some .int }, accessFlags := 0, code := some k2c2 }
def k2c3 : Code := { maxStack := 2, maxLocals := 2, code := prog_55_method_5_code, exceptionTable := #[], attributes := #[] }
def k2m3 : Method := { name := "block", desc := "(I)I", sig := { parameters := [.int], returnType := some .int }, accessFlags := 0, code := some k2c3 }
def k2c4 : Code := { maxStack := 2, maxLocals := 2, code := prog_55_method_6_code, exceptionTable := #[], attributes := #[] }
def k2m4 : Method := { name := "bits", desc := "(I)J", sig := { parameters := [.int], returnType := some .long }, accessFlags := 0, code := some k2c4 }
/-- com/example/fixpoint/fixpoint/IdBitmap -/
def k2 : Class := { plain "com/example/fixpoint/fixpoint/IdBitmap" (some 0) with
  accessFlags := 48
  interfaces := #[]
  cf := some (fileOf pool2 10 #[] #[{ accessFlags := 0, nameIndex := 5, descriptorIndex := 42, attributes := #[] }, { accessFlags := 0, nameIndex := 21, descriptorIndex := 22, attributes := #[] }, { accessFlags := 0, nameIndex := 46, descriptorIndex := 47, attributes := #[] }, { accessFlags := 0, nameIndex := 48, descriptorIndex := 49, attributes := #[] }, { accessFlags := 0, nameIndex := 50, descriptorIndex := 51, attributes := #[] }] 48 2 #[] #[{ accessFlags := 18, nameIndex := 13, descriptorIndex := 14, attributes := #[] }, { accessFlags := 18, nameIndex := 17, descriptorIndex := 18, attributes := #[] }, { accessFlags := 2, nameIndex := 25, descriptorIndex := 26, attributes := #[] }])
  fields := #[{ name := "words", type := (.array .long), accessFlags := 18, slot := 0, constantValue := 0 }, { name := "blocks", type := (.array .int), accessFlags := 18, slot := 1, constantValue := 0 }, { name := "count", type := .int, accessFlags := 2, slot := 2, constantValue := 0 }]
  methods := #[k2m0, k2m1, k2m2, k2m3, k2m4]
  instanceTypes := #[(.array .long), (.array .int), .int]
  staticTypes := #[]
  resolved := Array.replicate 57 none
  statics := none }

def pool3 : Array CpInfo := pool [(1, u "java/lang/Cloneable"), (0, .class_ 1), (0, u "java/lang/Object"), (0, .class_ 3)] 3

/-- java/lang/Cloneable -/
def k3 : Class := { plain "java/lang/Cloneable" (some 0) with
  accessFlags := 1537
  interfaces := #[]
  cf := some (fileOf pool3 2 #[] #[] 1537 4 #[] #[])
  fields := #[]
  methods := #[]
  instanceTypes := #[]
  staticTypes := #[]
  resolved := Array.replicate 8 none
  statics := none }

def pool4 : Array CpInfo := pool [(1, u "java/io/Serializable"), (0, .class_ 1), (0, u "java/lang/Object"), (0, .class_ 3)] 3

/-- java/io/Serializable -/
def k4 : Class := { plain "java/io/Serializable" (some 0) with
  accessFlags := 1537
  interfaces := #[]
  cf := some (fileOf pool4 2 #[] #[] 1537 4 #[] #[])
  fields := #[]
  methods := #[]
  instanceTypes := #[]
  staticTypes := #[]
  resolved := Array.replicate 8 none
  statics := none }

/-- the primitive byte -/
def k5 : Class := { plain "byte" none with kind := .primitive 'B', accessFlags := 0x411 }
/-- [B -/
def k6 : Class := { plain "[B" (some 0) with kind := .array 5 .byte, interfaces := #[3, 4], accessFlags := 1041 }

/-- the primitive int -/
def k7 : Class := { plain "int" none with kind := .primitive 'I', accessFlags := 0x411 }
/-- [I -/
def k8 : Class := { plain "[I" (some 0) with kind := .array 7 .int, interfaces := #[3, 4], accessFlags := 1041 }

/-- the primitive long -/
def k9 : Class := { plain "long" none with kind := .primitive 'J', accessFlags := 0x411 }
/-- [J -/
def k10 : Class := { plain "[J" (some 0) with kind := .array 9 .long, interfaces := #[3, 4], accessFlags := 1041 }

def heap : Heap := #[]
def classes : Array Class := #[k0, k1, k2, k3, k4, k5, k6, k7, k8, k9, k10]
def interned : List (Array UInt16 × Addr) := []
def slotsUsed : Nat := 0
def theMethod : MethodId := ⟨1, 1⟩
def args0 : Array Value := #[.int 5, .long 7, .long 9]
def aboutOver (below : List Frame) : State where
  vm := { classes := classes, interned := interned.toArray }
  heap := heap
  slotsUsed := slotsUsed
  threads := #[{ frames := .invoking theMethod args0 :: below }]
def below0 : List Frame := [.native { method := ⟨0, 0⟩, args := #[] }]
def about1 : State := aboutOver below0
def p0 : Program := .bare "" "" ""
def e0 : Env := launch0.env 0 0 0
theorem w_frames : about1.frames = Frame.invoking theMethod args0 :: below0 := rfl
set_option maxRecDepth 65536 in
theorem w_args : argsFit about1.vm theMethod args0 = true := by decide +kernel
set_option maxRecDepth 65536 in
theorem w_heap : heapFits about1 = true := by decide +kernel
set_option maxRecDepth 65536 in
theorem w_runnable : about1.curStatus? = some .runnable := by decide +kernel
set_option maxRecDepth 65536 in
theorem w_alone : about1.alone = true := by decide +kernel
set_option maxRecDepth 65536 in
theorem w_named : about1.methodNamed? x = some theMethod := by decide +kernel
set_option maxRecDepth 65536 in
theorem w_hears : about1.hears theMethod below0 = true := by decide +kernel
set_option maxRecDepth 65536 in
theorem w_ripe : about1.ripe theMethod args0 below0 = true := by decide +kernel
theorem w_running : about1.status = .running := rfl
set_option maxRecDepth 65536 in
theorem w_room : about1.hasRoom e0.platform room_1 = true :=
  launch0.hasRoom_least _ room_1 (by decide +kernel) (by decide +kernel) (by decide +kernel) (by decide +kernel) (by decide +kernel) (by decide +kernel)
theorem allAtoms_all (ts : List Jvm.Cond) (a : Array Jvm.Value) (st : Jvm.State) : (allAtoms ts).before a st = ts.all (fun c => c.before a st) := by
  induction ts with
  | nil => rfl
  | cons c t ih =>
    show (Jvm.Cond.and c (allAtoms t)).before a st = _
    rw [Jvm.Cond.before_and, ih, List.all_cons]
def words1 : List Jvm.Cond := Jvm.Cond.code x code maxLocals ret :: tables_1
/-- a 'code' word, met by the world's own term for the bytes: nothing is compared byte by byte -/
theorem code_word {y : MethodName} {bytes : ByteArray} {mx : Nat} {rt : Option FieldType} {a : Array Value} {s : State} {m : MethodId} {meth : Method} {c : Code} (h1 : s.methodNamed? y = some m) (h2 : s.vm.method? m = some meth) (h3 : meth.code = some c) (h4 : c.code = bytes)
    (h5 : (c.maxLocals == mx && c.exceptionTable.isEmpty && decide (c.maxStack ≤ mostOperands) && decide (meth.sig.returnType = rt) && !meth.locks && decide (parseMethodDescriptor y.desc = some meth.sig)) = true) : (Jvm.Cond.code y bytes mx rt).before a s = true := by
  simp only [Bool.and_eq_true, beq_iff_eq, Bool.not_eq_true', decide_eq_true_eq] at h5
  obtain ⟨⟨⟨⟨⟨g1, g2⟩, g3⟩, g4⟩, g5⟩, g6⟩ := h5
  simp [Cond.before, Cond.holds, Cond.value, h1, h2, h3, h4, g1, g2, g3, g4, g5, g6]
def isCode : Jvm.Cond → Bool
  | .code _ _ _ _ => true
  | _ => false
theorem all_split {L : List Jvm.Cond} {P : Jvm.Cond → Bool} (h1 : L.all (fun c => isCode c || P c) = true) (h2 : ∀ c ∈ L.filter isCode, P c = true) : L.all P = true := by
  refine List.all_eq_true.mpr fun c hc => ?_
  have h := List.all_eq_true.mp h1 c hc
  rcases Bool.eq_false_or_eq_true (isCode c) with hi | hi
  · exact h2 c (List.mem_filter.mpr ⟨hc, hi⟩)
  · simpa [hi] using h
set_option maxRecDepth 65536 in
theorem w_c0 : (Jvm.Cond.code x code maxLocals ret).before args0 about1 = true := code_word (m := ⟨1, 1⟩) (meth := k1m1) (c := k1c1) (by decide +kernel) rfl rfl rfl (by decide +kernel)
set_option maxRecDepth 65536 in
theorem w_c1 : (Jvm.Cond.code ({ cls := "com/example/fixpoint/fixpoint/IdBitmap", name := "<init>", desc := "(I)V" } : Jvm.MethodName) prog_55_method_1_code (2 : Nat) (Option.none : Option Jvm.ClassFile.FieldType)).before args0 about1 = true := code_word (m := ⟨2, 0⟩) (meth := k2m0) (c := k2c0) (by decide +kernel) rfl rfl rfl (by decide +kernel)
set_option maxRecDepth 65536 in
theorem w_c2 : (Jvm.Cond.code ({ cls := "java/lang/Object", name := "<init>", desc := "()V" } : Jvm.MethodName) object_method_1_code (1 : Nat) (Option.none : Option Jvm.ClassFile.FieldType)).before args0 about1 = true := code_word (m := ⟨0, 0⟩) (meth := k0m0) (c := k0c0) (by decide +kernel) rfl rfl rfl (by decide +kernel)
set_option maxRecDepth 65536 in
theorem w_c3 : (Jvm.Cond.code ({ cls := "com/example/fixpoint/fixpoint/IdBitmap", name := "add", desc := "(IJ)V" } : Jvm.MethodName) prog_55_method_3_code (6 : Nat) (Option.none : Option Jvm.ClassFile.FieldType)).before args0 about1 = true := code_word (m := ⟨2, 1⟩) (meth := k2m1) (c := k2c1) (by decide +kernel) rfl rfl rfl (by decide +kernel)
set_option maxRecDepth 65536 in
theorem w_c4 : (Jvm.Cond.code ({ cls := "com/example/fixpoint/fixpoint/IdBitmap", name := "bits", desc := "(I)J" } : Jvm.MethodName) prog_55_method_6_code (2 : Nat) (Option.some Jvm.ClassFile.FieldType.long)).before args0 about1 = true := code_word (m := ⟨2, 4⟩) (meth := k2m4) (c := k2c4) (by decide +kernel) rfl rfl rfl (by decide +kernel)
set_option maxRecDepth 65536 in
theorem w_c5 : (Jvm.Cond.code ({ cls := "com/example/fixpoint/fixpoint/IdBitmap", name := "blockCount", desc := "()I" } : Jvm.MethodName) prog_55_method_4_code (1 : Nat) (Option.some Jvm.ClassFile.FieldType.int)).before args0 about1 = true := code_word (m := ⟨2, 2⟩) (meth := k2m2) (c := k2c2) (by decide +kernel) rfl rfl rfl (by decide +kernel)
set_option maxRecDepth 65536 in
theorem w_c6 : (Jvm.Cond.code ({ cls := "com/example/fixpoint/fixpoint/IdBitmap", name := "block", desc := "(I)I" } : Jvm.MethodName) prog_55_method_5_code (2 : Nat) (Option.some Jvm.ClassFile.FieldType.int)).before args0 about1 = true := code_word (m := ⟨2, 3⟩) (meth := k2m3) (c := k2c3) (by decide +kernel) rfl rfl rfl (by decide +kernel)
def codes1 : List Jvm.Cond := [Jvm.Cond.code x code maxLocals ret, Jvm.Cond.code ({ cls := "com/example/fixpoint/fixpoint/IdBitmap", name := "<init>", desc := "(I)V" } : Jvm.MethodName) prog_55_method_1_code (2 : Nat) (Option.none : Option Jvm.ClassFile.FieldType), Jvm.Cond.code ({ cls := "java/lang/Object", name := "<init>", desc := "()V" } : Jvm.MethodName) object_method_1_code (1 : Nat) (Option.none : Option Jvm.ClassFile.FieldType), Jvm.Cond.code ({ cls := "com/example/fixpoint/fixpoint/IdBitmap", name := "add", desc := "(IJ)V" } : Jvm.MethodName) prog_55_method_3_code (6 : Nat) (Option.none : Option Jvm.ClassFile.FieldType), Jvm.Cond.code ({ cls := "com/example/fixpoint/fixpoint/IdBitmap", name := "bits", desc := "(I)J" } : Jvm.MethodName) prog_55_method_6_code (2 : Nat) (Option.some Jvm.ClassFile.FieldType.long), Jvm.Cond.code ({ cls := "com/example/fixpoint/fixpoint/IdBitmap", name := "blockCount", desc := "()I" } : Jvm.MethodName) prog_55_method_4_code (1 : Nat) (Option.some Jvm.ClassFile.FieldType.int), Jvm.Cond.code ({ cls := "com/example/fixpoint/fixpoint/IdBitmap", name := "block", desc := "(I)I" } : Jvm.MethodName) prog_55_method_5_code (2 : Nat) (Option.some Jvm.ClassFile.FieldType.int)]
set_option maxRecDepth 65536 in
theorem codes_eq : words1.filter isCode = codes1 := rfl
theorem w_codes : ∀ c ∈ words1.filter isCode, c.before args0 about1 = true := by
  rw [codes_eq]
  intro c hc
  simp only [codes1, List.mem_cons, List.not_mem_nil, or_false] at hc
  rcases hc with rfl | rfl | rfl | rfl | rfl | rfl | rfl
  · exact w_c0
  · exact w_c1
  · exact w_c2
  · exact w_c3
  · exact w_c4
  · exact w_c5
  · exact w_c6
set_option maxRecDepth 65536 in
theorem w_t1 : (words1.take 24).all (fun c => isCode c || c.before args0 about1) = true := by decide +kernel
set_option maxRecDepth 65536 in
theorem w_t2 : (words1.drop 24).all (fun c => isCode c || c.before args0 about1) = true := by decide +kernel
theorem w_tables : (allAtoms (Jvm.Cond.code x code maxLocals ret :: tables_1)).before args0 about1 = true := by
  rw [allAtoms_all]
  show words1.all (fun c => c.before args0 about1) = true
  refine all_split ?_ w_codes
  rw [← List.take_append_drop 24 words1, List.all_append, w_t1, w_t2]
  rfl
set_option maxRecDepth 65536 in
theorem w_case : (Jvm.Cond.and given_1 narrow_1).before args0 about1 = true := by decide +kernel
theorem w_applies : (headSpec (Jvm.Cond.code x code maxLocals ret :: tables_1) room_1).applies x e0.platform about1 = true :=
  (Spec.applies_iff w_frames).mpr ⟨w_running, w_runnable, w_alone, w_named, w_hears, w_ripe, w_room, w_tables⟩
theorem atStart : AtStart classFile x code maxLocals ret World_1 tables_1 room_1 Calls_1 rest_1 Pre_1 launch0 p0 e0 about1 theMethod args0 below0 :=
  ⟨lists_1, trivial, launch0.admits_env _ _ _, launch0.least_env, fairChoices_fair.cas, fairChoices_fair.clock, w_frames, w_args, w_heap, w_applies, trivial, trivial, w_case⟩
end start1
theorem witness_1 : WitnessClaimed_1 := ⟨start1.p0, start1.e0, start1.about1, start1.theMethod, start1.args0, start1.below0, start1.atStart⟩
end Jvm.Pilot.@@N@@
