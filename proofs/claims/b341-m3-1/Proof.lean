import JvmDerived
import JvmDerived.Pilot.@@N@@Statement
import JvmDerived.Pilot.@@N@@Code
set_option linter.unusedVariables false
set_option linter.unusedSimpArgs false
namespace Jvm.Pilot.@@N@@
open Jvm Jvm.ClassFile Sem Op Lib Jvm.Free Jvm.Stand Jvm.LawKit Jvm.RoadKit Bundle Jvm.Pilot.@@N@@.Jvm.D

section Kit
/-- The run goes on from the state T with the frame f on top and comes back to the caller, and Q holds of what it returned, of the heap and of the places written. -/
def Go (p : Program) (e : Env) (below : List Frame) (s : State) (R : Room) (Q : Option Value → Heap → List Loc → Prop) (T : State) (f : JFrame) : Prop :=
  ∃ s₂ o, Steps p.tables e below (T.setTop f) s₂ ∧ s₂.status = .running ∧ Ended s₂ below o ∧ ∃ v L, o = .returned v ∧ Q v s₂.heap L ∧ FrameEnd s o s₂ L R.cells R.slots
/-- a body's contract -/
def Met (l : Launch) (Z : State) (y : MethodName) (bytes : ByteArray) (maxL : Nat) (ret : Option FieldType) (ws : List Jvm.Cond) (rm : Room) (as : Array Value) (h0 : Heap) (Q : Option Value → Heap → List Loc → Prop) : Prop :=
  MetFree l y (head1 (Jvm.Cond.code y bytes maxL ret :: ws) rm) (fun a U => a = as ∧ Z.Warmed39 U.vm ∧ U.heap = h0) (fun _ _ _ _ _ => True) (fun _ U o U' => ∃ v L, o = .returned v ∧ Q v U'.heap L ∧ FrameEnd U o U' L rm.cells rm.slots)
theorem Met.mk {l : Launch} {Z : State} {y : MethodName} {bytes : ByteArray} {maxL : Nat} {ret : Option FieldType} {ws : List Jvm.Cond} {rm : Room} {as : Array Value} {h0 : Heap} {Q : Option Value → Heap → List Loc → Prop} (hp : plainFor y = true)
    (body : ∀ (p : Program) (e : Env) (s : State) (m : MethodId) (below : List Frame) (meth : Method) (c : Code) (T : State), p.tables.exec = Jvm.exec → c.code = bytes → c.maxLocals = maxL → s.vm.findClass y.cls = some m.cls → meth.name = y.name → meth.sig.returnType = ret → meth.locks = false → Z.Warmed39 s.vm →
      Stand p l e rm s m as below meth c T [] 0 0 → T.heap = h0 → Go p e below s rm Q T (entryFrame m as maxL)) : Met l Z y bytes maxL ret ws rm as h0 Q := by
  refine MetFree.of_bodySF hp hisR ?_
  intro p e s m args below meth c s₁ Bd hml0 hP hK
  obtain ⟨rfl, hZ, hh⟩ := hP
  exact body p e s m below meth c s₁ Bd.exec Bd.bytes hml0 (findClass_of_methodNamed Bd.named) (name_of_methodNamed Bd.named Bd.method).1 Bd.returns (BodyLoose.notSynchronized Bd) hZ (Stand.of_body Bd) (by rw [← hh, Bd.state]; rfl)
variable {p : Program} {l : Launch} {e : Env} {R : Room} {s : State} {m : MethodId} {args : Array Value} {below : List Frame} {meth : Method} {c : Code} {T T' : State} {locs : List Loc} {cells slots : Nat} {R' : Room} {Q : Option Value → Heap → List Loc → Prop} {f f' : JFrame} {Z : State} {a0 : Array Value} {h h' : Heap} {pc : Nat} {Ls : Array Slot} {rest : List Value}
theorem Go.of (h : ∀ t, Steps p.tables e below (T'.setTop f') t → Steps p.tables e below (T.setTop f) t) (g : Go p e below s R Q T' f') : Go p e below s R Q T f := by
  obtain ⟨s₂, o, h1, h2⟩ := g
  exact ⟨s₂, o, h _ h1, h2⟩
theorem Go.cast (q : f = f') (g : Go p e below s R Q T f') : Go p e below s R Q T f := q ▸ g
theorem Go.join {α : Type} (P : α → Prop) (fr : α → JFrame) (k : ∀ x, P x → Go p e below s R Q T (fr x)) (g : (∀ x, P x → Go p e below s R Q T (fr x)) → Go p e below s R Q T f) : Go p e below s R Q T f := g k
theorem Go.joinT {α : Type} (I : α → List Loc → Heap → Prop) (fr : α → JFrame) (k : ∀ x T' locs' h', Stand p l e R s m args below meth c T' locs' cells slots → T'.heap = h' → I x locs' h' → Go p e below s R' Q T' (fr x))
    (g : (∀ x T' locs' h', Stand p l e R s m args below meth c T' locs' cells slots → T'.heap = h' → I x locs' h' → Go p e below s R' Q T' (fr x)) → Go p e below s R' Q T f) : Go p e below s R' Q T f := g k
theorem Go.loop {α : Type} (μ : α → Nat) (I : α → List Loc → Heap → Prop) (fr : α → JFrame)
    (step : ∀ x T' locs' h', Stand p l e R s m args below meth c T' locs' cells slots → T'.heap = h' → I x locs' h' → (∀ y T'' locs'' h'', μ y < μ x → Stand p l e R s m args below meth c T'' locs'' cells slots → T''.heap = h'' → I y locs'' h'' → Go p e below s R' Q T'' (fr y)) → Go p e below s R' Q T' (fr x))
    (x : α) (X : Stand p l e R s m args below meth c T locs cells slots) (eT : T.heap = h) (hI : I x locs h) : Go p e below s R' Q T (fr x) := by
  obtain ⟨n, hn⟩ : ∃ n, μ x < n := ⟨_, Nat.lt_succ_self _⟩
  induction n generalizing x T locs h with
  | zero => exact absurd hn (Nat.not_lt_zero _)
  | succ n ih => exact step x T locs h X eT hI fun y T'' l'' h'' hy X'' e'' I'' => ih y X'' e'' I'' (by omega)
theorem Met.mono {y : MethodName} {bytes : ByteArray} {maxL : Nat} {ret : Option FieldType} {ws : List Jvm.Cond} {rm : Room} {as : Array Value} {h0 : Heap} {Q Q' : Option Value → Heap → List Loc → Prop} (M : Met l Z y bytes maxL ret ws rm as h0 Q) (q : ∀ v h L, Q v h L → Q' v h L) : Met l Z y bytes maxL ret ws rm as h0 Q' := by
  intro p e ha hc hk s m args below hf happ hP hK
  obtain ⟨n, o, h1, h2, h3, v, L, h4, h5, h6⟩ := M p e ha hc hk s m args below hf happ hP hK
  exact ⟨n, o, h1, h2, h3, v, L, h4, q _ _ _ h5, h6⟩
theorem Go.retW {g : JFrame} {v : Option Value} (X : Stand p l e R s m args below meth c T locs cells slots) (hv : meth.sig.returnType = none → v = none) (hlk : meth.locks = false) (hc : cells ≤ R'.cells) (hs : slots ≤ R'.slots) (q : Q v T.heap locs)
    (st : ∀ fs, (∀ (f : JFrame) (acts : List Action), f.method = m → f.locked = none → f.entered = [] → (doReturn e (T.setTop f) acts v).1 = T.setFrames fs) → Steps p.tables e below (T.setTop g) (T.setFrames fs)) : Go p e below s R' Q T g := by
  obtain ⟨fs, hr, hrun, hended, hW, hsame⟩ := X.leave (v := v) hv hlk
  exact ⟨_, _, st fs hr, hrun, hended, _, _, rfl, q, ⟨_, rfl⟩, hW, hsame.mono hc hs⟩
theorem Go.retI {z : Int32} (X : Stand p l e R s m args below meth c T locs cells slots) (hx : p.tables.exec = Jvm.exec) (hret : meth.sig.returnType = some .int) (hlk : meth.locks = false) (hd : decode c.code pc = .ok (.ireturn, 1)) (hc : cells ≤ R'.cells) (hs : slots ≤ R'.slots) (q : Q (some (.int z)) T.heap locs) :
    Go p e below s R' Q T (mkF m pc Ls (.int z :: rest)) :=
  Go.retW X (fun h => by rw [hret] at h; cases h) hlk hc hs q fun fs hr => retOut X hx hret rfl (Or.inl ⟨rfl, Or.inl rfl, z, rfl⟩) hd hr
theorem Go.retJ {z : Int64} (X : Stand p l e R s m args below meth c T locs cells slots) (hx : p.tables.exec = Jvm.exec) (hret : meth.sig.returnType = some .long) (hlk : meth.locks = false) (hd : decode c.code pc = .ok (.lreturn, 1)) (hc : cells ≤ R'.cells) (hs : slots ≤ R'.slots) (q : Q (some (.long z)) T.heap locs) :
    Go p e below s R' Q T (mkF m pc Ls (.long z :: rest)) :=
  Go.retW X (fun h => by rw [hret] at h; cases h) hlk hc hs q fun fs hr => retOut X hx hret rfl (Or.inr (Or.inl ⟨rfl, rfl, z, rfl⟩)) hd hr
theorem Go.retA {w : Value} {t : FieldType} (X : Stand p l e R s m args below meth c T locs cells slots) (hx : p.tables.exec = Jvm.exec) (hret : meth.sig.returnType = some t) (ht : t.isReference = true) (hw : w.isRef = true) (hn : narrow t w = w) (hlk : meth.locks = false) (hd : decode c.code pc = .ok (.areturn, 1)) (hc : cells ≤ R'.cells) (hs : slots ≤ R'.slots) (q : Q (some w) T.heap locs) :
    Go p e below s R' Q T (mkF m pc Ls (w :: rest)) :=
  Go.retW X (fun h => by rw [hret] at h; cases h) hlk hc hs q fun fs hr => retOut X hx hret hn (Or.inr (Or.inr (Or.inr (Or.inr ⟨rfl, ht, hw⟩)))) hd hr
theorem Go.retN {z : Int32} {t : FieldType} (X : Stand p l e R s m args below meth c T locs cells slots) (hx : p.tables.exec = Jvm.exec) (hret : meth.sig.returnType = some t) (ht : t = .boolean ∨ t = .byte ∨ t = .char ∨ t = .short) (hlk : meth.locks = false) (hd : decode c.code pc = .ok (.ireturn, 1)) (hc : cells ≤ R'.cells) (hs : slots ≤ R'.slots) (q : Q (some (.int (nar t z))) T.heap locs) :
    Go p e below s R' Q T (mkF m pc Ls (.int z :: rest)) :=
  Go.retW X (fun h => by rw [hret] at h; cases h) hlk hc hs q fun fs hr => RoadKit.retN X hx hret ht hd hr
theorem Go.retV (X : Stand p l e R s m args below meth c T locs cells slots) (hx : p.tables.exec = Jvm.exec) (hret : meth.sig.returnType = none) (hlk : meth.locks = false) (hd : decode c.code pc = .ok (.return_, 1)) (hc : cells ≤ R'.cells) (hs : slots ≤ R'.slots) (q : Q none T.heap locs) :
    Go p e below s R' Q T (mkF m pc Ls []) :=
  Go.retW X (fun _ => rfl) hlk hc hs q fun fs hr => X.returnOut hx hret hd hr
/-! fields -/
theorem Go.getF {own R0 O n d : String} {index : Nat} {a : Addr} {v : Value} (X : Stand p l e R s m args below meth c T locs cells slots) (hx : p.tables.exec = Jvm.exec) (hZ : Z.Warmed39 s.vm) (hown : s.vm.findClass own = some m.cls) (w : (Jvm.Cond.fieldLink own index R0 n d).before a0 Z = true) (via : Via Z R0 O n d) (eT : T.heap = h) (F : Fld Z h a O n d v)
    (hd : decode c.code pc = .ok (.getfield index, 3)) (k : ∀ T', Stand p l e R s m args below meth c T' locs cells slots → T'.heap = h → Go p e below s R' Q T' (mkF m (pc + 3) Ls (v :: rest))) : Go p e below s R' Q T (mkF m pc Ls (.ref a :: rest)) := by
  obtain ⟨T', X', e', st⟩ := RoadKit.getF X hx hZ hown (host := "") (Or.inl w) via eT F (g := mkF m pc Ls (.ref a :: rest)) rfl rfl hd
  exact Go.of st (k T' X' e')
theorem Go.getFN {own R0 O n d host : String} {index : Nat} {a : Addr} {v : Value} (X : Stand p l e R s m args below meth c T locs cells slots) (hx : p.tables.exec = Jvm.exec) (hZ : Z.Warmed39 s.vm) (hown : s.vm.findClass own = some m.cls) (w : (Jvm.Cond.fieldLinkNest own index R0 n d host).before a0 Z = true) (via : Via Z R0 O n d) (eT : T.heap = h) (F : Fld Z h a O n d v)
    (hd : decode c.code pc = .ok (.getfield index, 3)) (k : ∀ T', Stand p l e R s m args below meth c T' locs cells slots → T'.heap = h → Go p e below s R' Q T' (mkF m (pc + 3) Ls (v :: rest))) : Go p e below s R' Q T (mkF m pc Ls (.ref a :: rest)) := by
  obtain ⟨T', X', e', st⟩ := RoadKit.getF X hx hZ hown (Or.inr w) via eT F (g := mkF m pc Ls (.ref a :: rest)) rfl rfl hd
  exact Go.of st (k T' X' e')
theorem Go.putF {own R0 O n d C : String} {index kk : Nat} {ty : FieldType} {a : Addr} {v old : Value} (X : Stand p l e R s m args below meth c T locs cells slots) (hx : p.tables.exec = Jvm.exec) (hZ : Z.Warmed39 s.vm) (hown : s.vm.findClass own = some m.cls) (w : (Jvm.Cond.fieldLink own index R0 n d).before a0 Z = true) (via : Via Z R0 O n d) (eT : T.heap = h) (F : Fld Z h a O n d old)
    (E : Exa Z h a C) (L : (Jvm.Cond.lays C O n d).before a0 Z = true ∨ ((Jvm.Cond.laysFinal C O n d).before a0 Z = true ∧ own = O ∧ meth.name = "<init>")) (wi : (Jvm.Cond.instantiable C kk).before a0 Z = true) (hty : parseFieldDescriptor d = some ty) (hn : narrow ty v = v) (hf : fits ty v = true)
    (hd : decode c.code pc = .ok (.putfield index, 3)) (k : ∀ T' h', Stand p l e R s m args below meth c T' (locs ++ [⟨a, RoadKit.slotOf Z O n d⟩]) cells slots → T'.heap = h' → Wr h h' a (RoadKit.slotOf Z O n d) v → Go p e below s R' Q T' (mkF m (pc + 3) Ls rest)) : Go p e below s R' Q T (mkF m pc Ls (v :: .ref a :: rest)) := by
  obtain ⟨T', h', X', e', W, st⟩ := RoadKit.putF X hx hZ hown (host := "") (Or.inl w) via eT F E L wi hty hn hf (g := mkF m pc Ls (v :: .ref a :: rest)) rfl rfl hd
  exact Go.of st (k T' h' X' e' W)
theorem Go.putFN {own R0 O n d C : String} {index kk : Nat} {ty : FieldType} {a : Addr} {z : Int32} {old : Value} (X : Stand p l e R s m args below meth c T locs cells slots) (hx : p.tables.exec = Jvm.exec) (hZ : Z.Warmed39 s.vm) (hown : s.vm.findClass own = some m.cls) (w : (Jvm.Cond.fieldLink own index R0 n d).before a0 Z = true) (via : Via Z R0 O n d) (eT : T.heap = h) (F : Fld Z h a O n d old)
    (E : Exa Z h a C) (L : (Jvm.Cond.lays C O n d).before a0 Z = true ∨ ((Jvm.Cond.laysFinal C O n d).before a0 Z = true ∧ own = O ∧ meth.name = "<init>")) (wi : (Jvm.Cond.instantiable C kk).before a0 Z = true) (hty : parseFieldDescriptor d = some ty) (hn : narrow ty (.int z) = .int (nar ty z)) (hf : fits ty (.int (nar ty z)) = true)
    (hd : decode c.code pc = .ok (.putfield index, 3)) (k : ∀ T' h', Stand p l e R s m args below meth c T' (locs ++ [⟨a, RoadKit.slotOf Z O n d⟩]) cells slots → T'.heap = h' → Wr h h' a (RoadKit.slotOf Z O n d) (.int (nar ty z)) → Go p e below s R' Q T' (mkF m (pc + 3) Ls rest)) : Go p e below s R' Q T (mkF m pc Ls (.int z :: .ref a :: rest)) := by
  obtain ⟨T', h', X', e', W, st⟩ := RoadKit.putFN X hx hZ hown w via eT F E L wi hty hn hf (g := mkF m pc Ls (.int z :: .ref a :: rest)) rfl rfl hd
  exact Go.of st (k T' h' X' e' W)
/-! objects and arrays made -/
theorem Go.newO {own C : String} {index n : Nat} (X : Stand p l e R s m args below meth c T locs cells slots) (hx : p.tables.exec = Jvm.exec) (hZ : Z.Warmed39 s.vm) (hown : s.vm.findClass own = some m.cls) (w : (Jvm.Cond.classLink own index C).before a0 Z = true) (wi : (Jvm.Cond.instantiable C n).before a0 Z = true) (wz : (Jvm.Cond.initialized C).before a0 Z = true) (eT : T.heap = h)
    (hd : decode c.code pc = .ok (.new index, 3)) (hc : cells + 1 ≤ R.cells) (hl : slots + n ≤ R.slots)
    (k : ∀ T' h' a, Stand p l e R s m args below meth c T' locs (cells + 1) (slots + n) → T'.heap = h' → Ext h h' → a = h.size → Exa Z h' a C → (∀ {O nm d : String} {ty : FieldType}, Laid Z a0 C O nm d → parseFieldDescriptor d = some ty → Fld Z h' a O nm d (defaultValue ty)) → Go p e below s R' Q T' (mkF m (pc + 3) Ls (.ref a :: rest))) : Go p e below s R' Q T (mkF m pc Ls rest) := by
  obtain ⟨T', h', X', e', E, A, D, -, st⟩ := RoadKit.newO X hx hZ hown w wi wz eT (g := mkF m pc Ls rest) rfl hd hc hl
  exact Go.of st (k T' h' _ X' e' E rfl A D)
/-- an array: its kind, its length, what each place holds -/
def AV (Z : State) (h : Heap) (a : Addr) (ty : FieldType) (n : Nat) (f : Nat → Value) : Prop := ∃ cl : Cell, Arr Z h a cl ty ∧ cl.slots.size = n ∧ ∀ j, j < n → cl.slots[j]? = some (f j)
def upd (f : Nat → Value) (j : Nat) (v : Value) : Nat → Value := fun i => if i = j then v else f i
def Inb (j : Int32) (n : Nat) : Prop := ¬ j < 0 ∧ j.toNatClampNeg < n
theorem upd_same (f : Nat → Value) (j : Nat) (v : Value) : upd f j v j = v := by simp [upd]
theorem upd_ne (f : Nat → Value) {i j : Nat} (v : Value) (hn : i ≠ j) : upd f j v i = f i := by simp [upd, hn]
theorem AV.lt {a : Addr} {ty : FieldType} {n : Nat} {f : Nat → Value} (V : AV Z h a ty n f) : a < h.size := by obtain ⟨cl, A, -⟩ := V; exact A.lt
theorem AV.ext {a : Addr} {ty : FieldType} {n : Nat} {f : Nat → Value} (V : AV Z h a ty n f) (E : Ext h h') : AV Z h' a ty n f := by obtain ⟨cl, A, r⟩ := V; exact ⟨cl, A.ext E, r⟩
theorem AV.other {a b : Addr} {ty : FieldType} {n : Nat} {f : Nat → Value} {sl : Nat} {v : Value} (V : AV Z h b ty n f) (W : Wr h h' a sl v) (q : b ≠ a) : AV Z h' b ty n f := by obtain ⟨cl, A, r⟩ := V; exact ⟨cl, A.other W q, r⟩
theorem AV.keep {a : Addr} {ty : FieldType} {n : Nat} {f : Nat → Value} {ws : List Addr} (V : AV Z h a ty n f) (K : Keep h h' ws) (q : a ∉ ws) : AV Z h' a ty n f := by obtain ⟨cl, A, r⟩ := V; exact ⟨cl, ⟨K.2.1 a cl A.1 q, A.2⟩, r⟩
theorem AV.set {a : Addr} {ty : FieldType} {n : Nat} {f : Nat → Value} {j : Nat} {v : Value} (V : AV Z h a ty n f) (W : Wr h h' a j v) (hj : j < n) : AV Z h' a ty n (upd f j v) := by
  obtain ⟨cl, A, S, H⟩ := V
  refine ⟨cl.setSlot j v, A.same W, by rw [sz_set]; exact S, fun i hi => ?_⟩
  by_cases q : i = j
  · subst q; simp [upd, Cell.setSlot, S, hj]
  · rw [upd_ne f v q, ← H i hi]; exact Array.getElem?_setIfInBounds_ne (Ne.symm q)
def updJ (f : Nat → Int64) (n : Nat) (q : Int64) : Nat → Int64 := fun j => if j = n then q else f j
def updI (f : Nat → Int32) (n : Nat) (q : Int32) : Nat → Int32 := fun j => if j = n then q else f j
theorem AV.setJ {a : Addr} {ty : FieldType} {n : Nat} {f : Nat → Int64} {j : Nat} {q : Int64} (V : AV Z h a ty n (fun i => .long (f i))) (W : Wr h h' a j (.long q)) (hj : j < n) : AV Z h' a ty n (fun i => .long (updJ f j q i)) := by
  have r := V.set W hj
  have e : upd (fun i => .long (f i)) j (.long q) = fun i => .long (updJ f j q i) := by funext i; unfold upd updJ; split <;> rfl
  rw [← e]; exact r
theorem AV.setI {a : Addr} {ty : FieldType} {n : Nat} {f : Nat → Int32} {j : Nat} {q : Int32} (V : AV Z h a ty n (fun i => .int (f i))) (W : Wr h h' a j (.int q)) (hj : j < n) : AV Z h' a ty n (fun i => .int (updI f j q i)) := by
  have r := V.set W hj
  have e : upd (fun i => .int (f i)) j (.int q) = fun i => .int (updI f j q i) := by funext i; unfold upd updI; split <;> rfl
  rw [← e]; exact r
def updD (f : Nat → UInt64) (n : Nat) (q : UInt64) : Nat → UInt64 := fun j => if j = n then q else f j
theorem AV.setD {a : Addr} {ty : FieldType} {n : Nat} {f : Nat → UInt64} {j : Nat} {q : UInt64} (V : AV Z h a ty n (fun i => .double (f i))) (W : Wr h h' a j (.double q)) (hj : j < n) : AV Z h' a ty n (fun i => .double (updD f j q i)) := by
  have r := V.set W hj
  have e : upd (fun i => .double (f i)) j (.double q) = fun i => .double (updD f j q i) := by funext i; unfold upd updD; split <;> rfl
  rw [← e]; exact r
theorem AV.congr {a : Addr} {ty : FieldType} {n : Nat} {f g : Nat → Value} (V : AV Z h a ty n f) (q : ∀ j, j < n → f j = g j) : AV Z h a ty n g := by
  obtain ⟨cl, A, S, H⟩ := V; exact ⟨cl, A, S, fun j hj => by rw [← q j hj]; exact H j hj⟩
theorem AV.new {a : Addr} {ty : FieldType} {cA : ClassId} {z : Int32} (A : Arr Z h a (newA cA ty z) ty) : AV Z h a ty z.toNatClampNeg (fun _ => defaultValue ty) :=
  ⟨_, A, sz_new _ _ _, fun j hj => by simp [newA, hj]⟩
theorem Inb.not {j : Int32} {n : Nat} (i : Inb j n) {k : Nat} (hk : k = n) : ¬ (j < 0 ∨ k ≤ j.toNatClampNeg) := fun q => q.elim i.1 (fun r => absurd i.2 (by omega))
theorem Go.newP {aty : ArrayType} {n : Int32} (X : Stand p l e R s m args below meth c T locs cells slots) (hx : p.tables.exec = Jvm.exec) (hZ : Z.Warmed39 s.vm) (w : (Jvm.Cond.arrayClass (newarray.typeOf aty)).before a0 Z = true) (eT : T.heap = h) (hd : decode c.code pc = .ok (.newarray aty, 2)) (hn : ¬ n < 0) (cap : Nat) (hcap : n.toNatClampNeg ≤ cap) (hb : cap * 8 ≤ 536870912) (hc : cells + 1 ≤ R.cells) (hl : slots + cap ≤ R.slots)
    (k : ∀ T' h' a, Stand p l e R s m args below meth c T' locs (cells + 1) (slots + cap) → T'.heap = h' → Ext h h' → a = h.size → AV Z h' a (newarray.typeOf aty) n.toNatClampNeg (fun _ => defaultValue (newarray.typeOf aty)) → Go p e below s R' Q T' (mkF m (pc + 2) Ls (.ref a :: rest))) : Go p e below s R' Q T (mkF m pc Ls (.int n :: rest)) := by
  obtain ⟨T', h', cA, X', e', E, A, st⟩ := RoadKit.newP X hx hZ w eT (g := mkF m pc Ls (.int n :: rest)) rfl hd rfl hn hcap hb hc hl
  exact Go.of st (k T' h' _ X' e' E rfl (AV.new A))
theorem Go.stI {a : Addr} {n : Nat} {g : Nat → Value} {j x : Int32} (X : Stand p l e R s m args below meth c T locs cells slots) (hx : p.tables.exec = Jvm.exec) (hZ : Z.Warmed39 s.vm) (eT : T.heap = h) (V : AV Z h a .int n g) (hj : Inb j n) (hd : decode c.code pc = .ok (.iastore, 1))
    (k : ∀ T' h', Stand p l e R s m args below meth c T' (locs ++ [⟨a, j.toNatClampNeg⟩]) cells slots → T'.heap = h' → Wr h h' a j.toNatClampNeg (.int x) → Go p e below s R' Q T' (mkF m (pc + 1) Ls rest)) : Go p e below s R' Q T (mkF m pc Ls (.int x :: .int j :: .ref a :: rest)) := by
  obtain ⟨cl, A, S, H⟩ := V
  obtain ⟨T', h', X', e', W, st⟩ := RoadKit.stI X hx hZ eT A (x := x) (hj.not S) (g := mkF m pc Ls (.int x :: .int j :: .ref a :: rest)) rfl rfl hd
  exact Go.of st (k T' h' X' e' W)
theorem Go.stJ {a : Addr} {n : Nat} {g : Nat → Value} {j : Int32} {x : Int64} (X : Stand p l e R s m args below meth c T locs cells slots) (hx : p.tables.exec = Jvm.exec) (hZ : Z.Warmed39 s.vm) (eT : T.heap = h) (V : AV Z h a .long n g) (hj : Inb j n) (hd : decode c.code pc = .ok (.lastore, 1))
    (k : ∀ T' h', Stand p l e R s m args below meth c T' (locs ++ [⟨a, j.toNatClampNeg⟩]) cells slots → T'.heap = h' → Wr h h' a j.toNatClampNeg (.long x) → Go p e below s R' Q T' (mkF m (pc + 1) Ls rest)) : Go p e below s R' Q T (mkF m pc Ls (.long x :: .int j :: .ref a :: rest)) := by
  obtain ⟨cl, A, S, H⟩ := V
  obtain ⟨T', h', X', e', W, st⟩ := RoadKit.stJ X hx hZ eT A (x := x) (hj.not S) (g := mkF m pc Ls (.long x :: .int j :: .ref a :: rest)) rfl rfl hd
  exact Go.of st (k T' h' X' e' W)
theorem Go.stC {a : Addr} {n : Nat} {g : Nat → Value} {j x : Int32} (X : Stand p l e R s m args below meth c T locs cells slots) (hx : p.tables.exec = Jvm.exec) (hZ : Z.Warmed39 s.vm) (eT : T.heap = h) (V : AV Z h a .char n g) (hj : Inb j n) (hd : decode c.code pc = .ok (.castore, 1))
    (k : ∀ T' h', Stand p l e R s m args below meth c T' (locs ++ [⟨a, j.toNatClampNeg⟩]) cells slots → T'.heap = h' → Wr h h' a j.toNatClampNeg (.int (nar .char x)) → Go p e below s R' Q T' (mkF m (pc + 1) Ls rest)) : Go p e below s R' Q T (mkF m pc Ls (.int x :: .int j :: .ref a :: rest)) := by
  obtain ⟨cl, A, S, H⟩ := V
  obtain ⟨T', h', X', e', W, st⟩ := RoadKit.stC X hx hZ eT A (x := x) (hj.not S) (g := mkF m pc Ls (.int x :: .int j :: .ref a :: rest)) rfl rfl hd
  exact Go.of st (k T' h' X' e' W)
theorem Go.stB {a : Addr} {n : Nat} {g : Nat → Value} {j x : Int32} (X : Stand p l e R s m args below meth c T locs cells slots) (hx : p.tables.exec = Jvm.exec) (hZ : Z.Warmed39 s.vm) (eT : T.heap = h) (V : AV Z h a .byte n g) (hj : Inb j n) (hd : decode c.code pc = .ok (.bastore, 1))
    (k : ∀ T' h', Stand p l e R s m args below meth c T' (locs ++ [⟨a, j.toNatClampNeg⟩]) cells slots → T'.heap = h' → Wr h h' a j.toNatClampNeg (.int (nar .byte x)) → Go p e below s R' Q T' (mkF m (pc + 1) Ls rest)) : Go p e below s R' Q T (mkF m pc Ls (.int x :: .int j :: .ref a :: rest)) := by
  obtain ⟨cl, A, S, H⟩ := V
  obtain ⟨T', h', X', e', W, st⟩ := RoadKit.stB X hx hZ eT A (x := x) (hj.not S) (g := mkF m pc Ls (.int x :: .int j :: .ref a :: rest)) rfl rfl hd
  exact Go.of st (k T' h' X' e' W)
theorem Go.stD {a : Addr} {n : Nat} {g : Nat → Value} {j : Int32} {x : UInt64} (X : Stand p l e R s m args below meth c T locs cells slots) (hx : p.tables.exec = Jvm.exec) (hZ : Z.Warmed39 s.vm) (eT : T.heap = h) (V : AV Z h a .double n g) (hj : Inb j n) (hd : decode c.code pc = .ok (.dastore, 1))
    (k : ∀ T' h', Stand p l e R s m args below meth c T' (locs ++ [⟨a, j.toNatClampNeg⟩]) cells slots → T'.heap = h' → Wr h h' a j.toNatClampNeg (.double x) → Go p e below s R' Q T' (mkF m (pc + 1) Ls rest)) : Go p e below s R' Q T (mkF m pc Ls (.double x :: .int j :: .ref a :: rest)) := by
  obtain ⟨cl, A, S, H⟩ := V
  obtain ⟨T', h', X', e', W, st⟩ := RoadKit.stD X hx hZ eT A (x := x) (hj.not S) (g := mkF m pc Ls (.double x :: .int j :: .ref a :: rest)) rfl rfl hd
  exact Go.of st (k T' h' X' e' W)
theorem Go.ldD {a : Addr} {n : Nat} {g : Nat → Value} {j : Int32} (v : Value) (X : Stand p l e R s m args below meth c T locs cells slots) (hx : p.tables.exec = Jvm.exec) (hZ : Z.Warmed39 s.vm) (eT : T.heap = h) (V : AV Z h a .double n g) (hj : Inb j n) (hv : g j.toNatClampNeg = v) (hd : decode c.code pc = .ok (.daload, 1))
    (k : Go p e below s R' Q T (mkF m (pc + 1) Ls (v :: rest))) : Go p e below s R' Q T (mkF m pc Ls (.int j :: .ref a :: rest)) := by
  obtain ⟨cl, A, S, H⟩ := V
  exact Go.of (X.daload hx (by rw [eT]; exact A.1) (State.isArrayOf_alike hZ.alike A.2.1) A.2.2 (hj.not S) ((H _ hj.2).trans (by rw [hv])) (g := mkF m pc Ls (.int j :: .ref a :: rest)) rfl rfl hd) k
theorem Go.ldI {a : Addr} {n : Nat} {g : Nat → Value} {j : Int32} (v : Value) (X : Stand p l e R s m args below meth c T locs cells slots) (hx : p.tables.exec = Jvm.exec) (hZ : Z.Warmed39 s.vm) (eT : T.heap = h) (V : AV Z h a .int n g) (hj : Inb j n) (hv : g j.toNatClampNeg = v) (hd : decode c.code pc = .ok (.iaload, 1))
    (k : Go p e below s R' Q T (mkF m (pc + 1) Ls (v :: rest))) : Go p e below s R' Q T (mkF m pc Ls (.int j :: .ref a :: rest)) := by
  obtain ⟨cl, A, S, H⟩ := V
  exact Go.of (X.iaload hx (by rw [eT]; exact A.1) (State.isArrayOf_alike hZ.alike A.2.1) A.2.2 (hj.not S) ((H _ hj.2).trans (by rw [hv])) (g := mkF m pc Ls (.int j :: .ref a :: rest)) rfl rfl hd) k
theorem Go.ldJ {a : Addr} {n : Nat} {g : Nat → Value} {j : Int32} (v : Value) (X : Stand p l e R s m args below meth c T locs cells slots) (hx : p.tables.exec = Jvm.exec) (hZ : Z.Warmed39 s.vm) (eT : T.heap = h) (V : AV Z h a .long n g) (hj : Inb j n) (hv : g j.toNatClampNeg = v) (hd : decode c.code pc = .ok (.laload, 1))
    (k : Go p e below s R' Q T (mkF m (pc + 1) Ls (v :: rest))) : Go p e below s R' Q T (mkF m pc Ls (.int j :: .ref a :: rest)) := by
  obtain ⟨cl, A, S, H⟩ := V
  exact Go.of (X.laload hx (by rw [eT]; exact A.1) (State.isArrayOf_alike hZ.alike A.2.1) A.2.2 (hj.not S) ((H _ hj.2).trans (by rw [hv])) (g := mkF m pc Ls (.int j :: .ref a :: rest)) rfl rfl hd) k
theorem Go.ldC {a : Addr} {n : Nat} {g : Nat → Value} {j : Int32} (v : Value) (X : Stand p l e R s m args below meth c T locs cells slots) (hx : p.tables.exec = Jvm.exec) (hZ : Z.Warmed39 s.vm) (eT : T.heap = h) (V : AV Z h a .char n g) (hj : Inb j n) (hv : g j.toNatClampNeg = v) (hd : decode c.code pc = .ok (.caload, 1))
    (k : Go p e below s R' Q T (mkF m (pc + 1) Ls (v :: rest))) : Go p e below s R' Q T (mkF m pc Ls (.int j :: .ref a :: rest)) := by
  obtain ⟨cl, A, S, H⟩ := V
  exact Go.of (X.caload hx (by rw [eT]; exact A.1) (State.isArrayOf_alike hZ.alike A.2.1) A.2.2 (hj.not S) ((H _ hj.2).trans (by rw [hv])) (g := mkF m pc Ls (.int j :: .ref a :: rest)) rfl rfl hd) k
theorem Go.ldB {a : Addr} {n : Nat} {g : Nat → Value} {j : Int32} (v : Value) (X : Stand p l e R s m args below meth c T locs cells slots) (hx : p.tables.exec = Jvm.exec) (hZ : Z.Warmed39 s.vm) (eT : T.heap = h) (V : AV Z h a .byte n g) (hj : Inb j n) (hv : g j.toNatClampNeg = v) (hd : decode c.code pc = .ok (.baload, 1))
    (k : Go p e below s R' Q T (mkF m (pc + 1) Ls (v :: rest))) : Go p e below s R' Q T (mkF m pc Ls (.int j :: .ref a :: rest)) := by
  obtain ⟨cl, A, S, H⟩ := V
  exact Go.of (X.baloadBytes hx (by rw [eT]; exact A.1) (State.isArrayOf_alike hZ.alike A.2.1) A.2.2 (hj.not S) ((H _ hj.2).trans (by rw [hv])) (g := mkF m pc Ls (.int j :: .ref a :: rest)) rfl rfl hd) k
theorem Go.alen {a : Addr} {n : Nat} {ty : FieldType} {g : Nat → Value} (z : Int32) (X : Stand p l e R s m args below meth c T locs cells slots) (hx : p.tables.exec = Jvm.exec) (hZ : Z.Warmed39 s.vm) (eT : T.heap = h) (V : AV Z h a ty n g) (hz : n.toInt32 = z) (hd : decode c.code pc = .ok (.arraylength, 1))
    (k : Go p e below s R' Q T (mkF m (pc + 1) Ls (.int z :: rest))) : Go p e below s R' Q T (mkF m pc Ls (.ref a :: rest)) := by
  obtain ⟨cl, A, S, H⟩ := V
  refine Go.of (X.arraylength hx (by rw [eT]; exact A.1) (State.isArrayOf_alike hZ.alike A.2.1) (g := mkF m pc Ls (.ref a :: rest)) rfl rfl hd) ?_
  rw [S, hz]; exact k
/-! calls -/
theorem Go.initO {own : String} {idx : Nat} {a : Addr} (X : Stand p l e R s m args below meth c T locs cells slots) (hx : p.tables.exec = Jvm.exec) (hZ : Z.Warmed39 s.vm) (hown : s.vm.findClass own = some m.cls) (w1 : (Jvm.Cond.methodLink own idx Lib.objectInit).before a0 Z = true) (w2 : (Jvm.Cond.instanceMethod Lib.objectInit).before a0 Z = true) (w3 : (Jvm.Cond.code Lib.objectInit ⟨#[0xb1]⟩ 1 none).before a0 Z = true) (eT : T.heap = h)
    (hsz : Ls.size = c.maxLocals) (hd : decode c.code pc = .ok (.invokespecial idx, 3)) (hf : 1 ≤ R.frames) (W : Nat) (hW : (rest.map fun v => v.category).sum ≤ W) (hl : W + 12 ≤ R.locals) (k : ∀ T', Stand p l e R s m args below meth c T' locs cells slots → T'.heap = h → Go p e below s R' Q T' (mkF m (pc + 3) Ls rest)) : Go p e below s R' Q T (mkF m pc Ls (.ref a :: rest)) := by
  obtain ⟨T', X', e', st⟩ := RoadKit.initO X hx hZ hown w1 w2 w3 eT (g := mkF m pc Ls (.ref a :: rest)) rfl hsz rfl hd hf (W := W) (by show 2 * 0 + _ ≤ _; omega) hl
  exact Go.of st (k T' X' e')
theorem Go.static {own : String} {index : Nat} {y : MethodName} {bytes : ByteArray} {maxL : Nat} {ret : Option FieldType} {rm : Room} {as : Array Value} {Qc : Option Value → Heap → List Loc → Prop} (X : Stand p l e R s m args below meth c T locs cells slots) (hx : p.tables.exec = Jvm.exec) (hZ : Z.Warmed39 s.vm) (hown : s.vm.findClass own = some m.cls)
    (w1 : (Jvm.Cond.methodLink own index y).before a0 Z = true) (w2 : (Jvm.Cond.static y).before a0 Z = true) (w3 : (Jvm.Cond.initialized y.cls).before a0 Z = true) (w4 : (Jvm.Cond.code y bytes maxL ret).before a0 Z = true) (hy : y.cls ≠ "java/lang/invoke/MethodHandle" ∧ y.cls ≠ "java/lang/invoke/VarHandle")
    (M : Met l Z y bytes maxL ret [] rm as h Qc) (eT : T.heap = h) (W : Nat) (hf : rm.frames + 1 ≤ R.frames) (hl : W + (maxL + 11) + rm.locals ≤ R.locals) (hc : cells + rm.cells ≤ R.cells) (hs : slots + rm.slots ≤ R.slots) (hsz : Ls.size = c.maxLocals) {st argsL : List Value} (rest : List Value) (hlen : ∀ sig, parseMethodDescriptor y.desc = some sig → argsL.length = sig.parameters.length)
    (has : argsL.toArray = as) (hst : st = argsL.reverse ++ rest) (hW : (rest.map fun v => v.category).sum ≤ W) (hd : decode c.code pc = .ok (.invokestatic index, 3))
    (k : ∀ v T' L', Stand p l e R s m args below meth c T' (locs ++ L') (cells + rm.cells) (slots + rm.slots) → Qc v T'.heap L' → Go p e below s R' Q T' (mkF m (pc + 3) Ls (v.toList ++ rest))) : Go p e below s R' Q T (mkF m pc Ls st) := by
  obtain ⟨v, _, ⟨T1, L1, k1, n1⟩, -, X1, ⟨Lc, hQ, l1, y1, z1⟩, stp⟩ := Jvm.LawKit.callS X hx (y := y) hown (mvT hZ w1) (mvT hZ w2) (mvT hZ w3) (mvT hZ w4) hy (backOf (W := W) M hZ w4 w3 hf hl) (g := mkF m pc Ls st) rfl hsz (argsL := argsL) (rest := rest) hlen hst (by show 2 * 0 + _ ≤ _; omega) hd (fun _ _ => ⟨has, eT, hc, hs⟩)
  dsimp only [Pt.U, Pt.locs, Pt.cells, Pt.slots] at X1 l1 y1 z1 stp hQ
  subst l1 y1 z1
  exact Go.of stp (k v T1 Lc X1 hQ)
theorem Go.special {own : String} {index : Nat} {y : MethodName} {bytes : ByteArray} {maxL : Nat} {rm : Room} {as : Array Value} {a : Addr} {Qc : Option Value → Heap → List Loc → Prop} (X : Stand p l e R s m args below meth c T locs cells slots) (hx : p.tables.exec = Jvm.exec) (hZ : Z.Warmed39 s.vm) (hown : s.vm.findClass own = some m.cls) (hy1 : y.name = "<init>")
    (w1 : (Jvm.Cond.methodLink own index y).before a0 Z = true) (w2 : (Jvm.Cond.instanceMethod y).before a0 Z = true) (w3 : (Jvm.Cond.initialized y.cls).before a0 Z = true) (w4 : (Jvm.Cond.code y bytes maxL none).before a0 Z = true) (hy : y.cls ≠ "java/lang/invoke/MethodHandle" ∧ y.cls ≠ "java/lang/invoke/VarHandle")
    (M : Met l Z y bytes maxL none [] rm as h Qc) (eT : T.heap = h) (W : Nat) (hf : rm.frames + 1 ≤ R.frames) (hl : W + (maxL + 11) + rm.locals ≤ R.locals) (hc : cells + rm.cells ≤ R.cells) (hs : slots + rm.slots ≤ R.slots) (hsz : Ls.size = c.maxLocals) {st argsL : List Value} (rest : List Value) (hlen : ∀ sig, parseMethodDescriptor y.desc = some sig → argsL.length = sig.parameters.length)
    (has : (.ref a :: argsL : List Value).toArray = as) (hst : st = argsL.reverse ++ .ref a :: rest) (hW : (rest.map fun v => v.category).sum ≤ W) (hd : decode c.code pc = .ok (.invokespecial index, 3))
    (k : ∀ v T' L', Stand p l e R s m args below meth c T' (locs ++ L') (cells + rm.cells) (slots + rm.slots) → Qc v T'.heap L' → Go p e below s R' Q T' (mkF m (pc + 3) Ls (v.toList ++ rest))) : Go p e below s R' Q T (mkF m pc Ls st) := by
  obtain ⟨v, _, ⟨T1, L1, k1, n1⟩, -, X1, ⟨Lc, hQ, l1, y1, z1⟩, stp⟩ := X.specialBack hx (y := y) hy1 hown (mvT hZ w1) (mvT hZ w2) (mvT hZ w4) hy (backOf (W := W) M hZ w4 w3 hf hl) (g := mkF m pc Ls st) rfl hsz (Steps.refl _) (a := a) (argsL := argsL) (rest := rest) hlen hst (by show 2 * 0 + _ ≤ _; omega) hd (fun _ _ => ⟨has, eT, hc, hs⟩)
  dsimp only [Pt.U, Pt.locs, Pt.cells, Pt.slots] at X1 l1 y1 z1 stp hQ
  subst l1 y1 z1
  exact Go.of (fun _ q => stp.trans q) (k v T1 Lc X1 hQ)
theorem Go.virtual {own C : String} {index : Nat} {y z : MethodName} {bytes : ByteArray} {maxL : Nat} {ret : Option FieldType} {rm : Room} {as : Array Value} {a : Addr} {Qc : Option Value → Heap → List Loc → Prop} (X : Stand p l e R s m args below meth c T locs cells slots) (hx : p.tables.exec = Jvm.exec) (hZ : Z.Warmed39 s.vm) (hown : s.vm.findClass own = some m.cls)
    (w1 : (Jvm.Cond.methodLink own index y).before a0 Z = true) (w2 : (Jvm.Cond.declares y).before a0 Z = true) (nf : NotFace s y) (ws : (Jvm.Cond.selects C y z).before a0 Z = true) (wi : (Jvm.Cond.instanceMethod z).before a0 Z = true) (w3 : (Jvm.Cond.initialized z.cls).before a0 Z = true) (w4 : (Jvm.Cond.code z bytes maxL ret).before a0 Z = true) (hy : y.cls ≠ "java/lang/invoke/MethodHandle" ∧ y.cls ≠ "java/lang/invoke/VarHandle")
    (M : Met l Z z bytes maxL ret [] rm as h Qc) (eT : T.heap = h) (E : Exa Z h a C) (W : Nat) (hf : rm.frames + 1 ≤ R.frames) (hl : W + (maxL + 11) + rm.locals ≤ R.locals) (hc : cells + rm.cells ≤ R.cells) (hs : slots + rm.slots ≤ R.slots) (hsz : Ls.size = c.maxLocals) {st argsL : List Value} (rest : List Value) (hlen : ∀ sig, parseMethodDescriptor y.desc = some sig → argsL.length = sig.parameters.length)
    (has : (.ref a :: argsL : List Value).toArray = as) (hst : st = argsL.reverse ++ .ref a :: rest) (hW : (rest.map fun v => v.category).sum ≤ W) (hd : decode c.code pc = .ok (.invokevirtual index, 3))
    (k : ∀ v T' L', Stand p l e R s m args below meth c T' (locs ++ L') (cells + rm.cells) (slots + rm.slots) → Qc v T'.heap L' → Go p e below s R' Q T' (mkF m (pc + 3) Ls (v.toList ++ rest))) : Go p e below s R' Q T (mkF m pc Ls st) := by
  obtain ⟨cq, kq, qa, qb, qc⟩ := isOf hZ eT E
  obtain ⟨v, _, ⟨T1, L1, k1, n1⟩, -, X1, ⟨Lc, hQ, l1, y1, z1⟩, stp⟩ := X.virtualBack hx (y := y) (z := z) hown (mvT hZ w1) (mvT hZ w2) nf (mvT hZ ws) (mvT hZ wi) hy (backOf (W := W) M hZ w4 w3 hf hl) qa qc (g := mkF m pc Ls st) rfl hsz (Steps.refl _) (argsL := argsL) (rest := rest) hlen hst (by show 2 * 0 + _ ≤ _; omega) hd (fun _ _ => ⟨has, eT, hc, hs⟩)
  dsimp only [Pt.U, Pt.locs, Pt.cells, Pt.slots] at X1 l1 y1 z1 stp hQ
  subst l1 y1 z1
  exact Go.of (fun _ q => stp.trans q) (k v T1 Lc X1 hQ)
theorem Go.priv {own C : String} {index : Nat} {y : MethodName} {bytes : ByteArray} {maxL : Nat} {ret : Option FieldType} {rm : Room} {as : Array Value} {a : Addr} {Qc : Option Value → Heap → List Loc → Prop} (X : Stand p l e R s m args below meth c T locs cells slots) (hx : p.tables.exec = Jvm.exec) (hZ : Z.Warmed39 s.vm) (hown : s.vm.findClass own = some m.cls)
    (w1 : (Jvm.Cond.methodLink own index y).before a0 Z = true) (wi : (Jvm.Cond.instanceMethod y).before a0 Z = true) {kk : Nat} (wk : (Jvm.Cond.instantiable y.cls kk).before a0 Z = true) (wp : (Jvm.Cond.privateMethod y).before a0 Z = true) (w3 : (Jvm.Cond.initialized y.cls).before a0 Z = true) (w4 : (Jvm.Cond.code y bytes maxL ret).before a0 Z = true) (hy : y.cls ≠ "java/lang/invoke/MethodHandle" ∧ y.cls ≠ "java/lang/invoke/VarHandle")
    (M : Met l Z y bytes maxL ret [] rm as h Qc) (eT : T.heap = h) (E : Exa Z h a C) (W : Nat) (hf : rm.frames + 1 ≤ R.frames) (hl : W + (maxL + 11) + rm.locals ≤ R.locals) (hc : cells + rm.cells ≤ R.cells) (hs : slots + rm.slots ≤ R.slots) (hsz : Ls.size = c.maxLocals) {st argsL : List Value} (rest : List Value) (hlen : ∀ sig, parseMethodDescriptor y.desc = some sig → argsL.length = sig.parameters.length)
    (has : (.ref a :: argsL : List Value).toArray = as) (hst : st = argsL.reverse ++ .ref a :: rest) (hW : (rest.map fun v => v.category).sum ≤ W) (hd : decode c.code pc = .ok (.invokevirtual index, 3))
    (k : ∀ v T' L', Stand p l e R s m args below meth c T' (locs ++ L') (cells + rm.cells) (slots + rm.slots) → Qc v T'.heap L' → Go p e below s R' Q T' (mkF m (pc + 3) Ls (v.toList ++ rest))) : Go p e below s R' Q T (mkF m pc Ls st) := by
  obtain ⟨cq, qa, qb⟩ := E.cell
  have hp : s.PrivateAt y := Cond.privateMethod_at (mvP hZ wp (args := #[]))
  obtain ⟨ci, ki, i1, i2, -, i4, -⟩ := Cond.instantiable_spec (show (Jvm.Cond.instantiable y.cls kk).before args s = true from mvT hZ wk)
  have hsel : (Jvm.Cond.selects y.cls y y).before args s = true := selects_self_of_private i1 i2 (by revert i4; cases ki.isInterface <;> simp) hp (mvT hZ wi) hy
  obtain ⟨v, _, ⟨T1, L1, k1, n1⟩, -, X1, ⟨Lc, hQ, l1, y1, z1⟩, stp⟩ := X.privateBack hx (y := y) hown (mvT hZ w1) (mvT hZ wi) hsel hp (mvT hZ w4) hy (backOf (W := W) M hZ w4 w3 hf hl) (g := mkF m pc Ls st) rfl hsz (Steps.refl _) (a := a) (by rw [eT]; exact qa) qb (argsL := argsL) (rest := rest) hlen hst (by show 2 * 0 + _ ≤ _; omega) hd (fun _ _ => ⟨has, eT, hc, hs⟩)
  dsimp only [Pt.U, Pt.locs, Pt.cells, Pt.slots] at X1 l1 y1 z1 stp hQ
  subst l1 y1 z1
  exact Go.of (fun _ q => stp.trans q) (k v T1 Lc X1 hQ)
/-! conditions -/
theorem cZlt {x y : Int64} (q : x < y) : ifCond.holds .lt (lcmpW x y) = true ∧ ifCond.holds .ge (lcmpW x y) = false := ⟨(if0 _ _).trans (tlt ((lw_lt x y).mpr q)).1, (if0 _ _).trans (tlt ((lw_lt x y).mpr q)).2.1⟩
theorem cFlt {x y : Int64} (q : ¬ x < y) : ifCond.holds .lt (lcmpW x y) = false ∧ ifCond.holds .ge (lcmpW x y) = true := ⟨(if0 _ _).trans (flt (fun r => q ((lw_lt x y).mp r))).1, (if0 _ _).trans (flt (fun r => q ((lw_lt x y).mp r))).2.1⟩
theorem cZgt {x y : Int64} (q : y < x) : ifCond.holds .gt (lcmpW x y) = true ∧ ifCond.holds .le (lcmpW x y) = false := ⟨(if0 _ _).trans (tlt ((lw_gt x y).mpr q)).2.2.1, (if0 _ _).trans (tlt ((lw_gt x y).mpr q)).2.2.2⟩
theorem cFgt {x y : Int64} (q : ¬ y < x) : ifCond.holds .gt (lcmpW x y) = false ∧ ifCond.holds .le (lcmpW x y) = true := ⟨(if0 _ _).trans (flt (fun r => q ((lw_gt x y).mp r))).2.2.1, (if0 _ _).trans (flt (fun r => q ((lw_gt x y).mp r))).2.2.2⟩
theorem cZeq {x y : Int64} (q : x = y) : ifCond.holds .eq (lcmpW x y) = true ∧ ifCond.holds .ne (lcmpW x y) = false := ⟨(if0 _ _).trans (teq ((lw_eq x y).mpr q)).1, (if0 _ _).trans (teq ((lw_eq x y).mpr q)).2⟩
theorem cFeq {x y : Int64} (q : ¬ x = y) : ifCond.holds .eq (lcmpW x y) = false ∧ ifCond.holds .ne (lcmpW x y) = true := ⟨(if0 _ _).trans (feq (fun r => q ((lw_eq x y).mp r))).1, (if0 _ _).trans (feq (fun r => q ((lw_eq x y).mp r))).2⟩
end Kit
theorem own_ni0 {a : Addr}  : a ∉ ([] : List Addr) := by simp [*]
theorem own_all0 {P : Addr → Prop} {b0 : Addr}  : ∀ x ∈ ([] : List Addr), P x := by intro x hx; cases hx
theorem own_ni1 {a b0 : Addr} (q0 : a ≠ b0) : a ∉ ([b0] : List Addr) := by simp [*]
theorem own_all1 {P : Addr → Prop} {b0 : Addr} (q0 : P b0) : ∀ x ∈ ([b0] : List Addr), P x := by intro x hx; simp only [List.mem_cons, List.not_mem_nil, or_false] at hx; subst hx; assumption
theorem own_ni2 {a b0 b1 : Addr} (q0 : a ≠ b0) (q1 : a ≠ b1) : a ∉ ([b0, b1] : List Addr) := by simp [*]
theorem own_all2 {P : Addr → Prop} {b0 b1 : Addr} (q0 : P b0) (q1 : P b1) : ∀ x ∈ ([b0, b1] : List Addr), P x := by intro x hx; simp only [List.mem_cons, List.not_mem_nil, or_false] at hx; rcases hx with rfl | rfl <;> assumption
theorem own_ni3 {a b0 b1 b2 : Addr} (q0 : a ≠ b0) (q1 : a ≠ b1) (q2 : a ≠ b2) : a ∉ ([b0, b1, b2] : List Addr) := by simp [*]
theorem own_all3 {P : Addr → Prop} {b0 b1 b2 : Addr} (q0 : P b0) (q1 : P b1) (q2 : P b2) : ∀ x ∈ ([b0, b1, b2] : List Addr), P x := by intro x hx; simp only [List.mem_cons, List.not_mem_nil, or_false] at hx; rcases hx with rfl | rfl | rfl <;> assumption
theorem own_ni4 {a b0 b1 b2 b3 : Addr} (q0 : a ≠ b0) (q1 : a ≠ b1) (q2 : a ≠ b2) (q3 : a ≠ b3) : a ∉ ([b0, b1, b2, b3] : List Addr) := by simp [*]
theorem own_all4 {P : Addr → Prop} {b0 b1 b2 b3 : Addr} (q0 : P b0) (q1 : P b1) (q2 : P b2) (q3 : P b3) : ∀ x ∈ ([b0, b1, b2, b3] : List Addr), P x := by intro x hx; simp only [List.mem_cons, List.not_mem_nil, or_false] at hx; rcases hx with rfl | rfl | rfl | rfl <;> assumption
theorem own_ni5 {a b0 b1 b2 b3 b4 : Addr} (q0 : a ≠ b0) (q1 : a ≠ b1) (q2 : a ≠ b2) (q3 : a ≠ b3) (q4 : a ≠ b4) : a ∉ ([b0, b1, b2, b3, b4] : List Addr) := by simp [*]
theorem own_all5 {P : Addr → Prop} {b0 b1 b2 b3 b4 : Addr} (q0 : P b0) (q1 : P b1) (q2 : P b2) (q3 : P b3) (q4 : P b4) : ∀ x ∈ ([b0, b1, b2, b3, b4] : List Addr), P x := by intro x hx; simp only [List.mem_cons, List.not_mem_nil, or_false] at hx; rcases hx with rfl | rfl | rfl | rfl | rfl <;> assumption
theorem own_ni6 {a b0 b1 b2 b3 b4 b5 : Addr} (q0 : a ≠ b0) (q1 : a ≠ b1) (q2 : a ≠ b2) (q3 : a ≠ b3) (q4 : a ≠ b4) (q5 : a ≠ b5) : a ∉ ([b0, b1, b2, b3, b4, b5] : List Addr) := by simp [*]
theorem own_all6 {P : Addr → Prop} {b0 b1 b2 b3 b4 b5 : Addr} (q0 : P b0) (q1 : P b1) (q2 : P b2) (q3 : P b3) (q4 : P b4) (q5 : P b5) : ∀ x ∈ ([b0, b1, b2, b3, b4, b5] : List Addr), P x := by intro x hx; simp only [List.mem_cons, List.not_mem_nil, or_false] at hx; rcases hx with rfl | rfl | rfl | rfl | rfl | rfl <;> assumption
theorem own_ni7 {a b0 b1 b2 b3 b4 b5 b6 : Addr} (q0 : a ≠ b0) (q1 : a ≠ b1) (q2 : a ≠ b2) (q3 : a ≠ b3) (q4 : a ≠ b4) (q5 : a ≠ b5) (q6 : a ≠ b6) : a ∉ ([b0, b1, b2, b3, b4, b5, b6] : List Addr) := by simp [*]
theorem own_all7 {P : Addr → Prop} {b0 b1 b2 b3 b4 b5 b6 : Addr} (q0 : P b0) (q1 : P b1) (q2 : P b2) (q3 : P b3) (q4 : P b4) (q5 : P b5) (q6 : P b6) : ∀ x ∈ ([b0, b1, b2, b3, b4, b5, b6] : List Addr), P x := by intro x hx; simp only [List.mem_cons, List.not_mem_nil, or_false] at hx; rcases hx with rfl | rfl | rfl | rfl | rfl | rfl | rfl <;> assumption

def own_lt (q1 : Int64) (p1 : Int32) (q2 : Int64) (p2 : Int32) : Int32 := if q1 < q2 then 1 else if q1 = q2 then (if p1 < p2 then 1 else 0) else 0
theorem own_irr (q : Int64) (p : Int32) : own_lt q p q p = 0 := by simp [own_lt]
theorem own_ne {q r : Int64} (h : ¬ q = r) : ¬ (q = r) := h
theorem own_eq {q r : Int64} (h : q = r) : ¬ q < r := by subst h; exact Int64.lt_irrefl
theorem pd0 : parseMethodDescriptor "(JI)V" = some ⟨[.long, .int], none⟩ := by decide +kernel
theorem pd1 : parseMethodDescriptor "(Lcom/example/fixpoint/fixpoint/Position;)Z" = some ⟨[(.object "com/example/fixpoint/fixpoint/Position")], some .boolean⟩ := by decide +kernel
theorem pd2 : parseMethodDescriptor "(JIJI)Z" = some ⟨[.long, .int, .long, .int], some .boolean⟩ := by decide +kernel
theorem d1_0 : decode prog_84_method_1_code 0 = .ok (.aload_n 0, 1) := by decide +kernel
theorem d1_1 : decode prog_84_method_1_code 1 = .ok (.invokespecial 1, 3) := by decide +kernel
theorem d1_4 : decode prog_84_method_1_code 4 = .ok (.aload_n 0, 1) := by decide +kernel
theorem d1_5 : decode prog_84_method_1_code 5 = .ok (.lload_n 1, 1) := by decide +kernel
theorem d1_6 : decode prog_84_method_1_code 6 = .ok (.putfield 7, 3) := by decide +kernel
theorem d1_9 : decode prog_84_method_1_code 9 = .ok (.aload_n 0, 1) := by decide +kernel
theorem d1_10 : decode prog_84_method_1_code 10 = .ok (.iload_n 3, 1) := by decide +kernel
theorem d1_11 : decode prog_84_method_1_code 11 = .ok (.putfield 13, 3) := by decide +kernel
theorem d1_14 : decode prog_84_method_1_code 14 = .ok (.return_, 1) := by decide +kernel
theorem pn1 : plainFor (⟨"com/example/fixpoint/fixpoint/Position", "<init>", "(JI)V"⟩ : MethodName) = true := plainFor_of_name (by first | (simp [plainName, overriddenIn]; done) | decide +kernel)
theorem ef_rm1 (m : MethodId) (x0 : Addr) (x1 : Int64) (x2 : Int32) : entryFrame m #[(.ref x0), (.long x1), (.int x2)] 4 = mkF m 0 #[.val (.ref x0), .val (.long x1), .second, .val (.int x2)] [] := by first | (simp [entryFrame, mkF, argsToLocals, Value.category]; done) | rfl
set_option maxRecDepth 65536 in
set_option maxHeartbeats 40000000 in
theorem rm1 {l : Launch} {Z : State} {a0 : Array Value} (hw : ∀ d ∈ tables_1, d.before a0 Z = true) (a : Addr) (q : Int64) (p1 : Int32) (h0 : Heap) (n0 : Nat) (g_a : n0 ≤ a) (E_a : Exa Z h0 a "com/example/fixpoint/fixpoint/Position") (F_line_a : Fld Z h0 a "com/example/fixpoint/fixpoint/Position" "line" "J" (.long (0 : Int64))) (F_column_a : Fld Z h0 a "com/example/fixpoint/fixpoint/Position" "column" "I" (.int (0 : Int32))) :
    Met l Z (⟨"com/example/fixpoint/fixpoint/Position", "<init>", "(JI)V"⟩ : MethodName) prog_84_method_1_code 4 none [] ({ frames := 1, cells := 0, slots := 0, locals := 12 } : Room) #[(.ref a), (.long q), (.int p1)] h0 (fun v h L => v = none ∧ Fr n0 L ∧ Keep h0 h [a] ∧ Fld Z h a "com/example/fixpoint/fixpoint/Position" "line" "J" (.long q) ∧ Fld Z h a "com/example/fixpoint/fixpoint/Position" "column" "I" (.int p1)) := by
  refine Met.mk pn1 ?_
  intro p e s m below meth c T hx hby hml hown hnm hret hlk hZ X eT
  refine Go.cast (ef_rm1 m a q p1) ?_
  have N := Fr.nil n0
  have K := Keep.refl h0 [a]
  show Go p e below s _ _ T (mkF m 0 #[.val (.ref a), .val (.long q), .second, .val (.int p1)] [])
  refine Go.of (fun _ q => XS.aloadN X.here hx rfl (hb hby d1_0) rfl rfl q) ?_
  show Go p e below s _ _ T (mkF m 1 #[.val (.ref a), .val (.long q), .second, .val (.int p1)] [(.ref a)])
  refine Go.initO X hx hZ hown (hw _ (List.mem_of_getElem? (i := 6) rfl)) (hw _ (List.mem_of_getElem? (i := 7) rfl)) (hw _ (List.mem_of_getElem? (i := 8) rfl)) eT (by rw [hml]; rfl) (hb hby d1_1) (by decide) 0 (Nat.le_of_eq rfl) (by decide) ?_
  intro T X eT
  show Go p e below s _ _ T (mkF m 4 #[.val (.ref a), .val (.long q), .second, .val (.int p1)] [])
  refine Go.of (fun _ q => XS.aloadN X.here hx rfl (hb hby d1_4) rfl rfl q) ?_
  show Go p e below s _ _ T (mkF m 5 #[.val (.ref a), .val (.long q), .second, .val (.int p1)] [(.ref a)])
  refine Go.of (fun _ q => XS.lloadN X.here hx rfl (hb hby d1_5) rfl q) ?_
  show Go p e below s _ _ T (mkF m 6 #[.val (.ref a), .val (.long q), .second, .val (.int p1)] [(.long q), (.ref a)])
  refine Go.putF X hx hZ hown (hw _ (List.mem_of_getElem? (i := 9) rfl)) Via.refl eT F_line_a E_a (Or.inr ⟨(hw _ (List.mem_of_getElem? (i := 10) rfl)), rfl, hnm⟩) (hw _ (List.mem_of_getElem? (i := 1) rfl)) (ty := .long) (by decide) rfl rfl (hb hby d1_6) ?_
  intro T h X eT W
  have N := Fr.snoc X N g_a
  have K := K.wr W (Or.inl (List.mem_of_getElem? (i := 0) rfl))
  have E_a := E_a.wr W
  have F_line_a := F_line_a.same W
  have F_column_a := F_column_a.other W (Or.inr (slot_ne (Or.inr (hw _ (List.mem_of_getElem? (i := 12) rfl))) (Or.inr (hw _ (List.mem_of_getElem? (i := 10) rfl))) (by decide) (t := .int) (t' := .long) (by decide) (by decide)))
  show Go p e below s _ _ T (mkF m 9 #[.val (.ref a), .val (.long q), .second, .val (.int p1)] [])
  refine Go.of (fun _ q => XS.aloadN X.here hx rfl (hb hby d1_9) rfl rfl q) ?_
  show Go p e below s _ _ T (mkF m 10 #[.val (.ref a), .val (.long q), .second, .val (.int p1)] [(.ref a)])
  refine Go.of (fun _ q => XS.iloadN X.here hx rfl (hb hby d1_10) rfl q) ?_
  show Go p e below s _ _ T (mkF m 11 #[.val (.ref a), .val (.long q), .second, .val (.int p1)] [(.int p1), (.ref a)])
  refine Go.putF X hx hZ hown (hw _ (List.mem_of_getElem? (i := 11) rfl)) Via.refl eT F_column_a E_a (Or.inr ⟨(hw _ (List.mem_of_getElem? (i := 12) rfl)), rfl, hnm⟩) (hw _ (List.mem_of_getElem? (i := 1) rfl)) (ty := .int) (by decide) rfl rfl (hb hby d1_11) ?_
  intro T h X eT W
  have N := Fr.snoc X N g_a
  have K := K.wr W (Or.inl (List.mem_of_getElem? (i := 0) rfl))
  have E_a := E_a.wr W
  have F_line_a := F_line_a.other W (Or.inr (slot_ne (Or.inr (hw _ (List.mem_of_getElem? (i := 10) rfl))) (Or.inr (hw _ (List.mem_of_getElem? (i := 12) rfl))) (by decide) (t := .long) (t' := .int) (by decide) (by decide)))
  have F_column_a := F_column_a.same W
  show Go p e below s _ _ T (mkF m 14 #[.val (.ref a), .val (.long q), .second, .val (.int p1)] [])
  refine Go.retV X hx hret hlk (hb hby d1_14) (by decide) (by decide) ?_
  try rw [eT]
  exact ⟨rfl, N, K, F_line_a, F_column_a⟩
theorem d3_0 : decode prog_84_method_4_code 0 = .ok (.aload_n 0, 1) := by decide +kernel
theorem d3_1 : decode prog_84_method_4_code 1 = .ok (.getfield 7, 3) := by decide +kernel
theorem d3_4 : decode prog_84_method_4_code 4 = .ok (.aload_n 1, 1) := by decide +kernel
theorem d3_5 : decode prog_84_method_4_code 5 = .ok (.getfield 7, 3) := by decide +kernel
theorem d3_8 : decode prog_84_method_4_code 8 = .ok (.lcmp, 1) := by decide +kernel
theorem d3_9 : decode prog_84_method_4_code 9 = .ok (.ifCond .lt 26, 3) := by decide +kernel
theorem d3_12 : decode prog_84_method_4_code 12 = .ok (.aload_n 0, 1) := by decide +kernel
theorem d3_13 : decode prog_84_method_4_code 13 = .ok (.getfield 7, 3) := by decide +kernel
theorem d3_16 : decode prog_84_method_4_code 16 = .ok (.aload_n 1, 1) := by decide +kernel
theorem d3_17 : decode prog_84_method_4_code 17 = .ok (.getfield 7, 3) := by decide +kernel
theorem d3_20 : decode prog_84_method_4_code 20 = .ok (.lcmp, 1) := by decide +kernel
theorem d3_21 : decode prog_84_method_4_code 21 = .ok (.ifCond .ne 18, 3) := by decide +kernel
theorem d3_24 : decode prog_84_method_4_code 24 = .ok (.aload_n 0, 1) := by decide +kernel
theorem d3_25 : decode prog_84_method_4_code 25 = .ok (.getfield 13, 3) := by decide +kernel
theorem d3_28 : decode prog_84_method_4_code 28 = .ok (.aload_n 1, 1) := by decide +kernel
theorem d3_29 : decode prog_84_method_4_code 29 = .ok (.getfield 13, 3) := by decide +kernel
theorem d3_32 : decode prog_84_method_4_code 32 = .ok (.if_icmp .ge 7, 3) := by decide +kernel
theorem d3_35 : decode prog_84_method_4_code 35 = .ok (.iconst 1, 1) := by decide +kernel
theorem d3_36 : decode prog_84_method_4_code 36 = .ok (.goto 4, 3) := by decide +kernel
theorem d3_39 : decode prog_84_method_4_code 39 = .ok (.iconst 0, 1) := by decide +kernel
theorem d3_40 : decode prog_84_method_4_code 40 = .ok (.ireturn, 1) := by decide +kernel
theorem pn3 : plainFor (⟨"com/example/fixpoint/fixpoint/Position", "isBefore", "(Lcom/example/fixpoint/fixpoint/Position;)Z"⟩ : MethodName) = true := plainFor_of_name (by first | (simp [plainName, overriddenIn]; done) | decide +kernel)
theorem ef_rm3 (m : MethodId) (x0 : Addr) (x1 : Addr) : entryFrame m #[(.ref x0), (.ref x1)] 2 = mkF m 0 #[.val (.ref x0), .val (.ref x1)] [] := by first | (simp [entryFrame, mkF, argsToLocals, Value.category]; done) | rfl
set_option maxRecDepth 65536 in
set_option maxHeartbeats 40000000 in
theorem rm3 {l : Launch} {Z : State} {a0 : Array Value} (hw : ∀ d ∈ tables_1, d.before a0 Z = true) (a b : Addr) (q1 q2 : Int64) (p1 p2 : Int32) (h0 : Heap) (n0 : Nat) (F_line_a : Fld Z h0 a "com/example/fixpoint/fixpoint/Position" "line" "J" (.long q1)) (F_column_a : Fld Z h0 a "com/example/fixpoint/fixpoint/Position" "column" "I" (.int p1)) (F_line_b : Fld Z h0 b "com/example/fixpoint/fixpoint/Position" "line" "J" (.long q2)) (F_column_b : Fld Z h0 b "com/example/fixpoint/fixpoint/Position" "column" "I" (.int p2)) :
    Met l Z (⟨"com/example/fixpoint/fixpoint/Position", "isBefore", "(Lcom/example/fixpoint/fixpoint/Position;)Z"⟩ : MethodName) prog_84_method_4_code 2 (some .boolean) [] ({ frames := 0, cells := 0, slots := 0, locals := 0 } : Room) #[(.ref a), (.ref b)] h0 (fun v h L => v = some (.int (own_lt q1 p1 q2 p2)) ∧ Fr n0 L ∧ h = h0) := by
  refine Met.mk pn3 ?_
  intro p e s m below meth c T hx hby hml hown hnm hret hlk hZ X eT
  refine Go.cast (ef_rm3 m a b) ?_
  have N := Fr.nil n0
  show Go p e below s _ _ T (mkF m 0 #[.val (.ref a), .val (.ref b)] [])
  refine Go.of (fun _ q => XS.aloadN X.here hx rfl (hb hby d3_0) rfl rfl q) ?_
  show Go p e below s _ _ T (mkF m 1 #[.val (.ref a), .val (.ref b)] [(.ref a)])
  refine Go.getF X hx hZ hown (hw _ (List.mem_of_getElem? (i := 9) rfl)) Via.refl eT F_line_a (hb hby d3_1) ?_
  intro T X eT
  show Go p e below s _ _ T (mkF m 4 #[.val (.ref a), .val (.ref b)] [(.long q1)])
  refine Go.of (fun _ q => XS.aloadN X.here hx rfl (hb hby d3_4) rfl rfl q) ?_
  show Go p e below s _ _ T (mkF m 5 #[.val (.ref a), .val (.ref b)] [(.ref b), (.long q1)])
  refine Go.getF X hx hZ hown (hw _ (List.mem_of_getElem? (i := 9) rfl)) Via.refl eT F_line_b (hb hby d3_5) ?_
  intro T X eT
  show Go p e below s _ _ T (mkF m 8 #[.val (.ref a), .val (.ref b)] [(.long q2), (.long q1)])
  refine Go.of (fun _ q => XS.lcmp X.here hx rfl (hb hby d3_8) rfl q) ?_
  show Go p e below s _ _ T (mkF m 9 #[.val (.ref a), .val (.ref b)] [(.int (lcmpW q1 q2))])
  by_cases hc9 : q1 < q2
  · refine Go.of (fun _ q => XS.ifYes X.here hx rfl (pc0 := 9) (pc' := 35) rfl (hb hby d3_9) rfl (cZlt hc9).1 (by decide) (by decide) q) ?_
    show Go p e below s _ _ T (mkF m 35 #[.val (.ref a), .val (.ref b)] [])
    refine Go.of (fun _ q => XS.iconst X.here hx rfl (hb hby d3_35) q) ?_
    show Go p e below s _ _ T (mkF m 36 #[.val (.ref a), .val (.ref b)] [(.int (1 : Int32))])
    refine Go.of (fun _ q => XS.goto X.here hx rfl (pc0 := 36) (pc' := 40) rfl (hb hby d3_36) (by decide) (by decide) q) ?_
    show Go p e below s _ _ T (mkF m 40 #[.val (.ref a), .val (.ref b)] [(.int (1 : Int32))])
    refine Go.retN X hx hret (by simp) hlk (hb hby d3_40) (by decide) (by decide) ?_
    try rw [eT]
    exact ⟨by rw [show own_lt q1 p1 q2 p2 = (1 : Int32) by first | (simp [own_lt, hc9]; done) | (rename_i q; simp [own_lt, own_eq, hc9])]; rfl, N, rfl⟩
  · refine Go.of (fun _ q => XS.ifNo X.here hx rfl (hb hby d3_9) rfl (cFlt hc9).1 q) ?_
    show Go p e below s _ _ T (mkF m 12 #[.val (.ref a), .val (.ref b)] [])
    refine Go.of (fun _ q => XS.aloadN X.here hx rfl (hb hby d3_12) rfl rfl q) ?_
    show Go p e below s _ _ T (mkF m 13 #[.val (.ref a), .val (.ref b)] [(.ref a)])
    refine Go.getF X hx hZ hown (hw _ (List.mem_of_getElem? (i := 9) rfl)) Via.refl eT F_line_a (hb hby d3_13) ?_
    intro T X eT
    show Go p e below s _ _ T (mkF m 16 #[.val (.ref a), .val (.ref b)] [(.long q1)])
    refine Go.of (fun _ q => XS.aloadN X.here hx rfl (hb hby d3_16) rfl rfl q) ?_
    show Go p e below s _ _ T (mkF m 17 #[.val (.ref a), .val (.ref b)] [(.ref b), (.long q1)])
    refine Go.getF X hx hZ hown (hw _ (List.mem_of_getElem? (i := 9) rfl)) Via.refl eT F_line_b (hb hby d3_17) ?_
    intro T X eT
    show Go p e below s _ _ T (mkF m 20 #[.val (.ref a), .val (.ref b)] [(.long q2), (.long q1)])
    refine Go.of (fun _ q => XS.lcmp X.here hx rfl (hb hby d3_20) rfl q) ?_
    show Go p e below s _ _ T (mkF m 21 #[.val (.ref a), .val (.ref b)] [(.int (lcmpW q1 q2))])
    by_cases hc21 : q1 = q2
    · refine Go.of (fun _ q => XS.ifNo X.here hx rfl (hb hby d3_21) rfl (cZeq hc21).2 q) ?_
      show Go p e below s _ _ T (mkF m 24 #[.val (.ref a), .val (.ref b)] [])
      refine Go.of (fun _ q => XS.aloadN X.here hx rfl (hb hby d3_24) rfl rfl q) ?_
      show Go p e below s _ _ T (mkF m 25 #[.val (.ref a), .val (.ref b)] [(.ref a)])
      refine Go.getF X hx hZ hown (hw _ (List.mem_of_getElem? (i := 11) rfl)) Via.refl eT F_column_a (hb hby d3_25) ?_
      intro T X eT
      show Go p e below s _ _ T (mkF m 28 #[.val (.ref a), .val (.ref b)] [(.int p1)])
      refine Go.of (fun _ q => XS.aloadN X.here hx rfl (hb hby d3_28) rfl rfl q) ?_
      show Go p e below s _ _ T (mkF m 29 #[.val (.ref a), .val (.ref b)] [(.ref b), (.int p1)])
      refine Go.getF X hx hZ hown (hw _ (List.mem_of_getElem? (i := 11) rfl)) Via.refl eT F_column_b (hb hby d3_29) ?_
      intro T X eT
      show Go p e below s _ _ T (mkF m 32 #[.val (.ref a), .val (.ref b)] [(.int p2), (.int p1)])
      by_cases hc32 : p1 < p2
      · refine Go.of (fun _ q => XS.icmpNo X.here hx rfl (hb hby d3_32) rfl (tlt hc32).2.1 q) ?_
        show Go p e below s _ _ T (mkF m 35 #[.val (.ref a), .val (.ref b)] [])
        refine Go.of (fun _ q => XS.iconst X.here hx rfl (hb hby d3_35) q) ?_
        show Go p e below s _ _ T (mkF m 36 #[.val (.ref a), .val (.ref b)] [(.int (1 : Int32))])
        refine Go.of (fun _ q => XS.goto X.here hx rfl (pc0 := 36) (pc' := 40) rfl (hb hby d3_36) (by decide) (by decide) q) ?_
        show Go p e below s _ _ T (mkF m 40 #[.val (.ref a), .val (.ref b)] [(.int (1 : Int32))])
        refine Go.retN X hx hret (by simp) hlk (hb hby d3_40) (by decide) (by decide) ?_
        try rw [eT]
        exact ⟨by rw [show own_lt q1 p1 q2 p2 = (1 : Int32) by first | (simp [own_lt, hc9, hc21, hc32]; done) | (rename_i q; simp [own_lt, own_eq, hc9, hc21, hc32])]; rfl, N, rfl⟩
      · refine Go.of (fun _ q => XS.icmpYes X.here hx rfl (pc0 := 32) (pc' := 39) rfl (hb hby d3_32) rfl (flt hc32).2.1 (by decide) (by decide) q) ?_
        show Go p e below s _ _ T (mkF m 39 #[.val (.ref a), .val (.ref b)] [])
        refine Go.of (fun _ q => XS.iconst X.here hx rfl (hb hby d3_39) q) ?_
        show Go p e below s _ _ T (mkF m 40 #[.val (.ref a), .val (.ref b)] [(.int (0 : Int32))])
        refine Go.retN X hx hret (by simp) hlk (hb hby d3_40) (by decide) (by decide) ?_
        try rw [eT]
        exact ⟨by rw [show own_lt q1 p1 q2 p2 = (0 : Int32) by first | (simp [own_lt, hc9, hc21, hc32]; done) | (rename_i q; simp [own_lt, own_eq, hc9, hc21, hc32])]; rfl, N, rfl⟩
    · refine Go.of (fun _ q => XS.ifYes X.here hx rfl (pc0 := 21) (pc' := 39) rfl (hb hby d3_21) rfl (cFeq hc21).2 (by decide) (by decide) q) ?_
      show Go p e below s _ _ T (mkF m 39 #[.val (.ref a), .val (.ref b)] [])
      refine Go.of (fun _ q => XS.iconst X.here hx rfl (hb hby d3_39) q) ?_
      show Go p e below s _ _ T (mkF m 40 #[.val (.ref a), .val (.ref b)] [(.int (0 : Int32))])
      refine Go.retN X hx hret (by simp) hlk (hb hby d3_40) (by decide) (by decide) ?_
      try rw [eT]
      exact ⟨by rw [show own_lt q1 p1 q2 p2 = (0 : Int32) by first | (simp [own_lt, hc9, hc21]; done) | (rename_i q; simp [own_lt, own_eq, hc9, hc21])]; rfl, N, rfl⟩
theorem d4_0 : decode method_2_code 0 = .ok (.lload_n 0, 1) := by decide +kernel
theorem d4_1 : decode method_2_code 1 = .ok (.lload_n 3, 1) := by decide +kernel
theorem d4_2 : decode method_2_code 2 = .ok (.lcmp, 1) := by decide +kernel
theorem d4_3 : decode method_2_code 3 = .ok (.ifCond .eq 15, 3) := by decide +kernel
theorem d4_6 : decode method_2_code 6 = .ok (.lload_n 0, 1) := by decide +kernel
theorem d4_7 : decode method_2_code 7 = .ok (.lload_n 3, 1) := by decide +kernel
theorem d4_8 : decode method_2_code 8 = .ok (.lcmp, 1) := by decide +kernel
theorem d4_9 : decode method_2_code 9 = .ok (.ifCond .ge 7, 3) := by decide +kernel
theorem d4_12 : decode method_2_code 12 = .ok (.iconst 1, 1) := by decide +kernel
theorem d4_13 : decode method_2_code 13 = .ok (.goto 4, 3) := by decide +kernel
theorem d4_16 : decode method_2_code 16 = .ok (.iconst 0, 1) := by decide +kernel
theorem d4_17 : decode method_2_code 17 = .ok (.ireturn, 1) := by decide +kernel
theorem d4_18 : decode method_2_code 18 = .ok (.iload_n 2, 1) := by decide +kernel
theorem d4_19 : decode method_2_code 19 = .ok (.iload 5, 2) := by decide +kernel
theorem d4_21 : decode method_2_code 21 = .ok (.if_icmp .ge 7, 3) := by decide +kernel
theorem d4_24 : decode method_2_code 24 = .ok (.iconst 1, 1) := by decide +kernel
theorem d4_25 : decode method_2_code 25 = .ok (.goto 4, 3) := by decide +kernel
theorem d4_28 : decode method_2_code 28 = .ok (.iconst 0, 1) := by decide +kernel
theorem d4_29 : decode method_2_code 29 = .ok (.ireturn, 1) := by decide +kernel
theorem pn4 : plainFor (⟨"com/example/fixpoint/fixpoint/PositionIsBeforePinLaw", "ref", "(JIJI)Z"⟩ : MethodName) = true := plainFor_of_name (by first | (simp [plainName, overriddenIn]; done) | decide +kernel)
theorem ef_rm4 (m : MethodId) (x0 : Int64) (x1 : Int32) (x2 : Int64) (x3 : Int32) : entryFrame m #[(.long x0), (.int x1), (.long x2), (.int x3)] 6 = mkF m 0 #[.val (.long x0), .second, .val (.int x1), .val (.long x2), .second, .val (.int x3)] [] := by first | (simp [entryFrame, mkF, argsToLocals, Value.category]; done) | rfl
set_option maxRecDepth 65536 in
set_option maxHeartbeats 40000000 in
theorem rm4 {l : Launch} {Z : State} {a0 : Array Value} (hw : ∀ d ∈ tables_1, d.before a0 Z = true) (q1 : Int64) (p1 : Int32) (q2 : Int64) (p2 : Int32) (h0 : Heap) (n0 : Nat)  :
    Met l Z (⟨"com/example/fixpoint/fixpoint/PositionIsBeforePinLaw", "ref", "(JIJI)Z"⟩ : MethodName) method_2_code 6 (some .boolean) [] ({ frames := 0, cells := 0, slots := 0, locals := 0 } : Room) #[(.long q1), (.int p1), (.long q2), (.int p2)] h0 (fun v h L => v = some (.int (own_lt q1 p1 q2 p2)) ∧ Fr n0 L ∧ h = h0) := by
  refine Met.mk pn4 ?_
  intro p e s m below meth c T hx hby hml hown hnm hret hlk hZ X eT
  refine Go.cast (ef_rm4 m q1 p1 q2 p2) ?_
  have N := Fr.nil n0
  show Go p e below s _ _ T (mkF m 0 #[.val (.long q1), .second, .val (.int p1), .val (.long q2), .second, .val (.int p2)] [])
  refine Go.of (fun _ q => XS.lloadN X.here hx rfl (hb hby d4_0) rfl q) ?_
  show Go p e below s _ _ T (mkF m 1 #[.val (.long q1), .second, .val (.int p1), .val (.long q2), .second, .val (.int p2)] [(.long q1)])
  refine Go.of (fun _ q => XS.lloadN X.here hx rfl (hb hby d4_1) rfl q) ?_
  show Go p e below s _ _ T (mkF m 2 #[.val (.long q1), .second, .val (.int p1), .val (.long q2), .second, .val (.int p2)] [(.long q2), (.long q1)])
  refine Go.of (fun _ q => XS.lcmp X.here hx rfl (hb hby d4_2) rfl q) ?_
  show Go p e below s _ _ T (mkF m 3 #[.val (.long q1), .second, .val (.int p1), .val (.long q2), .second, .val (.int p2)] [(.int (lcmpW q1 q2))])
  by_cases hc3 : q1 = q2
  · refine Go.of (fun _ q => XS.ifYes X.here hx rfl (pc0 := 3) (pc' := 18) rfl (hb hby d4_3) rfl (cZeq hc3).1 (by decide) (by decide) q) ?_
    show Go p e below s _ _ T (mkF m 18 #[.val (.long q1), .second, .val (.int p1), .val (.long q2), .second, .val (.int p2)] [])
    refine Go.of (fun _ q => XS.iloadN X.here hx rfl (hb hby d4_18) rfl q) ?_
    show Go p e below s _ _ T (mkF m 19 #[.val (.long q1), .second, .val (.int p1), .val (.long q2), .second, .val (.int p2)] [(.int p1)])
    refine Go.of (fun _ q => XS.iload X.here hx rfl (hb hby d4_19) rfl q) ?_
    show Go p e below s _ _ T (mkF m 21 #[.val (.long q1), .second, .val (.int p1), .val (.long q2), .second, .val (.int p2)] [(.int p2), (.int p1)])
    by_cases hc21 : p1 < p2
    · refine Go.of (fun _ q => XS.icmpNo X.here hx rfl (hb hby d4_21) rfl (tlt hc21).2.1 q) ?_
      show Go p e below s _ _ T (mkF m 24 #[.val (.long q1), .second, .val (.int p1), .val (.long q2), .second, .val (.int p2)] [])
      refine Go.of (fun _ q => XS.iconst X.here hx rfl (hb hby d4_24) q) ?_
      show Go p e below s _ _ T (mkF m 25 #[.val (.long q1), .second, .val (.int p1), .val (.long q2), .second, .val (.int p2)] [(.int (1 : Int32))])
      refine Go.of (fun _ q => XS.goto X.here hx rfl (pc0 := 25) (pc' := 29) rfl (hb hby d4_25) (by decide) (by decide) q) ?_
      show Go p e below s _ _ T (mkF m 29 #[.val (.long q1), .second, .val (.int p1), .val (.long q2), .second, .val (.int p2)] [(.int (1 : Int32))])
      refine Go.retN X hx hret (by simp) hlk (hb hby d4_29) (by decide) (by decide) ?_
      try rw [eT]
      exact ⟨by rw [show own_lt q1 p1 q2 p2 = (1 : Int32) by first | (simp [own_lt, hc3, hc21]; done) | (rename_i q; simp [own_lt, own_eq, hc3, hc21])]; rfl, N, rfl⟩
    · refine Go.of (fun _ q => XS.icmpYes X.here hx rfl (pc0 := 21) (pc' := 28) rfl (hb hby d4_21) rfl (flt hc21).2.1 (by decide) (by decide) q) ?_
      show Go p e below s _ _ T (mkF m 28 #[.val (.long q1), .second, .val (.int p1), .val (.long q2), .second, .val (.int p2)] [])
      refine Go.of (fun _ q => XS.iconst X.here hx rfl (hb hby d4_28) q) ?_
      show Go p e below s _ _ T (mkF m 29 #[.val (.long q1), .second, .val (.int p1), .val (.long q2), .second, .val (.int p2)] [(.int (0 : Int32))])
      refine Go.retN X hx hret (by simp) hlk (hb hby d4_29) (by decide) (by decide) ?_
      try rw [eT]
      exact ⟨by rw [show own_lt q1 p1 q2 p2 = (0 : Int32) by first | (simp [own_lt, hc3, hc21]; done) | (rename_i q; simp [own_lt, own_eq, hc3, hc21])]; rfl, N, rfl⟩
  · refine Go.of (fun _ q => XS.ifNo X.here hx rfl (hb hby d4_3) rfl (cFeq hc3).1 q) ?_
    show Go p e below s _ _ T (mkF m 6 #[.val (.long q1), .second, .val (.int p1), .val (.long q2), .second, .val (.int p2)] [])
    refine Go.of (fun _ q => XS.lloadN X.here hx rfl (hb hby d4_6) rfl q) ?_
    show Go p e below s _ _ T (mkF m 7 #[.val (.long q1), .second, .val (.int p1), .val (.long q2), .second, .val (.int p2)] [(.long q1)])
    refine Go.of (fun _ q => XS.lloadN X.here hx rfl (hb hby d4_7) rfl q) ?_
    show Go p e below s _ _ T (mkF m 8 #[.val (.long q1), .second, .val (.int p1), .val (.long q2), .second, .val (.int p2)] [(.long q2), (.long q1)])
    refine Go.of (fun _ q => XS.lcmp X.here hx rfl (hb hby d4_8) rfl q) ?_
    show Go p e below s _ _ T (mkF m 9 #[.val (.long q1), .second, .val (.int p1), .val (.long q2), .second, .val (.int p2)] [(.int (lcmpW q1 q2))])
    by_cases hc9 : q1 < q2
    · refine Go.of (fun _ q => XS.ifNo X.here hx rfl (hb hby d4_9) rfl (cZlt hc9).2 q) ?_
      show Go p e below s _ _ T (mkF m 12 #[.val (.long q1), .second, .val (.int p1), .val (.long q2), .second, .val (.int p2)] [])
      refine Go.of (fun _ q => XS.iconst X.here hx rfl (hb hby d4_12) q) ?_
      show Go p e below s _ _ T (mkF m 13 #[.val (.long q1), .second, .val (.int p1), .val (.long q2), .second, .val (.int p2)] [(.int (1 : Int32))])
      refine Go.of (fun _ q => XS.goto X.here hx rfl (pc0 := 13) (pc' := 17) rfl (hb hby d4_13) (by decide) (by decide) q) ?_
      show Go p e below s _ _ T (mkF m 17 #[.val (.long q1), .second, .val (.int p1), .val (.long q2), .second, .val (.int p2)] [(.int (1 : Int32))])
      refine Go.retN X hx hret (by simp) hlk (hb hby d4_17) (by decide) (by decide) ?_
      try rw [eT]
      exact ⟨by rw [show own_lt q1 p1 q2 p2 = (1 : Int32) by first | (simp [own_lt, hc3, hc9]; done) | (rename_i q; simp [own_lt, own_eq, hc3, hc9])]; rfl, N, rfl⟩
    · refine Go.of (fun _ q => XS.ifYes X.here hx rfl (pc0 := 9) (pc' := 16) rfl (hb hby d4_9) rfl (cFlt hc9).2 (by decide) (by decide) q) ?_
      show Go p e below s _ _ T (mkF m 16 #[.val (.long q1), .second, .val (.int p1), .val (.long q2), .second, .val (.int p2)] [])
      refine Go.of (fun _ q => XS.iconst X.here hx rfl (hb hby d4_16) q) ?_
      show Go p e below s _ _ T (mkF m 17 #[.val (.long q1), .second, .val (.int p1), .val (.long q2), .second, .val (.int p2)] [(.int (0 : Int32))])
      refine Go.retN X hx hret (by simp) hlk (hb hby d4_17) (by decide) (by decide) ?_
      try rw [eT]
      exact ⟨by rw [show own_lt q1 p1 q2 p2 = (0 : Int32) by first | (simp [own_lt, hc3, hc9]; done) | (rename_i q; simp [own_lt, own_eq, hc3, hc9])]; rfl, N, rfl⟩
theorem pn0 : plainFor x = true := plainFor_of_name (by first | (simp [plainName, overriddenIn]; done) | decide +kernel)
theorem ef_rm0 (m : MethodId) (x0 : Int64) (x1 : Int32) (x2 : Int64) (x3 : Int32) (x4 : Int64) (x5 : Int32) : entryFrame m #[(.long x0), (.int x1), (.long x2), (.int x3), (.long x4), (.int x5)] maxLocals = mkF m 0 #[.val (.long x0), .second, .val (.int x1), .val (.long x2), .second, .val (.int x3), .val (.long x4), .second, .val (.int x5), .unset, .unset, .unset, .unset, .unset, .unset, .unset, .unset] [] := by first | (simp [entryFrame, mkF, argsToLocals, Value.category, maxLocals]; done) | rfl
set_option maxRecDepth 65536 in
set_option maxHeartbeats 40000000 in
theorem rm0 {l : Launch} {Z : State} {a0 : Array Value} (hw : ∀ d ∈ tables_1, d.before a0 Z = true) (q0 : Int64) (p0 : Int32) (q1 : Int64) (p1 : Int32) (q2 : Int64) (p2 : Int32) (h0 : Heap) (n0 : Nat) (Z0 : n0 ≤ h0.size) :
    Met l Z x code maxLocals ret tables_1 room_1 #[(.long q0), (.int p0), (.long q1), (.int p1), (.long q2), (.int p2)] h0 (fun v h L => v = some (.int 1) ∧ Fr n0 L) := by
  refine Met.mk pn0 ?_
  intro p e s m below meth c T hx hby hml hown hnm hret hlk hZ X eT
  refine Go.cast (ef_rm0 m q0 p0 q1 p1 q2 p2) ?_
  have N := Fr.nil n0
  have K := Keep.refl h0 []
  show Go p e below s _ _ T (mkF m 0 #[.val (.long q0), .second, .val (.int p0), .val (.long q1), .second, .val (.int p1), .val (.long q2), .second, .val (.int p2), .unset, .unset, .unset, .unset, .unset, .unset, .unset, .unset] [])
  refine Go.newO X hx hZ hown (hw _ (List.mem_of_getElem? (i := 0) rfl)) (hw _ (List.mem_of_getElem? (i := 1) rfl)) (hw _ (List.mem_of_getElem? (i := 2) rfl)) eT (hb hby at_0) (by decide) (by decide) ?_
  intro T h b0 X eT E ha E_b0 D_b0
  have z_b0 : h0.size ≤ b0 := by rw [ha]; exact K.1
  have g_b0 : n0 ≤ b0 := Nat.le_trans Z0 z_b0
  have K := K.ext E
  have F_line_b0 : Fld Z h b0 "com/example/fixpoint/fixpoint/Position" "line" "J" (.long (0 : Int64)) := D_b0 (Or.inr (hw _ (List.mem_of_getElem? (i := 10) rfl))) (ty := .long) (by decide)
  have F_column_b0 : Fld Z h b0 "com/example/fixpoint/fixpoint/Position" "column" "I" (.int (0 : Int32)) := D_b0 (Or.inr (hw _ (List.mem_of_getElem? (i := 12) rfl))) (ty := .int) (by decide)
  show Go p e below s _ _ T (mkF m 3 #[.val (.long q0), .second, .val (.int p0), .val (.long q1), .second, .val (.int p1), .val (.long q2), .second, .val (.int p2), .unset, .unset, .unset, .unset, .unset, .unset, .unset, .unset] [(.ref b0)])
  refine Go.of (fun _ q => XS.dup X.here hx rfl (hb hby at_3) rfl rfl q) ?_
  show Go p e below s _ _ T (mkF m 4 #[.val (.long q0), .second, .val (.int p0), .val (.long q1), .second, .val (.int p1), .val (.long q2), .second, .val (.int p2), .unset, .unset, .unset, .unset, .unset, .unset, .unset, .unset] [(.ref b0), (.ref b0)])
  refine Go.of (fun _ q => XS.lloadN X.here hx rfl (hb hby at_4) rfl q) ?_
  show Go p e below s _ _ T (mkF m 5 #[.val (.long q0), .second, .val (.int p0), .val (.long q1), .second, .val (.int p1), .val (.long q2), .second, .val (.int p2), .unset, .unset, .unset, .unset, .unset, .unset, .unset, .unset] [(.long q0), (.ref b0), (.ref b0)])
  refine Go.of (fun _ q => XS.iloadN X.here hx rfl (hb hby at_5) rfl q) ?_
  show Go p e below s _ _ T (mkF m 6 #[.val (.long q0), .second, .val (.int p0), .val (.long q1), .second, .val (.int p1), .val (.long q2), .second, .val (.int p2), .unset, .unset, .unset, .unset, .unset, .unset, .unset, .unset] [(.int p0), (.long q0), (.ref b0), (.ref b0)])
  refine Go.special (a := b0) X hx hZ hown rfl (hw _ (List.mem_of_getElem? (i := 3) rfl)) (hw _ (List.mem_of_getElem? (i := 4) rfl)) (hw _ (List.mem_of_getElem? (i := 2) rfl)) (hw _ (List.mem_of_getElem? (i := 5) rfl)) (by decide) (rm1 hw b0 q0 p0 _ n0 g_b0 E_b0 F_line_b0 F_column_b0) eT 1 (by decide) (by decide) (by decide) (by decide) (by rw [hml]; rfl) (argsL := [(.long q0), (.int p0)]) [(.ref b0)] (lenOf pd0 rfl) rfl rfl (Nat.le_of_eq rfl) (hb hby at_6) ?_
  intro v T L' X hQ
  obtain ⟨h, eT⟩ : ∃ z, T.heap = z := ⟨_, rfl⟩
  rw [eT] at hQ
  obtain ⟨rfl, N', K', F_line_b0, F_column_b0⟩ := hQ
  have N := Fr.app N N'
  have K := K.trans K' (own_all1 (Or.inr z_b0))
  have E_b0 := E_b0.keep K'
  show Go p e below s _ _ T (mkF m 9 #[.val (.long q0), .second, .val (.int p0), .val (.long q1), .second, .val (.int p1), .val (.long q2), .second, .val (.int p2), .unset, .unset, .unset, .unset, .unset, .unset, .unset, .unset] [(.ref b0)])
  refine Go.of (fun _ q => XS.astore X.here hx rfl (hb hby at_9) rfl rfl (l' := #[.val (.long q0), .second, .val (.int p0), .val (.long q1), .second, .val (.int p1), .val (.long q2), .second, .val (.int p2), .val (.ref b0), .unset, .unset, .unset, .unset, .unset, .unset, .unset]) rfl q) ?_
  show Go p e below s _ _ T (mkF m 11 #[.val (.long q0), .second, .val (.int p0), .val (.long q1), .second, .val (.int p1), .val (.long q2), .second, .val (.int p2), .val (.ref b0), .unset, .unset, .unset, .unset, .unset, .unset, .unset] [])
  refine Go.newO X hx hZ hown (hw _ (List.mem_of_getElem? (i := 0) rfl)) (hw _ (List.mem_of_getElem? (i := 1) rfl)) (hw _ (List.mem_of_getElem? (i := 2) rfl)) eT (hb hby at_11) (by decide) (by decide) ?_
  intro T h b11 X eT E ha E_b11 D_b11
  have ne_b0_b11 : b0 ≠ b11 := by rw [ha]; exact Nat.ne_of_lt E_b0.lt
  have z_b11 : h0.size ≤ b11 := by rw [ha]; exact K.1
  have g_b11 : n0 ≤ b11 := Nat.le_trans Z0 z_b11
  have K := K.ext E
  have E_b0 := E_b0.ext E
  have F_line_b0 := F_line_b0.ext E
  have F_column_b0 := F_column_b0.ext E
  have F_line_b11 : Fld Z h b11 "com/example/fixpoint/fixpoint/Position" "line" "J" (.long (0 : Int64)) := D_b11 (Or.inr (hw _ (List.mem_of_getElem? (i := 10) rfl))) (ty := .long) (by decide)
  have F_column_b11 : Fld Z h b11 "com/example/fixpoint/fixpoint/Position" "column" "I" (.int (0 : Int32)) := D_b11 (Or.inr (hw _ (List.mem_of_getElem? (i := 12) rfl))) (ty := .int) (by decide)
  show Go p e below s _ _ T (mkF m 14 #[.val (.long q0), .second, .val (.int p0), .val (.long q1), .second, .val (.int p1), .val (.long q2), .second, .val (.int p2), .val (.ref b0), .unset, .unset, .unset, .unset, .unset, .unset, .unset] [(.ref b11)])
  refine Go.of (fun _ q => XS.dup X.here hx rfl (hb hby at_14) rfl rfl q) ?_
  show Go p e below s _ _ T (mkF m 15 #[.val (.long q0), .second, .val (.int p0), .val (.long q1), .second, .val (.int p1), .val (.long q2), .second, .val (.int p2), .val (.ref b0), .unset, .unset, .unset, .unset, .unset, .unset, .unset] [(.ref b11), (.ref b11)])
  refine Go.of (fun _ q => XS.lloadN X.here hx rfl (hb hby at_15) rfl q) ?_
  show Go p e below s _ _ T (mkF m 16 #[.val (.long q0), .second, .val (.int p0), .val (.long q1), .second, .val (.int p1), .val (.long q2), .second, .val (.int p2), .val (.ref b0), .unset, .unset, .unset, .unset, .unset, .unset, .unset] [(.long q1), (.ref b11), (.ref b11)])
  refine Go.of (fun _ q => XS.iload X.here hx rfl (hb hby at_16) rfl q) ?_
  show Go p e below s _ _ T (mkF m 18 #[.val (.long q0), .second, .val (.int p0), .val (.long q1), .second, .val (.int p1), .val (.long q2), .second, .val (.int p2), .val (.ref b0), .unset, .unset, .unset, .unset, .unset, .unset, .unset] [(.int p1), (.long q1), (.ref b11), (.ref b11)])
  refine Go.special (a := b11) X hx hZ hown rfl (hw _ (List.mem_of_getElem? (i := 3) rfl)) (hw _ (List.mem_of_getElem? (i := 4) rfl)) (hw _ (List.mem_of_getElem? (i := 2) rfl)) (hw _ (List.mem_of_getElem? (i := 5) rfl)) (by decide) (rm1 hw b11 q1 p1 _ n0 g_b11 E_b11 F_line_b11 F_column_b11) eT 1 (by decide) (by decide) (by decide) (by decide) (by rw [hml]; rfl) (argsL := [(.long q1), (.int p1)]) [(.ref b11)] (lenOf pd0 rfl) rfl rfl (Nat.le_of_eq rfl) (hb hby at_18) ?_
  intro v T L' X hQ
  obtain ⟨h, eT⟩ : ∃ z, T.heap = z := ⟨_, rfl⟩
  rw [eT] at hQ
  obtain ⟨rfl, N', K', F_line_b11, F_column_b11⟩ := hQ
  have N := Fr.app N N'
  have K := K.trans K' (own_all1 (Or.inr z_b11))
  have E_b0 := E_b0.keep K'
  have F_line_b0 := F_line_b0.keep K' (own_ni1 ne_b0_b11)
  have F_column_b0 := F_column_b0.keep K' (own_ni1 ne_b0_b11)
  have E_b11 := E_b11.keep K'
  show Go p e below s _ _ T (mkF m 21 #[.val (.long q0), .second, .val (.int p0), .val (.long q1), .second, .val (.int p1), .val (.long q2), .second, .val (.int p2), .val (.ref b0), .unset, .unset, .unset, .unset, .unset, .unset, .unset] [(.ref b11)])
  refine Go.of (fun _ q => XS.astore X.here hx rfl (hb hby at_21) rfl rfl (l' := #[.val (.long q0), .second, .val (.int p0), .val (.long q1), .second, .val (.int p1), .val (.long q2), .second, .val (.int p2), .val (.ref b0), .val (.ref b11), .unset, .unset, .unset, .unset, .unset, .unset]) rfl q) ?_
  show Go p e below s _ _ T (mkF m 23 #[.val (.long q0), .second, .val (.int p0), .val (.long q1), .second, .val (.int p1), .val (.long q2), .second, .val (.int p2), .val (.ref b0), .val (.ref b11), .unset, .unset, .unset, .unset, .unset, .unset] [])
  refine Go.newO X hx hZ hown (hw _ (List.mem_of_getElem? (i := 0) rfl)) (hw _ (List.mem_of_getElem? (i := 1) rfl)) (hw _ (List.mem_of_getElem? (i := 2) rfl)) eT (hb hby at_23) (by decide) (by decide) ?_
  intro T h b23 X eT E ha E_b23 D_b23
  have ne_b0_b23 : b0 ≠ b23 := by rw [ha]; exact Nat.ne_of_lt E_b0.lt
  have ne_b11_b23 : b11 ≠ b23 := by rw [ha]; exact Nat.ne_of_lt E_b11.lt
  have z_b23 : h0.size ≤ b23 := by rw [ha]; exact K.1
  have g_b23 : n0 ≤ b23 := Nat.le_trans Z0 z_b23
  have K := K.ext E
  have E_b0 := E_b0.ext E
  have F_line_b0 := F_line_b0.ext E
  have F_column_b0 := F_column_b0.ext E
  have E_b11 := E_b11.ext E
  have F_line_b11 := F_line_b11.ext E
  have F_column_b11 := F_column_b11.ext E
  have F_line_b23 : Fld Z h b23 "com/example/fixpoint/fixpoint/Position" "line" "J" (.long (0 : Int64)) := D_b23 (Or.inr (hw _ (List.mem_of_getElem? (i := 10) rfl))) (ty := .long) (by decide)
  have F_column_b23 : Fld Z h b23 "com/example/fixpoint/fixpoint/Position" "column" "I" (.int (0 : Int32)) := D_b23 (Or.inr (hw _ (List.mem_of_getElem? (i := 12) rfl))) (ty := .int) (by decide)
  show Go p e below s _ _ T (mkF m 26 #[.val (.long q0), .second, .val (.int p0), .val (.long q1), .second, .val (.int p1), .val (.long q2), .second, .val (.int p2), .val (.ref b0), .val (.ref b11), .unset, .unset, .unset, .unset, .unset, .unset] [(.ref b23)])
  refine Go.of (fun _ q => XS.dup X.here hx rfl (hb hby at_26) rfl rfl q) ?_
  show Go p e below s _ _ T (mkF m 27 #[.val (.long q0), .second, .val (.int p0), .val (.long q1), .second, .val (.int p1), .val (.long q2), .second, .val (.int p2), .val (.ref b0), .val (.ref b11), .unset, .unset, .unset, .unset, .unset, .unset] [(.ref b23), (.ref b23)])
  refine Go.of (fun _ q => XS.lload X.here hx rfl (hb hby at_27) rfl q) ?_
  show Go p e below s _ _ T (mkF m 29 #[.val (.long q0), .second, .val (.int p0), .val (.long q1), .second, .val (.int p1), .val (.long q2), .second, .val (.int p2), .val (.ref b0), .val (.ref b11), .unset, .unset, .unset, .unset, .unset, .unset] [(.long q2), (.ref b23), (.ref b23)])
  refine Go.of (fun _ q => XS.iload X.here hx rfl (hb hby at_29) rfl q) ?_
  show Go p e below s _ _ T (mkF m 31 #[.val (.long q0), .second, .val (.int p0), .val (.long q1), .second, .val (.int p1), .val (.long q2), .second, .val (.int p2), .val (.ref b0), .val (.ref b11), .unset, .unset, .unset, .unset, .unset, .unset] [(.int p2), (.long q2), (.ref b23), (.ref b23)])
  refine Go.special (a := b23) X hx hZ hown rfl (hw _ (List.mem_of_getElem? (i := 3) rfl)) (hw _ (List.mem_of_getElem? (i := 4) rfl)) (hw _ (List.mem_of_getElem? (i := 2) rfl)) (hw _ (List.mem_of_getElem? (i := 5) rfl)) (by decide) (rm1 hw b23 q2 p2 _ n0 g_b23 E_b23 F_line_b23 F_column_b23) eT 1 (by decide) (by decide) (by decide) (by decide) (by rw [hml]; rfl) (argsL := [(.long q2), (.int p2)]) [(.ref b23)] (lenOf pd0 rfl) rfl rfl (Nat.le_of_eq rfl) (hb hby at_31) ?_
  intro v T L' X hQ
  obtain ⟨h, eT⟩ : ∃ z, T.heap = z := ⟨_, rfl⟩
  rw [eT] at hQ
  obtain ⟨rfl, N', K', F_line_b23, F_column_b23⟩ := hQ
  have N := Fr.app N N'
  have K := K.trans K' (own_all1 (Or.inr z_b23))
  have E_b0 := E_b0.keep K'
  have F_line_b0 := F_line_b0.keep K' (own_ni1 ne_b0_b23)
  have F_column_b0 := F_column_b0.keep K' (own_ni1 ne_b0_b23)
  have E_b11 := E_b11.keep K'
  have F_line_b11 := F_line_b11.keep K' (own_ni1 ne_b11_b23)
  have F_column_b11 := F_column_b11.keep K' (own_ni1 ne_b11_b23)
  have E_b23 := E_b23.keep K'
  show Go p e below s _ _ T (mkF m 34 #[.val (.long q0), .second, .val (.int p0), .val (.long q1), .second, .val (.int p1), .val (.long q2), .second, .val (.int p2), .val (.ref b0), .val (.ref b11), .unset, .unset, .unset, .unset, .unset, .unset] [(.ref b23)])
  refine Go.of (fun _ q => XS.astore X.here hx rfl (hb hby at_34) rfl rfl (l' := #[.val (.long q0), .second, .val (.int p0), .val (.long q1), .second, .val (.int p1), .val (.long q2), .second, .val (.int p2), .val (.ref b0), .val (.ref b11), .val (.ref b23), .unset, .unset, .unset, .unset, .unset]) rfl q) ?_
  show Go p e below s _ _ T (mkF m 36 #[.val (.long q0), .second, .val (.int p0), .val (.long q1), .second, .val (.int p1), .val (.long q2), .second, .val (.int p2), .val (.ref b0), .val (.ref b11), .val (.ref b23), .unset, .unset, .unset, .unset, .unset] [])
  refine Go.of (fun _ q => XS.aload X.here hx rfl (hb hby at_36) rfl rfl q) ?_
  show Go p e below s _ _ T (mkF m 38 #[.val (.long q0), .second, .val (.int p0), .val (.long q1), .second, .val (.int p1), .val (.long q2), .second, .val (.int p2), .val (.ref b0), .val (.ref b11), .val (.ref b23), .unset, .unset, .unset, .unset, .unset] [(.ref b0)])
  refine Go.of (fun _ q => XS.aload X.here hx rfl (hb hby at_38) rfl rfl q) ?_
  show Go p e below s _ _ T (mkF m 40 #[.val (.long q0), .second, .val (.int p0), .val (.long q1), .second, .val (.int p1), .val (.long q2), .second, .val (.int p2), .val (.ref b0), .val (.ref b11), .val (.ref b23), .unset, .unset, .unset, .unset, .unset] [(.ref b11), (.ref b0)])
  refine Go.virtual (a := b0) X hx hZ hown (hw _ (List.mem_of_getElem? (i := 13) rfl)) (hw _ (List.mem_of_getElem? (i := 14) rfl)) (notFace_of_selects (args := #[]) (mvT hZ (hw _ (List.mem_of_getElem? (i := 16) rfl)))) (hw _ (List.mem_of_getElem? (i := 16) rfl)) (hw _ (List.mem_of_getElem? (i := 15) rfl)) (hw _ (List.mem_of_getElem? (i := 2) rfl)) (hw _ (List.mem_of_getElem? (i := 17) rfl)) (by decide) (rm3 hw b0 b11 q0 q1 p0 p1 _ n0 F_line_b0 F_column_b0 F_line_b11 F_column_b11) eT E_b0 0 (by decide) (by decide) (by decide) (by decide) (by rw [hml]; rfl) (argsL := [(.ref b11)]) [] (lenOf pd1 rfl) rfl rfl (Nat.le_of_eq rfl) (hb hby at_40) ?_
  intro v T L' X hQ
  obtain ⟨rfl, N', eT⟩ := hQ
  have N := Fr.app N N'
  show Go p e below s _ _ T (mkF m 43 #[.val (.long q0), .second, .val (.int p0), .val (.long q1), .second, .val (.int p1), .val (.long q2), .second, .val (.int p2), .val (.ref b0), .val (.ref b11), .val (.ref b23), .unset, .unset, .unset, .unset, .unset] [(.int (own_lt q0 p0 q1 p1))])
  refine Go.of (fun _ q => XS.istore X.here hx rfl (hb hby at_43) rfl (l' := #[.val (.long q0), .second, .val (.int p0), .val (.long q1), .second, .val (.int p1), .val (.long q2), .second, .val (.int p2), .val (.ref b0), .val (.ref b11), .val (.ref b23), .val (.int (own_lt q0 p0 q1 p1)), .unset, .unset, .unset, .unset]) rfl q) ?_
  show Go p e below s _ _ T (mkF m 45 #[.val (.long q0), .second, .val (.int p0), .val (.long q1), .second, .val (.int p1), .val (.long q2), .second, .val (.int p2), .val (.ref b0), .val (.ref b11), .val (.ref b23), .val (.int (own_lt q0 p0 q1 p1)), .unset, .unset, .unset, .unset] [])
  refine Go.of (fun _ q => XS.aload X.here hx rfl (hb hby at_45) rfl rfl q) ?_
  show Go p e below s _ _ T (mkF m 47 #[.val (.long q0), .second, .val (.int p0), .val (.long q1), .second, .val (.int p1), .val (.long q2), .second, .val (.int p2), .val (.ref b0), .val (.ref b11), .val (.ref b23), .val (.int (own_lt q0 p0 q1 p1)), .unset, .unset, .unset, .unset] [(.ref b11)])
  refine Go.of (fun _ q => XS.aload X.here hx rfl (hb hby at_47) rfl rfl q) ?_
  show Go p e below s _ _ T (mkF m 49 #[.val (.long q0), .second, .val (.int p0), .val (.long q1), .second, .val (.int p1), .val (.long q2), .second, .val (.int p2), .val (.ref b0), .val (.ref b11), .val (.ref b23), .val (.int (own_lt q0 p0 q1 p1)), .unset, .unset, .unset, .unset] [(.ref b0), (.ref b11)])
  refine Go.virtual (a := b11) X hx hZ hown (hw _ (List.mem_of_getElem? (i := 13) rfl)) (hw _ (List.mem_of_getElem? (i := 14) rfl)) (notFace_of_selects (args := #[]) (mvT hZ (hw _ (List.mem_of_getElem? (i := 16) rfl)))) (hw _ (List.mem_of_getElem? (i := 16) rfl)) (hw _ (List.mem_of_getElem? (i := 15) rfl)) (hw _ (List.mem_of_getElem? (i := 2) rfl)) (hw _ (List.mem_of_getElem? (i := 17) rfl)) (by decide) (rm3 hw b11 b0 q1 q0 p1 p0 _ n0 F_line_b11 F_column_b11 F_line_b0 F_column_b0) eT E_b11 0 (by decide) (by decide) (by decide) (by decide) (by rw [hml]; rfl) (argsL := [(.ref b0)]) [] (lenOf pd1 rfl) rfl rfl (Nat.le_of_eq rfl) (hb hby at_49) ?_
  intro v T L' X hQ
  obtain ⟨rfl, N', eT⟩ := hQ
  have N := Fr.app N N'
  show Go p e below s _ _ T (mkF m 52 #[.val (.long q0), .second, .val (.int p0), .val (.long q1), .second, .val (.int p1), .val (.long q2), .second, .val (.int p2), .val (.ref b0), .val (.ref b11), .val (.ref b23), .val (.int (own_lt q0 p0 q1 p1)), .unset, .unset, .unset, .unset] [(.int (own_lt q1 p1 q0 p0))])
  refine Go.of (fun _ q => XS.istore X.here hx rfl (hb hby at_52) rfl (l' := #[.val (.long q0), .second, .val (.int p0), .val (.long q1), .second, .val (.int p1), .val (.long q2), .second, .val (.int p2), .val (.ref b0), .val (.ref b11), .val (.ref b23), .val (.int (own_lt q0 p0 q1 p1)), .val (.int (own_lt q1 p1 q0 p0)), .unset, .unset, .unset]) rfl q) ?_
  show Go p e below s _ _ T (mkF m 54 #[.val (.long q0), .second, .val (.int p0), .val (.long q1), .second, .val (.int p1), .val (.long q2), .second, .val (.int p2), .val (.ref b0), .val (.ref b11), .val (.ref b23), .val (.int (own_lt q0 p0 q1 p1)), .val (.int (own_lt q1 p1 q0 p0)), .unset, .unset, .unset] [])
  refine Go.of (fun _ q => XS.aload X.here hx rfl (hb hby at_54) rfl rfl q) ?_
  show Go p e below s _ _ T (mkF m 56 #[.val (.long q0), .second, .val (.int p0), .val (.long q1), .second, .val (.int p1), .val (.long q2), .second, .val (.int p2), .val (.ref b0), .val (.ref b11), .val (.ref b23), .val (.int (own_lt q0 p0 q1 p1)), .val (.int (own_lt q1 p1 q0 p0)), .unset, .unset, .unset] [(.ref b11)])
  refine Go.of (fun _ q => XS.aload X.here hx rfl (hb hby at_56) rfl rfl q) ?_
  show Go p e below s _ _ T (mkF m 58 #[.val (.long q0), .second, .val (.int p0), .val (.long q1), .second, .val (.int p1), .val (.long q2), .second, .val (.int p2), .val (.ref b0), .val (.ref b11), .val (.ref b23), .val (.int (own_lt q0 p0 q1 p1)), .val (.int (own_lt q1 p1 q0 p0)), .unset, .unset, .unset] [(.ref b23), (.ref b11)])
  refine Go.virtual (a := b11) X hx hZ hown (hw _ (List.mem_of_getElem? (i := 13) rfl)) (hw _ (List.mem_of_getElem? (i := 14) rfl)) (notFace_of_selects (args := #[]) (mvT hZ (hw _ (List.mem_of_getElem? (i := 16) rfl)))) (hw _ (List.mem_of_getElem? (i := 16) rfl)) (hw _ (List.mem_of_getElem? (i := 15) rfl)) (hw _ (List.mem_of_getElem? (i := 2) rfl)) (hw _ (List.mem_of_getElem? (i := 17) rfl)) (by decide) (rm3 hw b11 b23 q1 q2 p1 p2 _ n0 F_line_b11 F_column_b11 F_line_b23 F_column_b23) eT E_b11 0 (by decide) (by decide) (by decide) (by decide) (by rw [hml]; rfl) (argsL := [(.ref b23)]) [] (lenOf pd1 rfl) rfl rfl (Nat.le_of_eq rfl) (hb hby at_58) ?_
  intro v T L' X hQ
  obtain ⟨rfl, N', eT⟩ := hQ
  have N := Fr.app N N'
  show Go p e below s _ _ T (mkF m 61 #[.val (.long q0), .second, .val (.int p0), .val (.long q1), .second, .val (.int p1), .val (.long q2), .second, .val (.int p2), .val (.ref b0), .val (.ref b11), .val (.ref b23), .val (.int (own_lt q0 p0 q1 p1)), .val (.int (own_lt q1 p1 q0 p0)), .unset, .unset, .unset] [(.int (own_lt q1 p1 q2 p2))])
  refine Go.of (fun _ q => XS.istore X.here hx rfl (hb hby at_61) rfl (l' := #[.val (.long q0), .second, .val (.int p0), .val (.long q1), .second, .val (.int p1), .val (.long q2), .second, .val (.int p2), .val (.ref b0), .val (.ref b11), .val (.ref b23), .val (.int (own_lt q0 p0 q1 p1)), .val (.int (own_lt q1 p1 q0 p0)), .val (.int (own_lt q1 p1 q2 p2)), .unset, .unset]) rfl q) ?_
  show Go p e below s _ _ T (mkF m 63 #[.val (.long q0), .second, .val (.int p0), .val (.long q1), .second, .val (.int p1), .val (.long q2), .second, .val (.int p2), .val (.ref b0), .val (.ref b11), .val (.ref b23), .val (.int (own_lt q0 p0 q1 p1)), .val (.int (own_lt q1 p1 q0 p0)), .val (.int (own_lt q1 p1 q2 p2)), .unset, .unset] [])
  refine Go.of (fun _ q => XS.aload X.here hx rfl (hb hby at_63) rfl rfl q) ?_
  show Go p e below s _ _ T (mkF m 65 #[.val (.long q0), .second, .val (.int p0), .val (.long q1), .second, .val (.int p1), .val (.long q2), .second, .val (.int p2), .val (.ref b0), .val (.ref b11), .val (.ref b23), .val (.int (own_lt q0 p0 q1 p1)), .val (.int (own_lt q1 p1 q0 p0)), .val (.int (own_lt q1 p1 q2 p2)), .unset, .unset] [(.ref b0)])
  refine Go.of (fun _ q => XS.aload X.here hx rfl (hb hby at_65) rfl rfl q) ?_
  show Go p e below s _ _ T (mkF m 67 #[.val (.long q0), .second, .val (.int p0), .val (.long q1), .second, .val (.int p1), .val (.long q2), .second, .val (.int p2), .val (.ref b0), .val (.ref b11), .val (.ref b23), .val (.int (own_lt q0 p0 q1 p1)), .val (.int (own_lt q1 p1 q0 p0)), .val (.int (own_lt q1 p1 q2 p2)), .unset, .unset] [(.ref b23), (.ref b0)])
  refine Go.virtual (a := b0) X hx hZ hown (hw _ (List.mem_of_getElem? (i := 13) rfl)) (hw _ (List.mem_of_getElem? (i := 14) rfl)) (notFace_of_selects (args := #[]) (mvT hZ (hw _ (List.mem_of_getElem? (i := 16) rfl)))) (hw _ (List.mem_of_getElem? (i := 16) rfl)) (hw _ (List.mem_of_getElem? (i := 15) rfl)) (hw _ (List.mem_of_getElem? (i := 2) rfl)) (hw _ (List.mem_of_getElem? (i := 17) rfl)) (by decide) (rm3 hw b0 b23 q0 q2 p0 p2 _ n0 F_line_b0 F_column_b0 F_line_b23 F_column_b23) eT E_b0 0 (by decide) (by decide) (by decide) (by decide) (by rw [hml]; rfl) (argsL := [(.ref b23)]) [] (lenOf pd1 rfl) rfl rfl (Nat.le_of_eq rfl) (hb hby at_67) ?_
  intro v T L' X hQ
  obtain ⟨rfl, N', eT⟩ := hQ
  have N := Fr.app N N'
  show Go p e below s _ _ T (mkF m 70 #[.val (.long q0), .second, .val (.int p0), .val (.long q1), .second, .val (.int p1), .val (.long q2), .second, .val (.int p2), .val (.ref b0), .val (.ref b11), .val (.ref b23), .val (.int (own_lt q0 p0 q1 p1)), .val (.int (own_lt q1 p1 q0 p0)), .val (.int (own_lt q1 p1 q2 p2)), .unset, .unset] [(.int (own_lt q0 p0 q2 p2))])
  refine Go.of (fun _ q => XS.istore X.here hx rfl (hb hby at_70) rfl (l' := #[.val (.long q0), .second, .val (.int p0), .val (.long q1), .second, .val (.int p1), .val (.long q2), .second, .val (.int p2), .val (.ref b0), .val (.ref b11), .val (.ref b23), .val (.int (own_lt q0 p0 q1 p1)), .val (.int (own_lt q1 p1 q0 p0)), .val (.int (own_lt q1 p1 q2 p2)), .val (.int (own_lt q0 p0 q2 p2)), .unset]) rfl q) ?_
  show Go p e below s _ _ T (mkF m 72 #[.val (.long q0), .second, .val (.int p0), .val (.long q1), .second, .val (.int p1), .val (.long q2), .second, .val (.int p2), .val (.ref b0), .val (.ref b11), .val (.ref b23), .val (.int (own_lt q0 p0 q1 p1)), .val (.int (own_lt q1 p1 q0 p0)), .val (.int (own_lt q1 p1 q2 p2)), .val (.int (own_lt q0 p0 q2 p2)), .unset] [])
  refine Go.of (fun _ q => XS.aload X.here hx rfl (hb hby at_72) rfl rfl q) ?_
  show Go p e below s _ _ T (mkF m 74 #[.val (.long q0), .second, .val (.int p0), .val (.long q1), .second, .val (.int p1), .val (.long q2), .second, .val (.int p2), .val (.ref b0), .val (.ref b11), .val (.ref b23), .val (.int (own_lt q0 p0 q1 p1)), .val (.int (own_lt q1 p1 q0 p0)), .val (.int (own_lt q1 p1 q2 p2)), .val (.int (own_lt q0 p0 q2 p2)), .unset] [(.ref b0)])
  refine Go.of (fun _ q => XS.aload X.here hx rfl (hb hby at_74) rfl rfl q) ?_
  show Go p e below s _ _ T (mkF m 76 #[.val (.long q0), .second, .val (.int p0), .val (.long q1), .second, .val (.int p1), .val (.long q2), .second, .val (.int p2), .val (.ref b0), .val (.ref b11), .val (.ref b23), .val (.int (own_lt q0 p0 q1 p1)), .val (.int (own_lt q1 p1 q0 p0)), .val (.int (own_lt q1 p1 q2 p2)), .val (.int (own_lt q0 p0 q2 p2)), .unset] [(.ref b0), (.ref b0)])
  refine Go.virtual (a := b0) X hx hZ hown (hw _ (List.mem_of_getElem? (i := 13) rfl)) (hw _ (List.mem_of_getElem? (i := 14) rfl)) (notFace_of_selects (args := #[]) (mvT hZ (hw _ (List.mem_of_getElem? (i := 16) rfl)))) (hw _ (List.mem_of_getElem? (i := 16) rfl)) (hw _ (List.mem_of_getElem? (i := 15) rfl)) (hw _ (List.mem_of_getElem? (i := 2) rfl)) (hw _ (List.mem_of_getElem? (i := 17) rfl)) (by decide) (rm3 hw b0 b0 q0 q0 p0 p0 _ n0 F_line_b0 F_column_b0 F_line_b0 F_column_b0) eT E_b0 0 (by decide) (by decide) (by decide) (by decide) (by rw [hml]; rfl) (argsL := [(.ref b0)]) [] (lenOf pd1 rfl) rfl rfl (Nat.le_of_eq rfl) (hb hby at_76) ?_
  intro v T L' X hQ
  obtain ⟨rfl, N', eT⟩ := hQ
  have N := Fr.app N N'
  show Go p e below s _ _ T (mkF m 79 #[.val (.long q0), .second, .val (.int p0), .val (.long q1), .second, .val (.int p1), .val (.long q2), .second, .val (.int p2), .val (.ref b0), .val (.ref b11), .val (.ref b23), .val (.int (own_lt q0 p0 q1 p1)), .val (.int (own_lt q1 p1 q0 p0)), .val (.int (own_lt q1 p1 q2 p2)), .val (.int (own_lt q0 p0 q2 p2)), .unset] [(.int (own_lt q0 p0 q0 p0))])
  refine Go.of (fun _ q => XS.istore X.here hx rfl (hb hby at_79) rfl (l' := #[.val (.long q0), .second, .val (.int p0), .val (.long q1), .second, .val (.int p1), .val (.long q2), .second, .val (.int p2), .val (.ref b0), .val (.ref b11), .val (.ref b23), .val (.int (own_lt q0 p0 q1 p1)), .val (.int (own_lt q1 p1 q0 p0)), .val (.int (own_lt q1 p1 q2 p2)), .val (.int (own_lt q0 p0 q2 p2)), .val (.int (own_lt q0 p0 q0 p0))]) rfl q) ?_
  show Go p e below s _ _ T (mkF m 81 #[.val (.long q0), .second, .val (.int p0), .val (.long q1), .second, .val (.int p1), .val (.long q2), .second, .val (.int p2), .val (.ref b0), .val (.ref b11), .val (.ref b23), .val (.int (own_lt q0 p0 q1 p1)), .val (.int (own_lt q1 p1 q0 p0)), .val (.int (own_lt q1 p1 q2 p2)), .val (.int (own_lt q0 p0 q2 p2)), .val (.int (own_lt q0 p0 q0 p0))] [])
  refine Go.of (fun _ q => XS.iload X.here hx rfl (hb hby at_81) rfl q) ?_
  show Go p e below s _ _ T (mkF m 83 #[.val (.long q0), .second, .val (.int p0), .val (.long q1), .second, .val (.int p1), .val (.long q2), .second, .val (.int p2), .val (.ref b0), .val (.ref b11), .val (.ref b23), .val (.int (own_lt q0 p0 q1 p1)), .val (.int (own_lt q1 p1 q0 p0)), .val (.int (own_lt q1 p1 q2 p2)), .val (.int (own_lt q0 p0 q2 p2)), .val (.int (own_lt q0 p0 q0 p0))] [(.int (own_lt q0 p0 q1 p1))])
  refine Go.of (fun _ q => XS.lloadN X.here hx rfl (hb hby at_83) rfl q) ?_
  show Go p e below s _ _ T (mkF m 84 #[.val (.long q0), .second, .val (.int p0), .val (.long q1), .second, .val (.int p1), .val (.long q2), .second, .val (.int p2), .val (.ref b0), .val (.ref b11), .val (.ref b23), .val (.int (own_lt q0 p0 q1 p1)), .val (.int (own_lt q1 p1 q0 p0)), .val (.int (own_lt q1 p1 q2 p2)), .val (.int (own_lt q0 p0 q2 p2)), .val (.int (own_lt q0 p0 q0 p0))] [(.long q0), (.int (own_lt q0 p0 q1 p1))])
  refine Go.of (fun _ q => XS.iloadN X.here hx rfl (hb hby at_84) rfl q) ?_
  show Go p e below s _ _ T (mkF m 85 #[.val (.long q0), .second, .val (.int p0), .val (.long q1), .second, .val (.int p1), .val (.long q2), .second, .val (.int p2), .val (.ref b0), .val (.ref b11), .val (.ref b23), .val (.int (own_lt q0 p0 q1 p1)), .val (.int (own_lt q1 p1 q0 p0)), .val (.int (own_lt q1 p1 q2 p2)), .val (.int (own_lt q0 p0 q2 p2)), .val (.int (own_lt q0 p0 q0 p0))] [(.int p0), (.long q0), (.int (own_lt q0 p0 q1 p1))])
  refine Go.of (fun _ q => XS.lloadN X.here hx rfl (hb hby at_85) rfl q) ?_
  show Go p e below s _ _ T (mkF m 86 #[.val (.long q0), .second, .val (.int p0), .val (.long q1), .second, .val (.int p1), .val (.long q2), .second, .val (.int p2), .val (.ref b0), .val (.ref b11), .val (.ref b23), .val (.int (own_lt q0 p0 q1 p1)), .val (.int (own_lt q1 p1 q0 p0)), .val (.int (own_lt q1 p1 q2 p2)), .val (.int (own_lt q0 p0 q2 p2)), .val (.int (own_lt q0 p0 q0 p0))] [(.long q1), (.int p0), (.long q0), (.int (own_lt q0 p0 q1 p1))])
  refine Go.of (fun _ q => XS.iload X.here hx rfl (hb hby at_86) rfl q) ?_
  show Go p e below s _ _ T (mkF m 88 #[.val (.long q0), .second, .val (.int p0), .val (.long q1), .second, .val (.int p1), .val (.long q2), .second, .val (.int p2), .val (.ref b0), .val (.ref b11), .val (.ref b23), .val (.int (own_lt q0 p0 q1 p1)), .val (.int (own_lt q1 p1 q0 p0)), .val (.int (own_lt q1 p1 q2 p2)), .val (.int (own_lt q0 p0 q2 p2)), .val (.int (own_lt q0 p0 q0 p0))] [(.int p1), (.long q1), (.int p0), (.long q0), (.int (own_lt q0 p0 q1 p1))])
  refine Go.static X hx hZ hown (hw _ (List.mem_of_getElem? (i := 18) rfl)) (hw _ (List.mem_of_getElem? (i := 19) rfl)) (hw _ (List.mem_of_getElem? (i := 20) rfl)) (hw _ (List.mem_of_getElem? (i := 21) rfl)) (by decide) (rm4 hw q0 p0 q1 p1 _ n0) eT 1 (by decide) (by decide) (by decide) (by decide) (by rw [hml]; rfl) (argsL := [(.long q0), (.int p0), (.long q1), (.int p1)]) [(.int (own_lt q0 p0 q1 p1))] (lenOf pd2 rfl) rfl rfl (Nat.le_of_eq rfl) (hb hby at_88) ?_
  intro v T L' X hQ
  obtain ⟨rfl, N', eT⟩ := hQ
  have N := Fr.app N N'
  show Go p e below s _ _ T (mkF m 91 #[.val (.long q0), .second, .val (.int p0), .val (.long q1), .second, .val (.int p1), .val (.long q2), .second, .val (.int p2), .val (.ref b0), .val (.ref b11), .val (.ref b23), .val (.int (own_lt q0 p0 q1 p1)), .val (.int (own_lt q1 p1 q0 p0)), .val (.int (own_lt q1 p1 q2 p2)), .val (.int (own_lt q0 p0 q2 p2)), .val (.int (own_lt q0 p0 q0 p0))] [(.int (own_lt q0 p0 q1 p1)), (.int (own_lt q0 p0 q1 p1))])
  refine Go.of (fun _ q => XS.icmpNo X.here hx rfl (hb hby at_91) rfl (teq (rfl)).2 q) ?_
  show Go p e below s _ _ T (mkF m 94 #[.val (.long q0), .second, .val (.int p0), .val (.long q1), .second, .val (.int p1), .val (.long q2), .second, .val (.int p2), .val (.ref b0), .val (.ref b11), .val (.ref b23), .val (.int (own_lt q0 p0 q1 p1)), .val (.int (own_lt q1 p1 q0 p0)), .val (.int (own_lt q1 p1 q2 p2)), .val (.int (own_lt q0 p0 q2 p2)), .val (.int (own_lt q0 p0 q0 p0))] [])
  refine Go.of (fun _ q => XS.iload X.here hx rfl (hb hby at_94) rfl q) ?_
  show Go p e below s _ _ T (mkF m 96 #[.val (.long q0), .second, .val (.int p0), .val (.long q1), .second, .val (.int p1), .val (.long q2), .second, .val (.int p2), .val (.ref b0), .val (.ref b11), .val (.ref b23), .val (.int (own_lt q0 p0 q1 p1)), .val (.int (own_lt q1 p1 q0 p0)), .val (.int (own_lt q1 p1 q2 p2)), .val (.int (own_lt q0 p0 q2 p2)), .val (.int (own_lt q0 p0 q0 p0))] [(.int (own_lt q1 p1 q0 p0))])
  refine Go.of (fun _ q => XS.lloadN X.here hx rfl (hb hby at_96) rfl q) ?_
  show Go p e below s _ _ T (mkF m 97 #[.val (.long q0), .second, .val (.int p0), .val (.long q1), .second, .val (.int p1), .val (.long q2), .second, .val (.int p2), .val (.ref b0), .val (.ref b11), .val (.ref b23), .val (.int (own_lt q0 p0 q1 p1)), .val (.int (own_lt q1 p1 q0 p0)), .val (.int (own_lt q1 p1 q2 p2)), .val (.int (own_lt q0 p0 q2 p2)), .val (.int (own_lt q0 p0 q0 p0))] [(.long q1), (.int (own_lt q1 p1 q0 p0))])
  refine Go.of (fun _ q => XS.iload X.here hx rfl (hb hby at_97) rfl q) ?_
  show Go p e below s _ _ T (mkF m 99 #[.val (.long q0), .second, .val (.int p0), .val (.long q1), .second, .val (.int p1), .val (.long q2), .second, .val (.int p2), .val (.ref b0), .val (.ref b11), .val (.ref b23), .val (.int (own_lt q0 p0 q1 p1)), .val (.int (own_lt q1 p1 q0 p0)), .val (.int (own_lt q1 p1 q2 p2)), .val (.int (own_lt q0 p0 q2 p2)), .val (.int (own_lt q0 p0 q0 p0))] [(.int p1), (.long q1), (.int (own_lt q1 p1 q0 p0))])
  refine Go.of (fun _ q => XS.lloadN X.here hx rfl (hb hby at_99) rfl q) ?_
  show Go p e below s _ _ T (mkF m 100 #[.val (.long q0), .second, .val (.int p0), .val (.long q1), .second, .val (.int p1), .val (.long q2), .second, .val (.int p2), .val (.ref b0), .val (.ref b11), .val (.ref b23), .val (.int (own_lt q0 p0 q1 p1)), .val (.int (own_lt q1 p1 q0 p0)), .val (.int (own_lt q1 p1 q2 p2)), .val (.int (own_lt q0 p0 q2 p2)), .val (.int (own_lt q0 p0 q0 p0))] [(.long q0), (.int p1), (.long q1), (.int (own_lt q1 p1 q0 p0))])
  refine Go.of (fun _ q => XS.iloadN X.here hx rfl (hb hby at_100) rfl q) ?_
  show Go p e below s _ _ T (mkF m 101 #[.val (.long q0), .second, .val (.int p0), .val (.long q1), .second, .val (.int p1), .val (.long q2), .second, .val (.int p2), .val (.ref b0), .val (.ref b11), .val (.ref b23), .val (.int (own_lt q0 p0 q1 p1)), .val (.int (own_lt q1 p1 q0 p0)), .val (.int (own_lt q1 p1 q2 p2)), .val (.int (own_lt q0 p0 q2 p2)), .val (.int (own_lt q0 p0 q0 p0))] [(.int p0), (.long q0), (.int p1), (.long q1), (.int (own_lt q1 p1 q0 p0))])
  refine Go.static X hx hZ hown (hw _ (List.mem_of_getElem? (i := 18) rfl)) (hw _ (List.mem_of_getElem? (i := 19) rfl)) (hw _ (List.mem_of_getElem? (i := 20) rfl)) (hw _ (List.mem_of_getElem? (i := 21) rfl)) (by decide) (rm4 hw q1 p1 q0 p0 _ n0) eT 1 (by decide) (by decide) (by decide) (by decide) (by rw [hml]; rfl) (argsL := [(.long q1), (.int p1), (.long q0), (.int p0)]) [(.int (own_lt q1 p1 q0 p0))] (lenOf pd2 rfl) rfl rfl (Nat.le_of_eq rfl) (hb hby at_101) ?_
  intro v T L' X hQ
  obtain ⟨rfl, N', eT⟩ := hQ
  have N := Fr.app N N'
  show Go p e below s _ _ T (mkF m 104 #[.val (.long q0), .second, .val (.int p0), .val (.long q1), .second, .val (.int p1), .val (.long q2), .second, .val (.int p2), .val (.ref b0), .val (.ref b11), .val (.ref b23), .val (.int (own_lt q0 p0 q1 p1)), .val (.int (own_lt q1 p1 q0 p0)), .val (.int (own_lt q1 p1 q2 p2)), .val (.int (own_lt q0 p0 q2 p2)), .val (.int (own_lt q0 p0 q0 p0))] [(.int (own_lt q1 p1 q0 p0)), (.int (own_lt q1 p1 q0 p0))])
  refine Go.of (fun _ q => XS.icmpNo X.here hx rfl (hb hby at_104) rfl (teq (rfl)).2 q) ?_
  show Go p e below s _ _ T (mkF m 107 #[.val (.long q0), .second, .val (.int p0), .val (.long q1), .second, .val (.int p1), .val (.long q2), .second, .val (.int p2), .val (.ref b0), .val (.ref b11), .val (.ref b23), .val (.int (own_lt q0 p0 q1 p1)), .val (.int (own_lt q1 p1 q0 p0)), .val (.int (own_lt q1 p1 q2 p2)), .val (.int (own_lt q0 p0 q2 p2)), .val (.int (own_lt q0 p0 q0 p0))] [])
  refine Go.of (fun _ q => XS.iload X.here hx rfl (hb hby at_107) rfl q) ?_
  show Go p e below s _ _ T (mkF m 109 #[.val (.long q0), .second, .val (.int p0), .val (.long q1), .second, .val (.int p1), .val (.long q2), .second, .val (.int p2), .val (.ref b0), .val (.ref b11), .val (.ref b23), .val (.int (own_lt q0 p0 q1 p1)), .val (.int (own_lt q1 p1 q0 p0)), .val (.int (own_lt q1 p1 q2 p2)), .val (.int (own_lt q0 p0 q2 p2)), .val (.int (own_lt q0 p0 q0 p0))] [(.int (own_lt q1 p1 q2 p2))])
  refine Go.of (fun _ q => XS.lloadN X.here hx rfl (hb hby at_109) rfl q) ?_
  show Go p e below s _ _ T (mkF m 110 #[.val (.long q0), .second, .val (.int p0), .val (.long q1), .second, .val (.int p1), .val (.long q2), .second, .val (.int p2), .val (.ref b0), .val (.ref b11), .val (.ref b23), .val (.int (own_lt q0 p0 q1 p1)), .val (.int (own_lt q1 p1 q0 p0)), .val (.int (own_lt q1 p1 q2 p2)), .val (.int (own_lt q0 p0 q2 p2)), .val (.int (own_lt q0 p0 q0 p0))] [(.long q1), (.int (own_lt q1 p1 q2 p2))])
  refine Go.of (fun _ q => XS.iload X.here hx rfl (hb hby at_110) rfl q) ?_
  show Go p e below s _ _ T (mkF m 112 #[.val (.long q0), .second, .val (.int p0), .val (.long q1), .second, .val (.int p1), .val (.long q2), .second, .val (.int p2), .val (.ref b0), .val (.ref b11), .val (.ref b23), .val (.int (own_lt q0 p0 q1 p1)), .val (.int (own_lt q1 p1 q0 p0)), .val (.int (own_lt q1 p1 q2 p2)), .val (.int (own_lt q0 p0 q2 p2)), .val (.int (own_lt q0 p0 q0 p0))] [(.int p1), (.long q1), (.int (own_lt q1 p1 q2 p2))])
  refine Go.of (fun _ q => XS.lload X.here hx rfl (hb hby at_112) rfl q) ?_
  show Go p e below s _ _ T (mkF m 114 #[.val (.long q0), .second, .val (.int p0), .val (.long q1), .second, .val (.int p1), .val (.long q2), .second, .val (.int p2), .val (.ref b0), .val (.ref b11), .val (.ref b23), .val (.int (own_lt q0 p0 q1 p1)), .val (.int (own_lt q1 p1 q0 p0)), .val (.int (own_lt q1 p1 q2 p2)), .val (.int (own_lt q0 p0 q2 p2)), .val (.int (own_lt q0 p0 q0 p0))] [(.long q2), (.int p1), (.long q1), (.int (own_lt q1 p1 q2 p2))])
  refine Go.of (fun _ q => XS.iload X.here hx rfl (hb hby at_114) rfl q) ?_
  show Go p e below s _ _ T (mkF m 116 #[.val (.long q0), .second, .val (.int p0), .val (.long q1), .second, .val (.int p1), .val (.long q2), .second, .val (.int p2), .val (.ref b0), .val (.ref b11), .val (.ref b23), .val (.int (own_lt q0 p0 q1 p1)), .val (.int (own_lt q1 p1 q0 p0)), .val (.int (own_lt q1 p1 q2 p2)), .val (.int (own_lt q0 p0 q2 p2)), .val (.int (own_lt q0 p0 q0 p0))] [(.int p2), (.long q2), (.int p1), (.long q1), (.int (own_lt q1 p1 q2 p2))])
  refine Go.static X hx hZ hown (hw _ (List.mem_of_getElem? (i := 18) rfl)) (hw _ (List.mem_of_getElem? (i := 19) rfl)) (hw _ (List.mem_of_getElem? (i := 20) rfl)) (hw _ (List.mem_of_getElem? (i := 21) rfl)) (by decide) (rm4 hw q1 p1 q2 p2 _ n0) eT 1 (by decide) (by decide) (by decide) (by decide) (by rw [hml]; rfl) (argsL := [(.long q1), (.int p1), (.long q2), (.int p2)]) [(.int (own_lt q1 p1 q2 p2))] (lenOf pd2 rfl) rfl rfl (Nat.le_of_eq rfl) (hb hby at_116) ?_
  intro v T L' X hQ
  obtain ⟨rfl, N', eT⟩ := hQ
  have N := Fr.app N N'
  show Go p e below s _ _ T (mkF m 119 #[.val (.long q0), .second, .val (.int p0), .val (.long q1), .second, .val (.int p1), .val (.long q2), .second, .val (.int p2), .val (.ref b0), .val (.ref b11), .val (.ref b23), .val (.int (own_lt q0 p0 q1 p1)), .val (.int (own_lt q1 p1 q0 p0)), .val (.int (own_lt q1 p1 q2 p2)), .val (.int (own_lt q0 p0 q2 p2)), .val (.int (own_lt q0 p0 q0 p0))] [(.int (own_lt q1 p1 q2 p2)), (.int (own_lt q1 p1 q2 p2))])
  refine Go.of (fun _ q => XS.icmpNo X.here hx rfl (hb hby at_119) rfl (teq (rfl)).2 q) ?_
  show Go p e below s _ _ T (mkF m 122 #[.val (.long q0), .second, .val (.int p0), .val (.long q1), .second, .val (.int p1), .val (.long q2), .second, .val (.int p2), .val (.ref b0), .val (.ref b11), .val (.ref b23), .val (.int (own_lt q0 p0 q1 p1)), .val (.int (own_lt q1 p1 q0 p0)), .val (.int (own_lt q1 p1 q2 p2)), .val (.int (own_lt q0 p0 q2 p2)), .val (.int (own_lt q0 p0 q0 p0))] [])
  refine Go.of (fun _ q => XS.iload X.here hx rfl (hb hby at_122) rfl q) ?_
  show Go p e below s _ _ T (mkF m 124 #[.val (.long q0), .second, .val (.int p0), .val (.long q1), .second, .val (.int p1), .val (.long q2), .second, .val (.int p2), .val (.ref b0), .val (.ref b11), .val (.ref b23), .val (.int (own_lt q0 p0 q1 p1)), .val (.int (own_lt q1 p1 q0 p0)), .val (.int (own_lt q1 p1 q2 p2)), .val (.int (own_lt q0 p0 q2 p2)), .val (.int (own_lt q0 p0 q0 p0))] [(.int (own_lt q0 p0 q2 p2))])
  refine Go.of (fun _ q => XS.lloadN X.here hx rfl (hb hby at_124) rfl q) ?_
  show Go p e below s _ _ T (mkF m 125 #[.val (.long q0), .second, .val (.int p0), .val (.long q1), .second, .val (.int p1), .val (.long q2), .second, .val (.int p2), .val (.ref b0), .val (.ref b11), .val (.ref b23), .val (.int (own_lt q0 p0 q1 p1)), .val (.int (own_lt q1 p1 q0 p0)), .val (.int (own_lt q1 p1 q2 p2)), .val (.int (own_lt q0 p0 q2 p2)), .val (.int (own_lt q0 p0 q0 p0))] [(.long q0), (.int (own_lt q0 p0 q2 p2))])
  refine Go.of (fun _ q => XS.iloadN X.here hx rfl (hb hby at_125) rfl q) ?_
  show Go p e below s _ _ T (mkF m 126 #[.val (.long q0), .second, .val (.int p0), .val (.long q1), .second, .val (.int p1), .val (.long q2), .second, .val (.int p2), .val (.ref b0), .val (.ref b11), .val (.ref b23), .val (.int (own_lt q0 p0 q1 p1)), .val (.int (own_lt q1 p1 q0 p0)), .val (.int (own_lt q1 p1 q2 p2)), .val (.int (own_lt q0 p0 q2 p2)), .val (.int (own_lt q0 p0 q0 p0))] [(.int p0), (.long q0), (.int (own_lt q0 p0 q2 p2))])
  refine Go.of (fun _ q => XS.lload X.here hx rfl (hb hby at_126) rfl q) ?_
  show Go p e below s _ _ T (mkF m 128 #[.val (.long q0), .second, .val (.int p0), .val (.long q1), .second, .val (.int p1), .val (.long q2), .second, .val (.int p2), .val (.ref b0), .val (.ref b11), .val (.ref b23), .val (.int (own_lt q0 p0 q1 p1)), .val (.int (own_lt q1 p1 q0 p0)), .val (.int (own_lt q1 p1 q2 p2)), .val (.int (own_lt q0 p0 q2 p2)), .val (.int (own_lt q0 p0 q0 p0))] [(.long q2), (.int p0), (.long q0), (.int (own_lt q0 p0 q2 p2))])
  refine Go.of (fun _ q => XS.iload X.here hx rfl (hb hby at_128) rfl q) ?_
  show Go p e below s _ _ T (mkF m 130 #[.val (.long q0), .second, .val (.int p0), .val (.long q1), .second, .val (.int p1), .val (.long q2), .second, .val (.int p2), .val (.ref b0), .val (.ref b11), .val (.ref b23), .val (.int (own_lt q0 p0 q1 p1)), .val (.int (own_lt q1 p1 q0 p0)), .val (.int (own_lt q1 p1 q2 p2)), .val (.int (own_lt q0 p0 q2 p2)), .val (.int (own_lt q0 p0 q0 p0))] [(.int p2), (.long q2), (.int p0), (.long q0), (.int (own_lt q0 p0 q2 p2))])
  refine Go.static X hx hZ hown (hw _ (List.mem_of_getElem? (i := 18) rfl)) (hw _ (List.mem_of_getElem? (i := 19) rfl)) (hw _ (List.mem_of_getElem? (i := 20) rfl)) (hw _ (List.mem_of_getElem? (i := 21) rfl)) (by decide) (rm4 hw q0 p0 q2 p2 _ n0) eT 1 (by decide) (by decide) (by decide) (by decide) (by rw [hml]; rfl) (argsL := [(.long q0), (.int p0), (.long q2), (.int p2)]) [(.int (own_lt q0 p0 q2 p2))] (lenOf pd2 rfl) rfl rfl (Nat.le_of_eq rfl) (hb hby at_130) ?_
  intro v T L' X hQ
  obtain ⟨rfl, N', eT⟩ := hQ
  have N := Fr.app N N'
  show Go p e below s _ _ T (mkF m 133 #[.val (.long q0), .second, .val (.int p0), .val (.long q1), .second, .val (.int p1), .val (.long q2), .second, .val (.int p2), .val (.ref b0), .val (.ref b11), .val (.ref b23), .val (.int (own_lt q0 p0 q1 p1)), .val (.int (own_lt q1 p1 q0 p0)), .val (.int (own_lt q1 p1 q2 p2)), .val (.int (own_lt q0 p0 q2 p2)), .val (.int (own_lt q0 p0 q0 p0))] [(.int (own_lt q0 p0 q2 p2)), (.int (own_lt q0 p0 q2 p2))])
  refine Go.of (fun _ q => XS.icmpNo X.here hx rfl (hb hby at_133) rfl (teq (rfl)).2 q) ?_
  show Go p e below s _ _ T (mkF m 136 #[.val (.long q0), .second, .val (.int p0), .val (.long q1), .second, .val (.int p1), .val (.long q2), .second, .val (.int p2), .val (.ref b0), .val (.ref b11), .val (.ref b23), .val (.int (own_lt q0 p0 q1 p1)), .val (.int (own_lt q1 p1 q0 p0)), .val (.int (own_lt q1 p1 q2 p2)), .val (.int (own_lt q0 p0 q2 p2)), .val (.int (own_lt q0 p0 q0 p0))] [])
  refine Go.of (fun _ q => XS.iload X.here hx rfl (hb hby at_136) rfl q) ?_
  show Go p e below s _ _ T (mkF m 138 #[.val (.long q0), .second, .val (.int p0), .val (.long q1), .second, .val (.int p1), .val (.long q2), .second, .val (.int p2), .val (.ref b0), .val (.ref b11), .val (.ref b23), .val (.int (own_lt q0 p0 q1 p1)), .val (.int (own_lt q1 p1 q0 p0)), .val (.int (own_lt q1 p1 q2 p2)), .val (.int (own_lt q0 p0 q2 p2)), .val (.int (own_lt q0 p0 q0 p0))] [(.int (own_lt q0 p0 q0 p0))])
  refine Go.of (fun _ q => XS.ifNo X.here hx rfl (hb hby at_138) rfl ((if0 _ _).trans (teq (own_irr _ _)).2) q) ?_
  show Go p e below s _ _ T (mkF m 141 #[.val (.long q0), .second, .val (.int p0), .val (.long q1), .second, .val (.int p1), .val (.long q2), .second, .val (.int p2), .val (.ref b0), .val (.ref b11), .val (.ref b23), .val (.int (own_lt q0 p0 q1 p1)), .val (.int (own_lt q1 p1 q0 p0)), .val (.int (own_lt q1 p1 q2 p2)), .val (.int (own_lt q0 p0 q2 p2)), .val (.int (own_lt q0 p0 q0 p0))] [])
  refine Go.of (fun _ q => XS.iconst X.here hx rfl (hb hby at_141) q) ?_
  show Go p e below s _ _ T (mkF m 142 #[.val (.long q0), .second, .val (.int p0), .val (.long q1), .second, .val (.int p1), .val (.long q2), .second, .val (.int p2), .val (.ref b0), .val (.ref b11), .val (.ref b23), .val (.int (own_lt q0 p0 q1 p1)), .val (.int (own_lt q1 p1 q0 p0)), .val (.int (own_lt q1 p1 q2 p2)), .val (.int (own_lt q0 p0 q2 p2)), .val (.int (own_lt q0 p0 q0 p0))] [(.int (1 : Int32))])
  refine Go.of (fun _ q => XS.goto X.here hx rfl (pc0 := 142) (pc' := 146) rfl (hb hby at_142) (by decide) (by decide) q) ?_
  show Go p e below s _ _ T (mkF m 146 #[.val (.long q0), .second, .val (.int p0), .val (.long q1), .second, .val (.int p1), .val (.long q2), .second, .val (.int p2), .val (.ref b0), .val (.ref b11), .val (.ref b23), .val (.int (own_lt q0 p0 q1 p1)), .val (.int (own_lt q1 p1 q0 p0)), .val (.int (own_lt q1 p1 q2 p2)), .val (.int (own_lt q0 p0 q2 p2)), .val (.int (own_lt q0 p0 q0 p0))] [(.int (1 : Int32))])
  refine Go.retN X hx hret (by simp) hlk (hb hby at_146) (by decide) (by decide) ?_
  try rw [eT]
  exact ⟨rfl, N⟩
set_option maxRecDepth 65536 in
set_option maxHeartbeats 40000000 in
theorem comes_1 {Post : Tables → Env → Array Value → State → Outcome → State → Prop} (hpost : ∀ tb e args s v u, (limb_1_1.after args s (.returned v) u = true ∧ limb_1_2.after args s (.returned v) u = true ∧ True) → FrameEnd s (.returned v) u (Jvm.fieldLocs frame_1_writes args s ++ Jvm.arrayLocs frame_1_arrays args s ++ Jvm.staticLocs frame_1_statics s) 16 128 → Post tb e args s (.returned v) u) :
    ArmFor flags0 classFile x code maxLocals ret World_1 tables_1 room_1 Calls_1 rest_1 Pre_1 Post := by
  intro l hfl _ _ p e ha hc hk s m args below hf hA hF happ hP
  obtain ⟨hcalls, hrest, hpre⟩ := hP
  obtain ⟨-, -, -, hnamed, -, -, -, hat⟩ := (Spec.applies_iff hf).mp happ
  obtain ⟨hg, hn⟩ := and_e (Cond.before_iff.mp (show (Jvm.Cond.and given_1 narrow_1).before args s = true from hpre))
  obtain ⟨gc, g0⟩ := and_e hg
  obtain ⟨k0, g1⟩ := and_e g0
  obtain ⟨k1, g2⟩ := and_e g1
  obtain ⟨k2, g3⟩ := and_e g2
  obtain ⟨k3, g4⟩ := and_e g3
  obtain ⟨k4, g5⟩ := and_e g4
  obtain ⟨w0, w1, w2, w3, w4, w5, rfl⟩ : ∃ w0 w1 w2 w3 w4 w5 : Value, args = #[w0, w1, w2, w3, w4, w5] := by
    have hs : args.size = 6 := by simpa [Cond.value, given_1] using gc
    obtain ⟨L⟩ := args
    match L, hs with
    | [w0, w1, w2, w3, w4, w5], _ => exact ⟨w0, w1, w2, w3, w4, w5, rfl⟩
  have hw := fun d (hd : d ∈ tables_1) => atoms_spec (ws := Jvm.Cond.code x code maxLocals ret :: tables_1) hat d (List.mem_cons_of_mem _ hd)
  obtain ⟨i0, ei0⟩ := isL_v k0
  obtain rfl : w0 = (.long i0) := Option.some.inj ei0
  obtain ⟨i1, ei1⟩ := is_v k1
  obtain rfl : w1 = (.int i1) := Option.some.inj ei1
  obtain ⟨i2, ei2⟩ := isL_v k2
  obtain rfl : w2 = (.long i2) := Option.some.inj ei2
  obtain ⟨i3, ei3⟩ := is_v k3
  obtain rfl : w3 = (.int i3) := Option.some.inj ei3
  obtain ⟨i4, ei4⟩ := isL_v k4
  obtain rfl : w4 = (.long i4) := Option.some.inj ei4
  obtain ⟨i5, ei5⟩ := is_v g5
  obtain rfl : w5 = (.int i5) := Option.some.inj ei5
  obtain ⟨n, o, h1, h2, h3, _, L, rfl, ⟨rfl, N⟩, hq⟩ := rm0 (l := l) (Z := s) hw i0 i1 i2 i3 i4 i5 s.heap s.heap.size (Nat.le_refl _) p e ha hc hk s m _ below hf ((Spec.applies_iff_loose hf).mp happ).1 ⟨rfl, State.Warmed39.refl s, rfl⟩ trivial
  refine ⟨n, _, h1, h2, h3, hpost _ _ _ _ _ _ ⟨Cond.after_iff.mpr rfl, Cond.after_iff.mpr (eq_i res_at (Term.int_eval (1)) rfl), trivial⟩ ⟨hq.1, hq.2.1, (hq.2.2.sift fun y hy => Or.inr (N y hy)).mono (by decide) (by decide)⟩⟩
theorem main_1_1 : Claimed_1_1 := comes_1 fun _ _ _ _ _ _ h hF => ⟨h.1, hF⟩
theorem main_1_2 : Claimed_1_2 := comes_1 fun _ _ _ _ _ _ h hF => ⟨h.2.1, hF⟩
end Jvm.Pilot.@@N@@
namespace Jvm.Pilot.@@N@@
open Jvm Jvm.ClassFile Sem Op Lib Jvm.Free Jvm.Stand Jvm.Pilot.@@N@@.Jvm.D
/-! MADE BY PROGRAM (witnessworld.py) out of the Statement's table words and the real class files: 9 classes; the members and pool entries that the words name. The judged class is class 1, her method 2. -/
namespace start1
open Jvm.ClassFile
def u (s : String) : CpInfo := .utf8 (stringToUtf16 s)
/-- a pool by its gaps: so many unusable entries, then the entry; so many at the end -/
def gap : Nat → List CpInfo → List CpInfo
  | 0, r => r
  | n + 1, r => .unusable :: gap n r
def poolList (es : List (Nat × CpInfo)) (last : Nat) : List CpInfo := es.foldr (fun e r => gap e.1 (e.2 :: r)) (gap last [])
def pool (es : List (Nat × CpInfo)) (last : Nat) : Array CpInfo := ⟨poolList es last⟩
def fileOf (pool : Array CpInfo) (this : Nat) (attrs : Array Attribute := #[]) (ms : Array MethodInfo := #[]) (fl : Nat := 33) (sup : Nat := 0) (ifs : Array Nat := #[]) (fds : Array FieldInfo := #[]) : ClassFile where
  minorVersion := 0
  majorVersion := 65
  constantPool := pool
  accessFlags := fl
  thisClass := this
  superClass := sup
  interfaces := ifs
  fields := fds
  methods := ms
  attributes := attrs
def plain (name : String) (sup : Option ClassId) : Class where
  name := name
  kind := .ordinary
  loader := none
  accessFlags := 33
  super := sup
  interfaces := #[]
  cf := none
  fields := #[]
  methods := #[]
  instanceTypes := #[]
  staticTypes := #[]
  resolved := #[]
  callSites := []
  init := .initialized
  statics := none
  mirror := none

def pool0 : Array CpInfo := pool [(5, u "<init>"), (0, u "()V"), (1, .class_ 10), (1, u "java/lang/Object")] 113

def k0c0 : Code := { maxStack := 0, maxLocals := 1, code := object_method_1_code, exceptionTable := #[], attributes := #[] }
def k0m0 : Method := { name := "<init>", desc := "()V", sig := { parameters := [], returnType := none }, accessFlags := 1, code := some k0c0 }
/-- java/lang/Object -/
def k0 : Class := { plain "java/lang/Object" none with
  accessFlags := 33
  interfaces := #[]
  cf := some (fileOf pool0 8 #[] #[{ accessFlags := 1, nameIndex := 5, descriptorIndex := 6, attributes := #[] }] 33 0 #[] #[])
  fields := #[]
  methods := #[k0m0]
  instanceTypes := #[]
  staticTypes := #[]
  resolved := Array.replicate 124 none
  statics := none }

def pool1 : Array CpInfo := pool [(2, .class_ 4), (1, u "java/lang/Object"), (0, u "<init>"), (0, u "()V"), (0, .class_ 8), (0, u "com/example/fixpoint/fixpoint/Position"), (0, .methodref 7 10), (0, .nameAndType 5 11), (0, u "(JI)V"), (0, .methodref 7 13), (0, .nameAndType 14 15), (0, u "isBefore"), (0, u "(Lcom/example/fixpoint/fixpoint/Position;)Z"), (0, .methodref 17 18), (0, .class_ 19), (0, .nameAndType 20 21), (0, u "com/example/fixpoint/fixpoint/PositionIsBeforePinLaw"), (0, u "ref"), (0, u "(JIJI)Z"), (3, u "law"), (0, u "(JIJIJI)Z")] 2

def k1m0 : Method := { name := "<init>", desc := "()V", sig := { parameters := [], returnType := none }, accessFlags := 1, code := none }
def k1c1 : Code := { maxStack := 4, maxLocals := 6, code := method_2_code, exceptionTable := #[], attributes := #[] }
def k1m1 : Method := { name := "ref", desc := "(JIJI)Z", sig := { parameters := [.long, .int, .long, .int], returnType := some .boolean }, accessFlags := 10, code := some k1c1 }
def k1c2 : Code := { maxStack := 7, maxLocals := 17, code := code, exceptionTable := #[], attributes := #[] }
def k1m2 : Method := { name := "law", desc := "(JIJIJI)Z", sig := { parameters := [.long, .int, .long, .int, .long, .int], returnType := some .boolean }, accessFlags := 9, code := some k1c2 }
/-- com/example/fixpoint/fixpoint/PositionIsBeforePinLaw -/
def k1 : Class := { plain "com/example/fixpoint/fixpoint/PositionIsBeforePinLaw" (some 0) with
  accessFlags := 49
  interfaces := #[]
  cf := some (fileOf pool1 17 #[] #[{ accessFlags := 1, nameIndex := 5, descriptorIndex := 6, attributes := #[] }, { accessFlags := 10, nameIndex := 20, descriptorIndex := 21, attributes := #[] }, { accessFlags := 9, nameIndex := 25, descriptorIndex := 26, attributes := #[] }] 49 2 #[] #[])
  fields := #[]
  methods := #[k1m0, k1m1, k1m2]
  instanceTypes := #[]
  staticTypes := #[]
  resolved := Array.replicate 29 none
  statics := none }

def pool2 : Array CpInfo := pool [(1, .methodref 2 3), (0, .class_ 4), (0, .nameAndType 5 6), (0, u "java/lang/Object"), (0, u "<init>"), (0, u "()V"), (0, .fieldref 8 9), (0, .class_ 10), (0, .nameAndType 11 12), (0, u "com/example/fixpoint/fixpoint/Position"), (0, u "line"), (0, u "J"), (0, .fieldref 8 14), (0, .nameAndType 15 16), (0, u "column"), (0, u "I"), (0, u "(JI)V"), (4, u "isBefore"), (0, u "(Lcom/example/fixpoint/fixpoint/Position;)Z")] 3

def k2c0 : Code := { maxStack := 3, maxLocals := 4, code := prog_84_method_1_code, exceptionTable := #[], attributes := #[] }
def k2m0 : Method := { name := "<init>", desc := "(JI)V", sig := { parameters := [.long, .int], returnType := none }, accessFlags := 0, code := some k2c0 }
def k2c1 : Code := { maxStack := 4, maxLocals := 2, code := prog_84_method_4_code, exceptionTable := #[], attributes := #[] }
def k2m1 : Method := { name := "isBefore", desc := "(Lcom/example/fixpoint/fixpoint/Position;)Z", sig := { parameters := [(.object "com/example/fixpoint/fixpoint/Position")], returnType := some .boolean }, accessFlags := 0, code := some k2c1 }
/-- com/example/fixpoint/fixpoint/Position -/
def k2 : Class := { plain "com/example/fixpoint/fixpoint/Position" (some 0) with
  accessFlags := 48
  interfaces := #[]
  cf := some (fileOf pool2 8 #[] #[{ accessFlags := 0, nameIndex := 5, descriptorIndex := 17, attributes := #[] }, { accessFlags := 0, nameIndex := 22, descriptorIndex := 23, attributes := #[] }] 48 2 #[] #[{ accessFlags := 18, nameIndex := 11, descriptorIndex := 12, attributes := #[] }, { accessFlags := 18, nameIndex := 15, descriptorIndex := 16, attributes := #[] }])
  fields := #[{ name := "line", type := .long, accessFlags := 18, slot := 0, constantValue := 0 }, { name := "column", type := .int, accessFlags := 18, slot := 1, constantValue := 0 }]
  methods := #[k2m0, k2m1]
  instanceTypes := #[.long, .int]
  staticTypes := #[]
  resolved := Array.replicate 27 none
  statics := none }

def pool3 : Array CpInfo := pool [(1, u "java/lang/Cloneable"), (0, .class_ 1), (0, u "java/lang/Object"), (0, .class_ 3)] 3

/-- java/lang/Cloneable -/
def k3 : Class := { plain "java/lang/Cloneable" (some 0) with
  accessFlags := 1537
  interfaces := #[]
  cf := some (fileOf pool3 2 #[] #[] 1537 4 #[] #[])
  fields := #[]
  methods := #[]
  instanceTypes := #[]
  staticTypes := #[]
  resolved := Array.replicate 8 none
  statics := none }

def pool4 : Array CpInfo := pool [(1, u "java/io/Serializable"), (0, .class_ 1), (0, u "java/lang/Object"), (0, .class_ 3)] 3

/-- java/io/Serializable -/
def k4 : Class := { plain "java/io/Serializable" (some 0) with
  accessFlags := 1537
  interfaces := #[]
  cf := some (fileOf pool4 2 #[] #[] 1537 4 #[] #[])
  fields := #[]
  methods := #[]
  instanceTypes := #[]
  staticTypes := #[]
  resolved := Array.replicate 8 none
  statics := none }

/-- the primitive byte -/
def k5 : Class := { plain "byte" none with kind := .primitive 'B', accessFlags := 0x411 }
/-- [B -/
def k6 : Class := { plain "[B" (some 0) with kind := .array 5 .byte, interfaces := #[3, 4], accessFlags := 1041 }

/-- the primitive int -/
def k7 : Class := { plain "int" none with kind := .primitive 'I', accessFlags := 0x411 }
/-- [I -/
def k8 : Class := { plain "[I" (some 0) with kind := .array 7 .int, interfaces := #[3, 4], accessFlags := 1041 }

def heap : Heap := #[]
def classes : Array Class := #[k0, k1, k2, k3, k4, k5, k6, k7, k8]
def interned : List (Array UInt16 × Addr) := []
def slotsUsed : Nat := 0
def theMethod : MethodId := ⟨1, 2⟩
def args0 : Array Value := #[.long 5, .int 1, .long 5, .int 2, .long 7, .int 3]
def aboutOver (below : List Frame) : State where
  vm := { classes := classes, interned := interned.toArray }
  heap := heap
  slotsUsed := slotsUsed
  threads := #[{ frames := .invoking theMethod args0 :: below }]
def below0 : List Frame := [.native { method := ⟨0, 0⟩, args := #[] }]
def about1 : State := aboutOver below0
def p0 : Program := .bare "" "" ""
def e0 : Env := launch0.env 0 0 0
theorem w_frames : about1.frames = Frame.invoking theMethod args0 :: below0 := rfl
set_option maxRecDepth 65536 in
theorem w_args : argsFit about1.vm theMethod args0 = true := by decide +kernel
set_option maxRecDepth 65536 in
theorem w_heap : heapFits about1 = true := by decide +kernel
set_option maxRecDepth 65536 in
theorem w_runnable : about1.curStatus? = some .runnable := by decide +kernel
set_option maxRecDepth 65536 in
theorem w_alone : about1.alone = true := by decide +kernel
set_option maxRecDepth 65536 in
theorem w_named : about1.methodNamed? x = some theMethod := by decide +kernel
set_option maxRecDepth 65536 in
theorem w_hears : about1.hears theMethod below0 = true := by decide +kernel
set_option maxRecDepth 65536 in
theorem w_ripe : about1.ripe theMethod args0 below0 = true := by decide +kernel
theorem w_running : about1.status = .running := rfl
set_option maxRecDepth 65536 in
theorem w_room : about1.hasRoom e0.platform room_1 = true :=
  launch0.hasRoom_least _ room_1 (by decide +kernel) (by decide +kernel) (by decide +kernel) (by decide +kernel) (by decide +kernel) (by decide +kernel)
theorem allAtoms_all (ts : List Jvm.Cond) (a : Array Jvm.Value) (st : Jvm.State) : (allAtoms ts).before a st = ts.all (fun c => c.before a st) := by
  induction ts with
  | nil => rfl
  | cons c t ih =>
    show (Jvm.Cond.and c (allAtoms t)).before a st = _
    rw [Jvm.Cond.before_and, ih, List.all_cons]
def words1 : List Jvm.Cond := Jvm.Cond.code x code maxLocals ret :: tables_1
/-- a 'code' word, met by the world's own term for the bytes: nothing is compared byte by byte -/
theorem code_word {y : MethodName} {bytes : ByteArray} {mx : Nat} {rt : Option FieldType} {a : Array Value} {s : State} {m : MethodId} {meth : Method} {c : Code} (h1 : s.methodNamed? y = some m) (h2 : s.vm.method? m = some meth) (h3 : meth.code = some c) (h4 : c.code = bytes)
    (h5 : (c.maxLocals == mx && c.exceptionTable.isEmpty && decide (c.maxStack ≤ mostOperands) && decide (meth.sig.returnType = rt) && !meth.locks && decide (parseMethodDescriptor y.desc = some meth.sig)) = true) : (Jvm.Cond.code y bytes mx rt).before a s = true := by
  simp only [Bool.and_eq_true, beq_iff_eq, Bool.not_eq_true', decide_eq_true_eq] at h5
  obtain ⟨⟨⟨⟨⟨g1, g2⟩, g3⟩, g4⟩, g5⟩, g6⟩ := h5
  simp [Cond.before, Cond.holds, Cond.value, h1, h2, h3, h4, g1, g2, g3, g4, g5, g6]
def isCode : Jvm.Cond → Bool
  | .code _ _ _ _ => true
  | _ => false
theorem all_split {L : List Jvm.Cond} {P : Jvm.Cond → Bool} (h1 : L.all (fun c => isCode c || P c) = true) (h2 : ∀ c ∈ L.filter isCode, P c = true) : L.all P = true := by
  refine List.all_eq_true.mpr fun c hc => ?_
  have h := List.all_eq_true.mp h1 c hc
  rcases Bool.eq_false_or_eq_true (isCode c) with hi | hi
  · exact h2 c (List.mem_filter.mpr ⟨hc, hi⟩)
  · simpa [hi] using h
set_option maxRecDepth 65536 in
theorem w_c0 : (Jvm.Cond.code x code maxLocals ret).before args0 about1 = true := code_word (m := ⟨1, 2⟩) (meth := k1m2) (c := k1c2) (by decide +kernel) rfl rfl rfl (by decide +kernel)
set_option maxRecDepth 65536 in
theorem w_c1 : (Jvm.Cond.code ({ cls := "com/example/fixpoint/fixpoint/Position", name := "<init>", desc := "(JI)V" } : Jvm.MethodName) prog_84_method_1_code (4 : Nat) (Option.none : Option Jvm.ClassFile.FieldType)).before args0 about1 = true := code_word (m := ⟨2, 0⟩) (meth := k2m0) (c := k2c0) (by decide +kernel) rfl rfl rfl (by decide +kernel)
set_option maxRecDepth 65536 in
theorem w_c2 : (Jvm.Cond.code ({ cls := "java/lang/Object", name := "<init>", desc := "()V" } : Jvm.MethodName) object_method_1_code (1 : Nat) (Option.none : Option Jvm.ClassFile.FieldType)).before args0 about1 = true := code_word (m := ⟨0, 0⟩) (meth := k0m0) (c := k0c0) (by decide +kernel) rfl rfl rfl (by decide +kernel)
set_option maxRecDepth 65536 in
theorem w_c3 : (Jvm.Cond.code ({ cls := "com/example/fixpoint/fixpoint/Position", name := "isBefore", desc := "(Lcom/example/fixpoint/fixpoint/Position;)Z" } : Jvm.MethodName) prog_84_method_4_code (2 : Nat) (Option.some Jvm.ClassFile.FieldType.boolean)).before args0 about1 = true := code_word (m := ⟨2, 1⟩) (meth := k2m1) (c := k2c1) (by decide +kernel) rfl rfl rfl (by decide +kernel)
set_option maxRecDepth 65536 in
theorem w_c4 : (Jvm.Cond.code ({ cls := "com/example/fixpoint/fixpoint/PositionIsBeforePinLaw", name := "ref", desc := "(JIJI)Z" } : Jvm.MethodName) method_2_code (6 : Nat) (Option.some Jvm.ClassFile.FieldType.boolean)).before args0 about1 = true := code_word (m := ⟨1, 1⟩) (meth := k1m1) (c := k1c1) (by decide +kernel) rfl rfl rfl (by decide +kernel)
def codes1 : List Jvm.Cond := [Jvm.Cond.code x code maxLocals ret, Jvm.Cond.code ({ cls := "com/example/fixpoint/fixpoint/Position", name := "<init>", desc := "(JI)V" } : Jvm.MethodName) prog_84_method_1_code (4 : Nat) (Option.none : Option Jvm.ClassFile.FieldType), Jvm.Cond.code ({ cls := "java/lang/Object", name := "<init>", desc := "()V" } : Jvm.MethodName) object_method_1_code (1 : Nat) (Option.none : Option Jvm.ClassFile.FieldType), Jvm.Cond.code ({ cls := "com/example/fixpoint/fixpoint/Position", name := "isBefore", desc := "(Lcom/example/fixpoint/fixpoint/Position;)Z" } : Jvm.MethodName) prog_84_method_4_code (2 : Nat) (Option.some Jvm.ClassFile.FieldType.boolean), Jvm.Cond.code ({ cls := "com/example/fixpoint/fixpoint/PositionIsBeforePinLaw", name := "ref", desc := "(JIJI)Z" } : Jvm.MethodName) method_2_code (6 : Nat) (Option.some Jvm.ClassFile.FieldType.boolean)]
set_option maxRecDepth 65536 in
theorem codes_eq : words1.filter isCode = codes1 := rfl
theorem w_codes : ∀ c ∈ words1.filter isCode, c.before args0 about1 = true := by
  rw [codes_eq]
  intro c hc
  simp only [codes1, List.mem_cons, List.not_mem_nil, or_false] at hc
  rcases hc with rfl | rfl | rfl | rfl | rfl
  · exact w_c0
  · exact w_c1
  · exact w_c2
  · exact w_c3
  · exact w_c4
set_option maxRecDepth 65536 in
theorem w_t1 : words1.all (fun c => isCode c || c.before args0 about1) = true := by decide +kernel
theorem w_tables : (allAtoms (Jvm.Cond.code x code maxLocals ret :: tables_1)).before args0 about1 = true := by
  rw [allAtoms_all]
  show words1.all (fun c => c.before args0 about1) = true
  refine all_split ?_ w_codes
  rw [w_t1]
set_option maxRecDepth 65536 in
theorem w_case : (Jvm.Cond.and given_1 narrow_1).before args0 about1 = true := by decide +kernel
theorem w_applies : (headSpec (Jvm.Cond.code x code maxLocals ret :: tables_1) room_1).applies x e0.platform about1 = true :=
  (Spec.applies_iff w_frames).mpr ⟨w_running, w_runnable, w_alone, w_named, w_hears, w_ripe, w_room, w_tables⟩
theorem atStart : AtStart classFile x code maxLocals ret World_1 tables_1 room_1 Calls_1 rest_1 Pre_1 launch0 p0 e0 about1 theMethod args0 below0 :=
  ⟨lists_1, trivial, launch0.admits_env _ _ _, launch0.least_env, fairChoices_fair.cas, fairChoices_fair.clock, w_frames, w_args, w_heap, w_applies, trivial, trivial, w_case⟩
end start1
theorem witness_1 : WitnessClaimed_1 := ⟨start1.p0, start1.e0, start1.about1, start1.theMethod, start1.args0, start1.below0, start1.atStart⟩
end Jvm.Pilot.@@N@@
