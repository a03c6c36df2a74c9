import JvmDerived
import JvmDerived.Pilot.@@N@@Statement
import JvmDerived.Pilot.@@N@@Code
set_option linter.unusedVariables false
set_option linter.unusedSimpArgs false
@@BLOCK:NumsL.lean.txt@@
namespace Jvm.Pilot.@@N@@
open Jvm Jvm.ClassFile Sem Op Lib Jvm.Free Jvm.Stand Jvm.LawKit Jvm.RoadKit Bundle Jvm.Pilot.@@N@@.Jvm.D

section Kit
/-- The run goes on from the state T with the frame f on top and comes back to the caller, and Q holds of what it returned, of the heap and of the places written. -/
def Go (p : Program) (e : Env) (below : List Frame) (Fin : Outcome → State → List Loc → Prop) (Q : Option Value → Heap → List Loc → Prop) (T : State) (f : JFrame) : Prop :=
  ∃ s₂ o, Steps p.tables e below (T.setTop f) s₂ ∧ s₂.status = .running ∧ Ended s₂ below o ∧ ∃ v L, o = .returned v ∧ Q v s₂.heap L ∧ Fin o s₂ L
/-- a body's contract -/
def Met (l : Launch) (Z : State) (y : MethodName) (bytes : ByteArray) (maxL : Nat) (ret : Option FieldType) (ws : List Jvm.Cond) (rm : Room) (as : Array Value) (h0 : Heap) (Q : Option Value → Heap → List Loc → Prop) : Prop :=
  MetFree l y (head1 (Jvm.Cond.code y bytes maxL ret :: ws) rm) (fun a U => a = as ∧ Z.Warmed39 U.vm ∧ U.heap = h0) (fun _ _ _ _ _ => True) (fun _ U o U' => ∃ v L, o = .returned v ∧ Q v U'.heap L ∧ FrameEnd U o U' L rm.cells rm.slots)
theorem Met.mk {l : Launch} {Z : State} {y : MethodName} {bytes : ByteArray} {maxL : Nat} {ret : Option FieldType} {ws : List Jvm.Cond} {rm : Room} {as : Array Value} {h0 : Heap} {Q : Option Value → Heap → List Loc → Prop} (hp : plainFor y = true)
    (body : ∀ (p : Program) (e : Env) (s : State) (m : MethodId) (below : List Frame) (meth : Method) (c : Code) (T : State), p.tables.exec = Jvm.exec → c.code = bytes → c.maxLocals = maxL → s.vm.findClass y.cls = some m.cls → meth.name = y.name → meth.sig.returnType = ret → meth.locks = false → Z.Warmed39 s.vm →
      Stand p l e rm s m as below meth c T [] 0 0 → T.heap = h0 → Go p e below (fun o t L => FrameEnd s o t L rm.cells rm.slots) Q T (entryFrame m as maxL)) : Met l Z y bytes maxL ret ws rm as h0 Q := by
  refine MetFree.of_bodySF hp hisR ?_
  intro p e s m args below meth c s₁ Bd hml0 hP hK
  obtain ⟨rfl, hZ, hh⟩ := hP
  exact body p e s m below meth c s₁ Bd.exec Bd.bytes hml0 (findClass_of_methodNamed Bd.named) (name_of_methodNamed Bd.named Bd.method).1 Bd.returns (BodyLoose.notSynchronized Bd) hZ (Stand.of_body Bd) (by rw [← hh, Bd.state]; rfl)
variable {p : Program} {l : Launch} {e : Env} {R : Room} {s : State} {m : MethodId} {args : Array Value} {below : List Frame} {meth : Method} {c : Code} {T T' : State} {locs : List Loc} {cells slots : Nat} {Fin : Outcome → State → List Loc → Prop} {Q : Option Value → Heap → List Loc → Prop} {f f' : JFrame} {Z : State} {a0 : Array Value} {h h' : Heap} {pc : Nat} {Ls : Array Slot} {rest : List Value}
theorem Go.of (h : ∀ t, Steps p.tables e below (T'.setTop f') t → Steps p.tables e below (T.setTop f) t) (g : Go p e below Fin Q T' f') : Go p e below Fin Q T f := by
  obtain ⟨s₂, o, h1, h2⟩ := g
  exact ⟨s₂, o, h _ h1, h2⟩
theorem Go.cast (q : f = f') (g : Go p e below Fin Q T f') : Go p e below Fin Q T f := q ▸ g
theorem Go.join {α : Type} (P : α → Prop) (fr : α → JFrame) (k : ∀ x, P x → Go p e below Fin Q T (fr x)) (g : (∀ x, P x → Go p e below Fin Q T (fr x)) → Go p e below Fin Q T f) : Go p e below Fin Q T f := g k
theorem Go.joinT {α : Type} (X : Stand p l e R s m args below meth c T locs cells slots) (I : α → List Loc → Heap → Prop) (fr : α → JFrame) (k : ∀ x T' locs' h', Stand p l e R s m args below meth c T' locs' cells slots → T'.heap = h' → I x locs' h' → Go p e below Fin Q T' (fr x))
    (g : (∀ x T' locs' h', Stand p l e R s m args below meth c T' locs' cells slots → T'.heap = h' → I x locs' h' → Go p e below Fin Q T' (fr x)) → Go p e below Fin Q T f) : Go p e below Fin Q T f := g k
theorem Go.loop {α : Type} (μ : α → Nat) (I : α → List Loc → Heap → Prop) (fr : α → JFrame)
    (step : ∀ x T' locs' h', Stand p l e R s m args below meth c T' locs' cells slots → T'.heap = h' → I x locs' h' → (∀ y T'' locs'' h'', μ y < μ x → Stand p l e R s m args below meth c T'' locs'' cells slots → T''.heap = h'' → I y locs'' h'' → Go p e below Fin Q T'' (fr y)) → Go p e below Fin Q T' (fr x))
    (x : α) (X : Stand p l e R s m args below meth c T locs cells slots) (eT : T.heap = h) (hI : I x locs h) : Go p e below Fin Q T (fr x) := by
  obtain ⟨n, hn⟩ : ∃ n, μ x < n := ⟨_, Nat.lt_succ_self _⟩
  induction n generalizing x T locs h with
  | zero => exact absurd hn (Nat.not_lt_zero _)
  | succ n ih => exact step x T locs h X eT hI fun y T'' l'' h'' hy X'' e'' I'' => ih y X'' e'' I'' (by omega)
theorem Met.mono {y : MethodName} {bytes : ByteArray} {maxL : Nat} {ret : Option FieldType} {ws : List Jvm.Cond} {rm : Room} {as : Array Value} {h0 : Heap} {Q Q' : Option Value → Heap → List Loc → Prop} (M : Met l Z y bytes maxL ret ws rm as h0 Q) (q : ∀ v h L, Q v h L → Q' v h L) : Met l Z y bytes maxL ret ws rm as h0 Q' := by
  intro p e ha hc hk s m args below hf happ hP hK
  obtain ⟨n, o, h1, h2, h3, v, L, h4, h5, h6⟩ := M p e ha hc hk s m args below hf happ hP hK
  exact ⟨n, o, h1, h2, h3, v, L, h4, q _ _ _ h5, h6⟩
theorem Go.retW {g : JFrame} {v : Option Value} (X : Stand p l e R s m args below meth c T locs cells slots) (hv : meth.sig.returnType = none → v = none) (hlk : meth.locks = false) (hF : ∀ t v, FrameEnd s (.returned v) t locs cells slots → t.heap = T.heap → Fin (.returned v) t locs) (q : Q v T.heap locs)
    (st : ∀ fs, (∀ (f : JFrame) (acts : List Action), f.method = m → f.locked = none → f.entered = [] → (doReturn e (T.setTop f) acts v).1 = T.setFrames fs) → Steps p.tables e below (T.setTop g) (T.setFrames fs)) : Go p e below Fin Q T g := by
  obtain ⟨fs, hr, hrun, hended, hW, hsame⟩ := X.leave (v := v) hv hlk
  exact ⟨_, _, st fs hr, hrun, hended, _, _, rfl, q, hF _ _ ⟨⟨_, rfl⟩, hW, hsame⟩ rfl⟩
theorem Go.retI {z : Int32} (X : Stand p l e R s m args below meth c T locs cells slots) (hx : p.tables.exec = Jvm.exec) (hret : meth.sig.returnType = some .int) (hlk : meth.locks = false) (hd : decode c.code pc = .ok (.ireturn, 1)) (hF : ∀ t v, FrameEnd s (.returned v) t locs cells slots → t.heap = T.heap → Fin (.returned v) t locs) (q : Q (some (.int z)) T.heap locs) :
    Go p e below Fin Q T (mkF m pc Ls (.int z :: rest)) :=
  Go.retW X (fun h => by rw [hret] at h; cases h) hlk hF q fun fs hr => retOut X hx hret rfl (Or.inl ⟨rfl, Or.inl rfl, z, rfl⟩) hd hr
theorem Go.retJ {z : Int64} (X : Stand p l e R s m args below meth c T locs cells slots) (hx : p.tables.exec = Jvm.exec) (hret : meth.sig.returnType = some .long) (hlk : meth.locks = false) (hd : decode c.code pc = .ok (.lreturn, 1)) (hF : ∀ t v, FrameEnd s (.returned v) t locs cells slots → t.heap = T.heap → Fin (.returned v) t locs) (q : Q (some (.long z)) T.heap locs) :
    Go p e below Fin Q T (mkF m pc Ls (.long z :: rest)) :=
  Go.retW X (fun h => by rw [hret] at h; cases h) hlk hF q fun fs hr => retOut X hx hret rfl (Or.inr (Or.inl ⟨rfl, rfl, z, rfl⟩)) hd hr
theorem Go.retA {w : Value} {t : FieldType} (X : Stand p l e R s m args below meth c T locs cells slots) (hx : p.tables.exec = Jvm.exec) (hret : meth.sig.returnType = some t) (ht : t.isReference = true) (hw : w.isRef = true) (hn : narrow t w = w) (hlk : meth.locks = false) (hd : decode c.code pc = .ok (.areturn, 1)) (hF : ∀ t v, FrameEnd s (.returned v) t locs cells slots → t.heap = T.heap → Fin (.returned v) t locs) (q : Q (some w) T.heap locs) :
    Go p e below Fin Q T (mkF m pc Ls (w :: rest)) :=
  Go.retW X (fun h => by rw [hret] at h; cases h) hlk hF q fun fs hr => retOut X hx hret hn (Or.inr (Or.inr (Or.inr (Or.inr ⟨rfl, ht, hw⟩)))) hd hr
theorem Go.retN {z : Int32} {t : FieldType} (X : Stand p l e R s m args below meth c T locs cells slots) (hx : p.tables.exec = Jvm.exec) (hret : meth.sig.returnType = some t) (ht : t = .boolean ∨ t = .byte ∨ t = .char ∨ t = .short) (hlk : meth.locks = false) (hd : decode c.code pc = .ok (.ireturn, 1)) (hF : ∀ t v, FrameEnd s (.returned v) t locs cells slots → t.heap = T.heap → Fin (.returned v) t locs) (q : Q (some (.int (nar t z))) T.heap locs) :
    Go p e below Fin Q T (mkF m pc Ls (.int z :: rest)) :=
  Go.retW X (fun h => by rw [hret] at h; cases h) hlk hF q fun fs hr => RoadKit.retN X hx hret ht hd hr
theorem Go.retV (X : Stand p l e R s m args below meth c T locs cells slots) (hx : p.tables.exec = Jvm.exec) (hret : meth.sig.returnType = none) (hlk : meth.locks = false) (hd : decode c.code pc = .ok (.return_, 1)) (hF : ∀ t v, FrameEnd s (.returned v) t locs cells slots → t.heap = T.heap → Fin (.returned v) t locs) (q : Q none T.heap locs) :
    Go p e below Fin Q T (mkF m pc Ls []) :=
  Go.retW X (fun _ => rfl) hlk hF q fun fs hr => X.returnOut hx hret hd hr
theorem own_fin {o : Outcome} {t : State} {L : List Loc} {k n k' n' : Nat} (q : FrameEnd s o t L k n) (h1 : k ≤ k') (h2 : n ≤ n') : FrameEnd s o t L k' n' := ⟨q.1, q.2.1, q.2.2.mono h1 h2⟩
theorem own_finW {vm₁ : Vm} {o : Outcome} {t : State} {L : List Loc} {k n k' n' n₁ : Nat} (hS : s.Since vm₁ n₁) (hn : n₁ ≤ t.heap.size) (q : FrameEnd (s.setVm vm₁) o t L k n) (h1 : k ≤ k') (h2 : n ≤ n') : ReturnedEndW s o t L k' n' := by
  obtain ⟨a, b, c⟩ := hS.ended (U := t) q.2.1 hn q.2.2
  exact ⟨q.1, a, b, c.mono h1 h2⟩
def MetW (l : Launch) (Z : State) (y : MethodName) (bytes : ByteArray) (maxL : Nat) (ret : Option FieldType) (ws : List Jvm.Cond) (rm : Room) (as : Array Value) (Q : Option Value → Heap → List Loc → Prop) : Prop :=
  MetFree l y (head1 (Jvm.Cond.code y bytes maxL ret :: ws) rm) (fun a U => a = as ∧ U = Z) (fun _ _ _ _ _ => True) (fun _ U o U' => ∃ v L, o = .returned v ∧ Q v U'.heap L ∧ ReturnedEndW U o U' L rm.cells rm.slots)
theorem MetW.mk {l : Launch} {Z : State} {y : MethodName} {bytes : ByteArray} {maxL : Nat} {ret : Option FieldType} {ws : List Jvm.Cond} {rm : Room} {as : Array Value} {Q : Option Value → Heap → List Loc → Prop} (hp : plainFor y = true)
    (body : ∀ (p : Program) (e : Env) (m : MethodId) (below : List Frame) (meth : Method) (c : Code) (T : State), p.tables.exec = Jvm.exec → c.code = bytes → c.maxLocals = maxL → Z.vm.findClass y.cls = some m.cls → meth.name = y.name → meth.sig.returnType = ret → meth.locks = false → Z.Warmed39 Z.vm →
      Stand p l e rm (Z.setVm Z.vm) m as below meth c T [] 0 0 → T.heap = Z.heap → Z.Since Z.vm 0 → Go p e below (fun o t L => ReturnedEndW Z o t L rm.cells rm.slots) Q T (entryFrame m as maxL)) : MetW l Z y bytes maxL ret ws rm as Q := by
  refine MetFree.of_bodySF hp hisR ?_
  intro p e s m args below meth c s₁ Bd hml0 hP hK
  obtain ⟨rfl, rfl⟩ := hP
  exact body p e m below meth c s₁ Bd.exec Bd.bytes hml0 (findClass_of_methodNamed Bd.named) (name_of_methodNamed Bd.named Bd.method).1 Bd.returns (BodyLoose.notSynchronized Bd) (State.Warmed39.refl s) (Stand.of_body Bd) (by rw [Bd.state]; rfl) ((State.WarmedH.refl s).since 0)
/-! fields -/
theorem Go.getF {own R0 O n d : String} {index : Nat} {a : Addr} {v : Value} (X : Stand p l e R s m args below meth c T locs cells slots) (hx : p.tables.exec = Jvm.exec) (hZ : Z.Warmed39 s.vm) (hown : s.vm.findClass own = some m.cls) (w : (Jvm.Cond.fieldLink own index R0 n d).before a0 Z = true) (via : Via Z R0 O n d) (eT : T.heap = h) (F : Fld Z h a O n d v)
    (hd : decode c.code pc = .ok (.getfield index, 3)) (k : ∀ T', Stand p l e R s m args below meth c T' locs cells slots → T'.heap = h → Go p e below Fin Q T' (mkF m (pc + 3) Ls (v :: rest))) : Go p e below Fin Q T (mkF m pc Ls (.ref a :: rest)) := by
  obtain ⟨T', X', e', st⟩ := RoadKit.getF X hx hZ hown (host := "") (Or.inl w) via eT F (g := mkF m pc Ls (.ref a :: rest)) rfl rfl hd
  exact Go.of st (k T' X' e')
theorem Go.getFN {own R0 O n d host : String} {index : Nat} {a : Addr} {v : Value} (X : Stand p l e R s m args below meth c T locs cells slots) (hx : p.tables.exec = Jvm.exec) (hZ : Z.Warmed39 s.vm) (hown : s.vm.findClass own = some m.cls) (w : (Jvm.Cond.fieldLinkNest own index R0 n d host).before a0 Z = true) (via : Via Z R0 O n d) (eT : T.heap = h) (F : Fld Z h a O n d v)
    (hd : decode c.code pc = .ok (.getfield index, 3)) (k : ∀ T', Stand p l e R s m args below meth c T' locs cells slots → T'.heap = h → Go p e below Fin Q T' (mkF m (pc + 3) Ls (v :: rest))) : Go p e below Fin Q T (mkF m pc Ls (.ref a :: rest)) := by
  obtain ⟨T', X', e', st⟩ := RoadKit.getF X hx hZ hown (Or.inr w) via eT F (g := mkF m pc Ls (.ref a :: rest)) rfl rfl hd
  exact Go.of st (k T' X' e')
theorem Go.putF {own R0 O n d C : String} {index kk : Nat} {ty : FieldType} {a : Addr} {v old : Value} (X : Stand p l e R s m args below meth c T locs cells slots) (hx : p.tables.exec = Jvm.exec) (hZ : Z.Warmed39 s.vm) (hown : s.vm.findClass own = some m.cls) (w : (Jvm.Cond.fieldLink own index R0 n d).before a0 Z = true) (via : Via Z R0 O n d) (eT : T.heap = h) (F : Fld Z h a O n d old)
    (E : Exa Z h a C) (L : (Jvm.Cond.lays C O n d).before a0 Z = true ∨ ((Jvm.Cond.laysFinal C O n d).before a0 Z = true ∧ own = O ∧ meth.name = "<init>")) (wi : (Jvm.Cond.instantiable C kk).before a0 Z = true) (hty : parseFieldDescriptor d = some ty) (hn : narrow ty v = v) (hf : fits ty v = true)
    (hd : decode c.code pc = .ok (.putfield index, 3)) (k : ∀ T' h', Stand p l e R s m args below meth c T' (locs ++ [⟨a, RoadKit.slotOf Z O n d⟩]) cells slots → T'.heap = h' → Wr h h' a (RoadKit.slotOf Z O n d) v → Go p e below Fin Q T' (mkF m (pc + 3) Ls rest)) : Go p e below Fin Q T (mkF m pc Ls (v :: .ref a :: rest)) := by
  obtain ⟨T', h', X', e', W, st⟩ := RoadKit.putF X hx hZ hown (host := "") (Or.inl w) via eT F E L wi hty hn hf (g := mkF m pc Ls (v :: .ref a :: rest)) rfl rfl hd
  exact Go.of st (k T' h' X' e' W)
theorem Go.putFN {own R0 O n d C : String} {index kk : Nat} {ty : FieldType} {a : Addr} {z : Int32} {old : Value} (X : Stand p l e R s m args below meth c T locs cells slots) (hx : p.tables.exec = Jvm.exec) (hZ : Z.Warmed39 s.vm) (hown : s.vm.findClass own = some m.cls) (w : (Jvm.Cond.fieldLink own index R0 n d).before a0 Z = true) (via : Via Z R0 O n d) (eT : T.heap = h) (F : Fld Z h a O n d old)
    (E : Exa Z h a C) (L : (Jvm.Cond.lays C O n d).before a0 Z = true ∨ ((Jvm.Cond.laysFinal C O n d).before a0 Z = true ∧ own = O ∧ meth.name = "<init>")) (wi : (Jvm.Cond.instantiable C kk).before a0 Z = true) (hty : parseFieldDescriptor d = some ty) (hn : narrow ty (.int z) = .int (nar ty z)) (hf : fits ty (.int (nar ty z)) = true)
    (hd : decode c.code pc = .ok (.putfield index, 3)) (k : ∀ T' h', Stand p l e R s m args below meth c T' (locs ++ [⟨a, RoadKit.slotOf Z O n d⟩]) cells slots → T'.heap = h' → Wr h h' a (RoadKit.slotOf Z O n d) (.int (nar ty z)) → Go p e below Fin Q T' (mkF m (pc + 3) Ls rest)) : Go p e below Fin Q T (mkF m pc Ls (.int z :: .ref a :: rest)) := by
  obtain ⟨T', h', X', e', W, st⟩ := RoadKit.putFN X hx hZ hown w via eT F E L wi hty hn hf (g := mkF m pc Ls (.int z :: .ref a :: rest)) rfl rfl hd
  exact Go.of st (k T' h' X' e' W)
theorem Go.getS {own R0 O n d : String} {index : Nat} {v : Value} (X : Stand p l e R s m args below meth c T locs cells slots) (hx : p.tables.exec = Jvm.exec) (hZ : Z.Warmed39 s.vm) (hown : s.vm.findClass own = some m.cls) (w : (Jvm.Cond.fieldLink own index R0 n d).before a0 Z = true) (via : Via Z R0 O n d) (eT : T.heap = h) (F : Sta Z h O n d v)
    (hd : decode c.code pc = .ok (.getstatic index, 3)) (k : ∀ T', Stand p l e R s m args below meth c T' locs cells slots → T'.heap = h → Go p e below Fin Q T' (mkF m (pc + 3) Ls (v :: rest))) : Go p e below Fin Q T (mkF m pc Ls rest) := by
  obtain ⟨T', X', e', st⟩ := RoadKit.getS2 X hx hZ hown (host := "") (Or.inl w) via eT F (g := mkF m pc Ls rest) rfl hd
  exact Go.of st (k T' X' e')
theorem Go.ldcS {vm0 : Vm} {own text : String} {index k0 : Nat} (X : Stand p l e R (s.setVm vm0) m args below meth c T locs cells slots) (hx : p.tables.exec = Jvm.exec) (hZ : Z.Warmed39 vm0) (hown : vm0.findClass own = some m.cls) (w : (Jvm.Cond.stringLink own index text).before a0 Z = true) (wS : ∀ a ∈ Bundle.stringAtoms, a.before a0 Z = true)
    (eT : T.heap = h) (hS : s.Since vm0 k0) (hk : k0 ≤ h.size) (hd : decode c.code pc = .ok (.ldc index, 2)) (n : Nat) (hn : 4 * text.toList.length ≤ n) (hbig : n ≤ 536870912) (hc : cells + 2 ≤ R.cells) (hl : slots + (n + 4) ≤ R.slots)
    (k : ∀ (a : Addr) T' h' k1, Stand p l e R (s.setVm T'.vm) m args below meth c T' locs (cells + 2) (slots + (n + 4)) → T'.heap = h' → Ext h h' → s.Since T'.vm k1 → k1 ≤ h'.size → Z.Warmed39 (s.setVm T'.vm).vm → (s.setVm T'.vm).vm.findClass own = some m.cls → Go p e below Fin Q T' (mkF m (pc + 2) Ls (.ref a :: rest))) : Go p e below Fin Q T (mkF m pc Ls rest) := by
  obtain ⟨a, T', h', k1, r1, r2, r3, r4, r5, r6, r7, st⟩ := RoadKit.ldcS X hx hZ hown w wS eT hS hk (g := mkF m pc Ls rest) rfl hd hn hbig hc hl
  exact Go.of st (k a T' h' k1 r1 r2 r3 r4 r5 r6 r7)
/-! objects and arrays made -/
theorem Go.newO {own C : String} {index n : Nat} (X : Stand p l e R s m args below meth c T locs cells slots) (hx : p.tables.exec = Jvm.exec) (hZ : Z.Warmed39 s.vm) (hown : s.vm.findClass own = some m.cls) (w : (Jvm.Cond.classLink own index C).before a0 Z = true) (wi : (Jvm.Cond.instantiable C n).before a0 Z = true) (wz : (Jvm.Cond.initialized C).before a0 Z = true) (eT : T.heap = h)
    (hd : decode c.code pc = .ok (.new index, 3)) (hc : cells + 1 ≤ R.cells) (hl : slots + n ≤ R.slots)
    (k : ∀ T' h' a, Stand p l e R s m args below meth c T' locs (cells + 1) (slots + n) → T'.heap = h' → Ext h h' → a = h.size → Exa Z h' a C → (∀ {O nm d : String} {ty : FieldType}, Laid Z a0 C O nm d → parseFieldDescriptor d = some ty → Fld Z h' a O nm d (defaultValue ty)) → Go p e below Fin Q T' (mkF m (pc + 3) Ls (.ref a :: rest))) : Go p e below Fin Q T (mkF m pc Ls rest) := by
  obtain ⟨T', h', X', e', E, A, D, -, st⟩ := RoadKit.newO X hx hZ hown w wi wz eT (g := mkF m pc Ls rest) rfl hd hc hl
  exact Go.of st (k T' h' _ X' e' E rfl A D)
/-- an array: its kind, its length, what each place holds -/
def AV (Z : State) (h : Heap) (a : Addr) (ty : FieldType) (n : Nat) (f : Nat → Value) : Prop := ∃ cl : Cell, Arr Z h a cl ty ∧ cl.slots.size = n ∧ ∀ j, j < n → cl.slots[j]? = some (f j)
theorem AV.of_arv {Z : State} {h : Heap} {a : Addr} {kc : ClassId} {ty : FieldType} {z : Int32} {vs : List Value} {d : Value} (V : Arv Z h a kc ty z vs d) : AV Z h a ty z.toNatClampNeg (fun i => vs.getD i d) := by
  obtain ⟨cl, A, -, S, -, H, -⟩ := V
  exact ⟨cl, A, S, fun j hj => H j (by rw [S]; exact hj)⟩
def upd (f : Nat → Value) (j : Nat) (v : Value) : Nat → Value := fun i => if i = j then v else f i
def Inb (j : Int32) (n : Nat) : Prop := ¬ j < 0 ∧ j.toNatClampNeg < n
theorem upd_same (f : Nat → Value) (j : Nat) (v : Value) : upd f j v j = v := by simp [upd]
theorem upd_ne (f : Nat → Value) {i j : Nat} (v : Value) (hn : i ≠ j) : upd f j v i = f i := by simp [upd, hn]
theorem AV.lt {a : Addr} {ty : FieldType} {n : Nat} {f : Nat → Value} (V : AV Z h a ty n f) : a < h.size := by obtain ⟨cl, A, -⟩ := V; exact A.lt
theorem AV.ext {a : Addr} {ty : FieldType} {n : Nat} {f : Nat → Value} (V : AV Z h a ty n f) (E : Ext h h') : AV Z h' a ty n f := by obtain ⟨cl, A, r⟩ := V; exact ⟨cl, A.ext E, r⟩
theorem AV.other {a b : Addr} {ty : FieldType} {n : Nat} {f : Nat → Value} {sl : Nat} {v : Value} (V : AV Z h b ty n f) (W : Wr h h' a sl v) (q : b ≠ a) : AV Z h' b ty n f := by obtain ⟨cl, A, r⟩ := V; exact ⟨cl, A.other W q, r⟩
theorem AV.keep {a : Addr} {ty : FieldType} {n : Nat} {f : Nat → Value} {ws : List Addr} (V : AV Z h a ty n f) (K : Keep h h' ws) (q : a ∉ ws) : AV Z h' a ty n f := by obtain ⟨cl, A, r⟩ := V; exact ⟨cl, ⟨K.2.1 a cl A.1 q, A.2⟩, r⟩
theorem AV.set {a : Addr} {ty : FieldType} {n : Nat} {f : Nat → Value} {j : Nat} {v : Value} (V : AV Z h a ty n f) (W : Wr h h' a j v) (hj : j < n) : AV Z h' a ty n (upd f j v) := by
  obtain ⟨cl, A, S, H⟩ := V
  refine ⟨cl.setSlot j v, A.same W, by rw [sz_set]; exact S, fun i hi => ?_⟩
  by_cases q : i = j
  · subst q; simp [upd, Cell.setSlot, S, hj]
  · rw [upd_ne f v q, ← H i hi]; exact Array.getElem?_setIfInBounds_ne (Ne.symm q)
def updJ (f : Nat → Int64) (n : Nat) (q : Int64) : Nat → Int64 := fun j => if j = n then q else f j
def updI (f : Nat → Int32) (n : Nat) (q : Int32) : Nat → Int32 := fun j => if j = n then q else f j
theorem AV.setJ {a : Addr} {ty : FieldType} {n : Nat} {f : Nat → Int64} {j : Nat} {q : Int64} (V : AV Z h a ty n (fun i => .long (f i))) (W : Wr h h' a j (.long q)) (hj : j < n) : AV Z h' a ty n (fun i => .long (updJ f j q i)) := by
  have r := V.set W hj
  have e : upd (fun i => .long (f i)) j (.long q) = fun i => .long (updJ f j q i) := by funext i; unfold upd updJ; split <;> rfl
  rw [← e]; exact r
theorem AV.setI {a : Addr} {ty : FieldType} {n : Nat} {f : Nat → Int32} {j : Nat} {q : Int32} (V : AV Z h a ty n (fun i => .int (f i))) (W : Wr h h' a j (.int q)) (hj : j < n) : AV Z h' a ty n (fun i => .int (updI f j q i)) := by
  have r := V.set W hj
  have e : upd (fun i => .int (f i)) j (.int q) = fun i => .int (updI f j q i) := by funext i; unfold upd updI; split <;> rfl
  rw [← e]; exact r
def updD (f : Nat → UInt64) (n : Nat) (q : UInt64) : Nat → UInt64 := fun j => if j = n then q else f j
theorem AV.setD {a : Addr} {ty : FieldType} {n : Nat} {f : Nat → UInt64} {j : Nat} {q : UInt64} (V : AV Z h a ty n (fun i => .double (f i))) (W : Wr h h' a j (.double q)) (hj : j < n) : AV Z h' a ty n (fun i => .double (updD f j q i)) := by
  have r := V.set W hj
  have e : upd (fun i => .double (f i)) j (.double q) = fun i => .double (updD f j q i) := by funext i; unfold upd updD; split <;> rfl
  rw [← e]; exact r
theorem AV.congr {a : Addr} {ty : FieldType} {n : Nat} {f g : Nat → Value} (V : AV Z h a ty n f) (q : ∀ j, j < n → f j = g j) : AV Z h a ty n g := by
  obtain ⟨cl, A, S, H⟩ := V; exact ⟨cl, A, S, fun j hj => by rw [← q j hj]; exact H j hj⟩
theorem AV.new {a : Addr} {ty : FieldType} {cA : ClassId} {z : Int32} (A : Arr Z h a (newA cA ty z) ty) : AV Z h a ty z.toNatClampNeg (fun _ => defaultValue ty) :=
  ⟨_, A, sz_new _ _ _, fun j hj => by simp [newA, hj]⟩
theorem Inb.not {j : Int32} {n : Nat} (i : Inb j n) {k : Nat} (hk : k = n) : ¬ (j < 0 ∨ k ≤ j.toNatClampNeg) := fun q => q.elim i.1 (fun r => absurd i.2 (by omega))
theorem Go.newP {aty : ArrayType} {n : Int32} (X : Stand p l e R s m args below meth c T locs cells slots) (hx : p.tables.exec = Jvm.exec) (hZ : Z.Warmed39 s.vm) (w : (Jvm.Cond.arrayClass (newarray.typeOf aty)).before a0 Z = true) (eT : T.heap = h) (hd : decode c.code pc = .ok (.newarray aty, 2)) (hn : ¬ n < 0) (cap : Nat) (hcap : n.toNatClampNeg ≤ cap) (hb : cap * 8 ≤ 536870912) (hc : cells + 1 ≤ R.cells) (hl : slots + cap ≤ R.slots)
    (k : ∀ T' h' a, Stand p l e R s m args below meth c T' locs (cells + 1) (slots + cap) → T'.heap = h' → Ext h h' → a = h.size → AV Z h' a (newarray.typeOf aty) n.toNatClampNeg (fun _ => defaultValue (newarray.typeOf aty)) → Go p e below Fin Q T' (mkF m (pc + 2) Ls (.ref a :: rest))) : Go p e below Fin Q T (mkF m pc Ls (.int n :: rest)) := by
  obtain ⟨T', h', cA, X', e', E, A, st⟩ := RoadKit.newP X hx hZ w eT (g := mkF m pc Ls (.int n :: rest)) rfl hd rfl hn hcap hb hc hl
  exact Go.of st (k T' h' _ X' e' E rfl (AV.new A))
theorem Go.stI {a : Addr} {n : Nat} {g : Nat → Value} {j x : Int32} (X : Stand p l e R s m args below meth c T locs cells slots) (hx : p.tables.exec = Jvm.exec) (hZ : Z.Warmed39 s.vm) (eT : T.heap = h) (V : AV Z h a .int n g) (hj : Inb j n) (hd : decode c.code pc = .ok (.iastore, 1))
    (k : ∀ T' h', Stand p l e R s m args below meth c T' (locs ++ [⟨a, j.toNatClampNeg⟩]) cells slots → T'.heap = h' → Wr h h' a j.toNatClampNeg (.int x) → Go p e below Fin Q T' (mkF m (pc + 1) Ls rest)) : Go p e below Fin Q T (mkF m pc Ls (.int x :: .int j :: .ref a :: rest)) := by
  obtain ⟨cl, A, S, H⟩ := V
  obtain ⟨T', h', X', e', W, st⟩ := RoadKit.stI X hx hZ eT A (x := x) (hj.not S) (g := mkF m pc Ls (.int x :: .int j :: .ref a :: rest)) rfl rfl hd
  exact Go.of st (k T' h' X' e' W)
theorem Go.stJ {a : Addr} {n : Nat} {g : Nat → Value} {j : Int32} {x : Int64} (X : Stand p l e R s m args below meth c T locs cells slots) (hx : p.tables.exec = Jvm.exec) (hZ : Z.Warmed39 s.vm) (eT : T.heap = h) (V : AV Z h a .long n g) (hj : Inb j n) (hd : decode c.code pc = .ok (.lastore, 1))
    (k : ∀ T' h', Stand p l e R s m args below meth c T' (locs ++ [⟨a, j.toNatClampNeg⟩]) cells slots → T'.heap = h' → Wr h h' a j.toNatClampNeg (.long x) → Go p e below Fin Q T' (mkF m (pc + 1) Ls rest)) : Go p e below Fin Q T (mkF m pc Ls (.long x :: .int j :: .ref a :: rest)) := by
  obtain ⟨cl, A, S, H⟩ := V
  obtain ⟨T', h', X', e', W, st⟩ := RoadKit.stJ X hx hZ eT A (x := x) (hj.not S) (g := mkF m pc Ls (.long x :: .int j :: .ref a :: rest)) rfl rfl hd
  exact Go.of st (k T' h' X' e' W)
theorem Go.stC {a : Addr} {n : Nat} {g : Nat → Value} {j x : Int32} (X : Stand p l e R s m args below meth c T locs cells slots) (hx : p.tables.exec = Jvm.exec) (hZ : Z.Warmed39 s.vm) (eT : T.heap = h) (V : AV Z h a .char n g) (hj : Inb j n) (hd : decode c.code pc = .ok (.castore, 1))
    (k : ∀ T' h', Stand p l e R s m args below meth c T' (locs ++ [⟨a, j.toNatClampNeg⟩]) cells slots → T'.heap = h' → Wr h h' a j.toNatClampNeg (.int (nar .char x)) → Go p e below Fin Q T' (mkF m (pc + 1) Ls rest)) : Go p e below Fin Q T (mkF m pc Ls (.int x :: .int j :: .ref a :: rest)) := by
  obtain ⟨cl, A, S, H⟩ := V
  obtain ⟨T', h', X', e', W, st⟩ := RoadKit.stC X hx hZ eT A (x := x) (hj.not S) (g := mkF m pc Ls (.int x :: .int j :: .ref a :: rest)) rfl rfl hd
  exact Go.of st (k T' h' X' e' W)
theorem Go.stB {a : Addr} {n : Nat} {g : Nat → Value} {j x : Int32} (X : Stand p l e R s m args below meth c T locs cells slots) (hx : p.tables.exec = Jvm.exec) (hZ : Z.Warmed39 s.vm) (eT : T.heap = h) (V : AV Z h a .byte n g) (hj : Inb j n) (hd : decode c.code pc = .ok (.bastore, 1))
    (k : ∀ T' h', Stand p l e R s m args below meth c T' (locs ++ [⟨a, j.toNatClampNeg⟩]) cells slots → T'.heap = h' → Wr h h' a j.toNatClampNeg (.int (nar .byte x)) → Go p e below Fin Q T' (mkF m (pc + 1) Ls rest)) : Go p e below Fin Q T (mkF m pc Ls (.int x :: .int j :: .ref a :: rest)) := by
  obtain ⟨cl, A, S, H⟩ := V
  obtain ⟨T', h', X', e', W, st⟩ := RoadKit.stB X hx hZ eT A (x := x) (hj.not S) (g := mkF m pc Ls (.int x :: .int j :: .ref a :: rest)) rfl rfl hd
  exact Go.of st (k T' h' X' e' W)
theorem Go.stD {a : Addr} {n : Nat} {g : Nat → Value} {j : Int32} {x : UInt64} (X : Stand p l e R s m args below meth c T locs cells slots) (hx : p.tables.exec = Jvm.exec) (hZ : Z.Warmed39 s.vm) (eT : T.heap = h) (V : AV Z h a .double n g) (hj : Inb j n) (hd : decode c.code pc = .ok (.dastore, 1))
    (k : ∀ T' h', Stand p l e R s m args below meth c T' (locs ++ [⟨a, j.toNatClampNeg⟩]) cells slots → T'.heap = h' → Wr h h' a j.toNatClampNeg (.double x) → Go p e below Fin Q T' (mkF m (pc + 1) Ls rest)) : Go p e below Fin Q T (mkF m pc Ls (.double x :: .int j :: .ref a :: rest)) := by
  obtain ⟨cl, A, S, H⟩ := V
  obtain ⟨T', h', X', e', W, st⟩ := RoadKit.stD X hx hZ eT A (x := x) (hj.not S) (g := mkF m pc Ls (.double x :: .int j :: .ref a :: rest)) rfl rfl hd
  exact Go.of st (k T' h' X' e' W)
theorem Go.ldD {a : Addr} {n : Nat} {g : Nat → Value} {j : Int32} (v : Value) (X : Stand p l e R s m args below meth c T locs cells slots) (hx : p.tables.exec = Jvm.exec) (hZ : Z.Warmed39 s.vm) (eT : T.heap = h) (V : AV Z h a .double n g) (hj : Inb j n) (hv : g j.toNatClampNeg = v) (hd : decode c.code pc = .ok (.daload, 1))
    (k : Go p e below Fin Q T (mkF m (pc + 1) Ls (v :: rest))) : Go p e below Fin Q T (mkF m pc Ls (.int j :: .ref a :: rest)) := by
  obtain ⟨cl, A, S, H⟩ := V
  exact Go.of (X.daload hx (by rw [eT]; exact A.1) (State.isArrayOf_alike hZ.alike A.2.1) A.2.2 (hj.not S) ((H _ hj.2).trans (by rw [hv])) (g := mkF m pc Ls (.int j :: .ref a :: rest)) rfl rfl hd) k
theorem Go.ldI {a : Addr} {n : Nat} {g : Nat → Value} {j : Int32} (v : Value) (X : Stand p l e R s m args below meth c T locs cells slots) (hx : p.tables.exec = Jvm.exec) (hZ : Z.Warmed39 s.vm) (eT : T.heap = h) (V : AV Z h a .int n g) (hj : Inb j n) (hv : g j.toNatClampNeg = v) (hd : decode c.code pc = .ok (.iaload, 1))
    (k : Go p e below Fin Q T (mkF m (pc + 1) Ls (v :: rest))) : Go p e below Fin Q T (mkF m pc Ls (.int j :: .ref a :: rest)) := by
  obtain ⟨cl, A, S, H⟩ := V
  exact Go.of (X.iaload hx (by rw [eT]; exact A.1) (State.isArrayOf_alike hZ.alike A.2.1) A.2.2 (hj.not S) ((H _ hj.2).trans (by rw [hv])) (g := mkF m pc Ls (.int j :: .ref a :: rest)) rfl rfl hd) k
theorem Go.ldJ {a : Addr} {n : Nat} {g : Nat → Value} {j : Int32} (v : Value) (X : Stand p l e R s m args below meth c T locs cells slots) (hx : p.tables.exec = Jvm.exec) (hZ : Z.Warmed39 s.vm) (eT : T.heap = h) (V : AV Z h a .long n g) (hj : Inb j n) (hv : g j.toNatClampNeg = v) (hd : decode c.code pc = .ok (.laload, 1))
    (k : Go p e below Fin Q T (mkF m (pc + 1) Ls (v :: rest))) : Go p e below Fin Q T (mkF m pc Ls (.int j :: .ref a :: rest)) := by
  obtain ⟨cl, A, S, H⟩ := V
  exact Go.of (X.laload hx (by rw [eT]; exact A.1) (State.isArrayOf_alike hZ.alike A.2.1) A.2.2 (hj.not S) ((H _ hj.2).trans (by rw [hv])) (g := mkF m pc Ls (.int j :: .ref a :: rest)) rfl rfl hd) k
theorem Go.ldC {a : Addr} {n : Nat} {g : Nat → Value} {j : Int32} (v : Value) (X : Stand p l e R s m args below meth c T locs cells slots) (hx : p.tables.exec = Jvm.exec) (hZ : Z.Warmed39 s.vm) (eT : T.heap = h) (V : AV Z h a .char n g) (hj : Inb j n) (hv : g j.toNatClampNeg = v) (hd : decode c.code pc = .ok (.caload, 1))
    (k : Go p e below Fin Q T (mkF m (pc + 1) Ls (v :: rest))) : Go p e below Fin Q T (mkF m pc Ls (.int j :: .ref a :: rest)) := by
  obtain ⟨cl, A, S, H⟩ := V
  exact Go.of (X.caload hx (by rw [eT]; exact A.1) (State.isArrayOf_alike hZ.alike A.2.1) A.2.2 (hj.not S) ((H _ hj.2).trans (by rw [hv])) (g := mkF m pc Ls (.int j :: .ref a :: rest)) rfl rfl hd) k
theorem Go.ldB {a : Addr} {n : Nat} {g : Nat → Value} {j : Int32} (v : Value) (X : Stand p l e R s m args below meth c T locs cells slots) (hx : p.tables.exec = Jvm.exec) (hZ : Z.Warmed39 s.vm) (eT : T.heap = h) (V : AV Z h a .byte n g) (hj : Inb j n) (hv : g j.toNatClampNeg = v) (hd : decode c.code pc = .ok (.baload, 1))
    (k : Go p e below Fin Q T (mkF m (pc + 1) Ls (v :: rest))) : Go p e below Fin Q T (mkF m pc Ls (.int j :: .ref a :: rest)) := by
  obtain ⟨cl, A, S, H⟩ := V
  exact Go.of (X.baloadBytes hx (by rw [eT]; exact A.1) (State.isArrayOf_alike hZ.alike A.2.1) A.2.2 (hj.not S) ((H _ hj.2).trans (by rw [hv])) (g := mkF m pc Ls (.int j :: .ref a :: rest)) rfl rfl hd) k
theorem Go.alen {a : Addr} {n : Nat} {ty : FieldType} {g : Nat → Value} (z : Int32) (X : Stand p l e R s m args below meth c T locs cells slots) (hx : p.tables.exec = Jvm.exec) (hZ : Z.Warmed39 s.vm) (eT : T.heap = h) (V : AV Z h a ty n g) (hz : n.toInt32 = z) (hd : decode c.code pc = .ok (.arraylength, 1))
    (k : Go p e below Fin Q T (mkF m (pc + 1) Ls (.int z :: rest))) : Go p e below Fin Q T (mkF m pc Ls (.ref a :: rest)) := by
  obtain ⟨cl, A, S, H⟩ := V
  refine Go.of (X.arraylength hx (by rw [eT]; exact A.1) (State.isArrayOf_alike hZ.alike A.2.1) (g := mkF m pc Ls (.ref a :: rest)) rfl rfl hd) ?_
  rw [S, hz]; exact k
/-! calls -/
theorem Go.initO {own : String} {idx : Nat} {a : Addr} (X : Stand p l e R s m args below meth c T locs cells slots) (hx : p.tables.exec = Jvm.exec) (hZ : Z.Warmed39 s.vm) (hown : s.vm.findClass own = some m.cls) (w1 : (Jvm.Cond.methodLink own idx Lib.objectInit).before a0 Z = true) (w2 : (Jvm.Cond.instanceMethod Lib.objectInit).before a0 Z = true) (w3 : (Jvm.Cond.code Lib.objectInit ⟨#[0xb1]⟩ 1 none).before a0 Z = true) (eT : T.heap = h)
    (hsz : Ls.size = c.maxLocals) (hd : decode c.code pc = .ok (.invokespecial idx, 3)) (hf : 1 ≤ R.frames) (W : Nat) (hW : (rest.map fun v => v.category).sum ≤ W) (hl : W + 12 ≤ R.locals) (k : ∀ T', Stand p l e R s m args below meth c T' locs cells slots → T'.heap = h → Go p e below Fin Q T' (mkF m (pc + 3) Ls rest)) : Go p e below Fin Q T (mkF m pc Ls (.ref a :: rest)) := by
  obtain ⟨T', X', e', st⟩ := RoadKit.initO X hx hZ hown w1 w2 w3 eT (g := mkF m pc Ls (.ref a :: rest)) rfl hsz rfl hd hf (W := W) (by show 2 * 0 + _ ≤ _; omega) hl
  exact Go.of st (k T' X' e')
theorem Go.static {own : String} {index : Nat} {y : MethodName} {bytes : ByteArray} {maxL : Nat} {ret : Option FieldType} {rm : Room} {as : Array Value} {Qc : Option Value → Heap → List Loc → Prop} (X : Stand p l e R s m args below meth c T locs cells slots) (hx : p.tables.exec = Jvm.exec) (hZ : Z.Warmed39 s.vm) (hown : s.vm.findClass own = some m.cls)
    (w1 : (Jvm.Cond.methodLink own index y).before a0 Z = true) (w2 : (Jvm.Cond.static y).before a0 Z = true) (w3 : (Jvm.Cond.initialized y.cls).before a0 Z = true) (w4 : (Jvm.Cond.code y bytes maxL ret).before a0 Z = true) (hy : y.cls ≠ "java/lang/invoke/MethodHandle" ∧ y.cls ≠ "java/lang/invoke/VarHandle")
    (M : Met l Z y bytes maxL ret [] rm as h Qc) (eT : T.heap = h) (W : Nat) (hf : rm.frames + 1 ≤ R.frames) (hl : W + (maxL + 11) + rm.locals ≤ R.locals) (hc : cells + rm.cells ≤ R.cells) (hs : slots + rm.slots ≤ R.slots) (hsz : Ls.size = c.maxLocals) {st argsL : List Value} (rest : List Value) (hlen : ∀ sig, parseMethodDescriptor y.desc = some sig → argsL.length = sig.parameters.length)
    (has : argsL.toArray = as) (hst : st = argsL.reverse ++ rest) (hW : (rest.map fun v => v.category).sum ≤ W) (hd : decode c.code pc = .ok (.invokestatic index, 3))
    (k : ∀ v T' L', Stand p l e R s m args below meth c T' (locs ++ L') (cells + rm.cells) (slots + rm.slots) → Qc v T'.heap L' → Go p e below Fin Q T' (mkF m (pc + 3) Ls (v.toList ++ rest))) : Go p e below Fin Q T (mkF m pc Ls st) := by
  obtain ⟨v, _, ⟨T1, L1, k1, n1⟩, -, X1, ⟨Lc, hQ, l1, y1, z1⟩, stp⟩ := Jvm.LawKit.callS X hx (y := y) hown (mvT hZ w1) (mvT hZ w2) (mvT hZ w3) (mvT hZ w4) hy (backOf (W := W) M hZ w4 w3 hf hl) (g := mkF m pc Ls st) rfl hsz (argsL := argsL) (rest := rest) hlen hst (by show 2 * 0 + _ ≤ _; omega) hd (fun _ _ => ⟨has, eT, hc, hs⟩)
  dsimp only [Pt.U, Pt.locs, Pt.cells, Pt.slots] at X1 l1 y1 z1 stp hQ
  subst l1 y1 z1
  exact Go.of stp (k v T1 Lc X1 hQ)
theorem Go.special {own : String} {index : Nat} {y : MethodName} {bytes : ByteArray} {maxL : Nat} {rm : Room} {as : Array Value} {a : Addr} {Qc : Option Value → Heap → List Loc → Prop} (X : Stand p l e R s m args below meth c T locs cells slots) (hx : p.tables.exec = Jvm.exec) (hZ : Z.Warmed39 s.vm) (hown : s.vm.findClass own = some m.cls) (hy1 : y.name = "<init>")
    (w1 : (Jvm.Cond.methodLink own index y).before a0 Z = true) (w2 : (Jvm.Cond.instanceMethod y).before a0 Z = true) (w3 : (Jvm.Cond.initialized y.cls).before a0 Z = true) (w4 : (Jvm.Cond.code y bytes maxL none).before a0 Z = true) (hy : y.cls ≠ "java/lang/invoke/MethodHandle" ∧ y.cls ≠ "java/lang/invoke/VarHandle")
    (M : Met l Z y bytes maxL none [] rm as h Qc) (eT : T.heap = h) (W : Nat) (hf : rm.frames + 1 ≤ R.frames) (hl : W + (maxL + 11) + rm.locals ≤ R.locals) (hc : cells + rm.cells ≤ R.cells) (hs : slots + rm.slots ≤ R.slots) (hsz : Ls.size = c.maxLocals) {st argsL : List Value} (rest : List Value) (hlen : ∀ sig, parseMethodDescriptor y.desc = some sig → argsL.length = sig.parameters.length)
    (has : (.ref a :: argsL : List Value).toArray = as) (hst : st = argsL.reverse ++ .ref a :: rest) (hW : (rest.map fun v => v.category).sum ≤ W) (hd : decode c.code pc = .ok (.invokespecial index, 3))
    (k : ∀ v T' L', Stand p l e R s m args below meth c T' (locs ++ L') (cells + rm.cells) (slots + rm.slots) → Qc v T'.heap L' → Go p e below Fin Q T' (mkF m (pc + 3) Ls (v.toList ++ rest))) : Go p e below Fin Q T (mkF m pc Ls st) := by
  obtain ⟨v, _, ⟨T1, L1, k1, n1⟩, -, X1, ⟨Lc, hQ, l1, y1, z1⟩, stp⟩ := X.specialBack hx (y := y) hy1 hown (mvT hZ w1) (mvT hZ w2) (mvT hZ w4) hy (backOf (W := W) M hZ w4 w3 hf hl) (g := mkF m pc Ls st) rfl hsz (Steps.refl _) (a := a) (argsL := argsL) (rest := rest) hlen hst (by show 2 * 0 + _ ≤ _; omega) hd (fun _ _ => ⟨has, eT, hc, hs⟩)
  dsimp only [Pt.U, Pt.locs, Pt.cells, Pt.slots] at X1 l1 y1 z1 stp hQ
  subst l1 y1 z1
  exact Go.of (fun _ q => stp.trans q) (k v T1 Lc X1 hQ)
theorem Go.virtual {own C : String} {index : Nat} {y z : MethodName} {bytes : ByteArray} {maxL : Nat} {ret : Option FieldType} {rm : Room} {as : Array Value} {a : Addr} {Qc : Option Value → Heap → List Loc → Prop} (X : Stand p l e R s m args below meth c T locs cells slots) (hx : p.tables.exec = Jvm.exec) (hZ : Z.Warmed39 s.vm) (hown : s.vm.findClass own = some m.cls)
    (w1 : (Jvm.Cond.methodLink own index y).before a0 Z = true) (w2 : (Jvm.Cond.declares y).before a0 Z = true) (nf : NotFace s y) (ws : (Jvm.Cond.selects C y z).before a0 Z = true) (wi : (Jvm.Cond.instanceMethod z).before a0 Z = true) (w3 : (Jvm.Cond.initialized z.cls).before a0 Z = true) (w4 : (Jvm.Cond.code z bytes maxL ret).before a0 Z = true) (hy : y.cls ≠ "java/lang/invoke/MethodHandle" ∧ y.cls ≠ "java/lang/invoke/VarHandle")
    (M : Met l Z z bytes maxL ret [] rm as h Qc) (eT : T.heap = h) (E : Exa Z h a C) (W : Nat) (hf : rm.frames + 1 ≤ R.frames) (hl : W + (maxL + 11) + rm.locals ≤ R.locals) (hc : cells + rm.cells ≤ R.cells) (hs : slots + rm.slots ≤ R.slots) (hsz : Ls.size = c.maxLocals) {st argsL : List Value} (rest : List Value) (hlen : ∀ sig, parseMethodDescriptor y.desc = some sig → argsL.length = sig.parameters.length)
    (has : (.ref a :: argsL : List Value).toArray = as) (hst : st = argsL.reverse ++ .ref a :: rest) (hW : (rest.map fun v => v.category).sum ≤ W) (hd : decode c.code pc = .ok (.invokevirtual index, 3))
    (k : ∀ v T' L', Stand p l e R s m args below meth c T' (locs ++ L') (cells + rm.cells) (slots + rm.slots) → Qc v T'.heap L' → Go p e below Fin Q T' (mkF m (pc + 3) Ls (v.toList ++ rest))) : Go p e below Fin Q T (mkF m pc Ls st) := by
  obtain ⟨cq, kq, qa, qb, qc⟩ := isOf hZ eT E
  obtain ⟨v, _, ⟨T1, L1, k1, n1⟩, -, X1, ⟨Lc, hQ, l1, y1, z1⟩, stp⟩ := X.virtualBack hx (y := y) (z := z) hown (mvT hZ w1) (mvT hZ w2) nf (mvT hZ ws) (mvT hZ wi) hy (backOf (W := W) M hZ w4 w3 hf hl) qa qc (g := mkF m pc Ls st) rfl hsz (Steps.refl _) (argsL := argsL) (rest := rest) hlen hst (by show 2 * 0 + _ ≤ _; omega) hd (fun _ _ => ⟨has, eT, hc, hs⟩)
  dsimp only [Pt.U, Pt.locs, Pt.cells, Pt.slots] at X1 l1 y1 z1 stp hQ
  subst l1 y1 z1
  exact Go.of (fun _ q => stp.trans q) (k v T1 Lc X1 hQ)
theorem Go.priv {own C : String} {index : Nat} {y : MethodName} {bytes : ByteArray} {maxL : Nat} {ret : Option FieldType} {rm : Room} {as : Array Value} {a : Addr} {Qc : Option Value → Heap → List Loc → Prop} (X : Stand p l e R s m args below meth c T locs cells slots) (hx : p.tables.exec = Jvm.exec) (hZ : Z.Warmed39 s.vm) (hown : s.vm.findClass own = some m.cls)
    (w1 : (Jvm.Cond.methodLink own index y).before a0 Z = true) (wi : (Jvm.Cond.instanceMethod y).before a0 Z = true) {kk : Nat} (wk : (Jvm.Cond.instantiable y.cls kk).before a0 Z = true) (wp : (Jvm.Cond.privateMethod y).before a0 Z = true) (w3 : (Jvm.Cond.initialized y.cls).before a0 Z = true) (w4 : (Jvm.Cond.code y bytes maxL ret).before a0 Z = true) (hy : y.cls ≠ "java/lang/invoke/MethodHandle" ∧ y.cls ≠ "java/lang/invoke/VarHandle")
    (M : Met l Z y bytes maxL ret [] rm as h Qc) (eT : T.heap = h) (E : Exa Z h a C) (W : Nat) (hf : rm.frames + 1 ≤ R.frames) (hl : W + (maxL + 11) + rm.locals ≤ R.locals) (hc : cells + rm.cells ≤ R.cells) (hs : slots + rm.slots ≤ R.slots) (hsz : Ls.size = c.maxLocals) {st argsL : List Value} (rest : List Value) (hlen : ∀ sig, parseMethodDescriptor y.desc = some sig → argsL.length = sig.parameters.length)
    (has : (.ref a :: argsL : List Value).toArray = as) (hst : st = argsL.reverse ++ .ref a :: rest) (hW : (rest.map fun v => v.category).sum ≤ W) (hd : decode c.code pc = .ok (.invokevirtual index, 3))
    (k : ∀ v T' L', Stand p l e R s m args below meth c T' (locs ++ L') (cells + rm.cells) (slots + rm.slots) → Qc v T'.heap L' → Go p e below Fin Q T' (mkF m (pc + 3) Ls (v.toList ++ rest))) : Go p e below Fin Q T (mkF m pc Ls st) := by
  obtain ⟨cq, qa, qb⟩ := E.cell
  have hp : s.PrivateAt y := Cond.privateMethod_at (mvP hZ wp (args := #[]))
  obtain ⟨ci, ki, i1, i2, -, i4, -⟩ := Cond.instantiable_spec (show (Jvm.Cond.instantiable y.cls kk).before args s = true from mvT hZ wk)
  have hsel : (Jvm.Cond.selects y.cls y y).before args s = true := selects_self_of_private i1 i2 (by revert i4; cases ki.isInterface <;> simp) hp (mvT hZ wi) hy
  obtain ⟨v, _, ⟨T1, L1, k1, n1⟩, -, X1, ⟨Lc, hQ, l1, y1, z1⟩, stp⟩ := X.privateBack hx (y := y) hown (mvT hZ w1) (mvT hZ wi) hsel hp (mvT hZ w4) hy (backOf (W := W) M hZ w4 w3 hf hl) (g := mkF m pc Ls st) rfl hsz (Steps.refl _) (a := a) (by rw [eT]; exact qa) qb (argsL := argsL) (rest := rest) hlen hst (by show 2 * 0 + _ ≤ _; omega) hd (fun _ _ => ⟨has, eT, hc, hs⟩)
  dsimp only [Pt.U, Pt.locs, Pt.cells, Pt.slots] at X1 l1 y1 z1 stp hQ
  subst l1 y1 z1
  exact Go.of (fun _ q => stp.trans q) (k v T1 Lc X1 hQ)
/-- a constructor whose entry is resolved at the start ('methodRef') -/
theorem own_mref {Z s : State} {a0 args : Array Value} {own : String} {index : Nat} {y : MethodName} {mz : MethodId} (hZ : Z.Warmed39 s.vm) (hn : Z.methodNamed? y = some mz) (hy : y.cls ≠ "java/lang/invoke/MethodHandle" ∧ y.cls ≠ "java/lang/invoke/VarHandle") (w : (Jvm.Cond.methodRef own index y).before a0 Z = true) : (Jvm.Cond.methodRef own index y).before args s = true := by
  have q := Cond.methodRef_warmed39 hZ hn hy w
  simp only [Cond.before, Cond.holds, Cond.value] at q ⊢
  exact q
theorem Go.specialRef {own : String} {index : Nat} {y : MethodName} {bytes : ByteArray} {maxL : Nat} {rm : Room} {as : Array Value} {a : Addr} {Qc : Option Value → Heap → List Loc → Prop} (X : Stand p l e R s m args below meth c T locs cells slots) (hx : p.tables.exec = Jvm.exec) (hZ : Z.Warmed39 s.vm) (hown : s.vm.findClass own = some m.cls) (hy1 : y.name = "<init>")
    (w1 : (Jvm.Cond.methodRef own index y).before a0 Z = true) (w2 : (Jvm.Cond.instanceMethod y).before a0 Z = true) (w3 : (Jvm.Cond.initialized y.cls).before a0 Z = true) (w4 : (Jvm.Cond.code y bytes maxL none).before a0 Z = true) (hy : y.cls ≠ "java/lang/invoke/MethodHandle" ∧ y.cls ≠ "java/lang/invoke/VarHandle")
    (M : Met l Z y bytes maxL none [] rm as h Qc) (eT : T.heap = h) (W : Nat) (hf : rm.frames + 1 ≤ R.frames) (hl : W + (maxL + 11) + rm.locals ≤ R.locals) (hc : cells + rm.cells ≤ R.cells) (hs : slots + rm.slots ≤ R.slots) (hsz : Ls.size = c.maxLocals) {st argsL : List Value} (rest : List Value) (hlen : ∀ sig, parseMethodDescriptor y.desc = some sig → argsL.length = sig.parameters.length)
    (has : (.ref a :: argsL : List Value).toArray = as) (hst : st = argsL.reverse ++ .ref a :: rest) (hW : (rest.map fun v => v.category).sum ≤ W) (hd : decode c.code pc = .ok (.invokespecial index, 3))
    (k : ∀ v T' L', Stand p l e R s m args below meth c T' (locs ++ L') (cells + rm.cells) (slots + rm.slots) → Qc v T'.heap L' → Go p e below Fin Q T' (mkF m (pc + 3) Ls (v.toList ++ rest))) : Go p e below Fin Q T (mkF m pc Ls st) := by
  obtain ⟨mz, _, hnz, -⟩ := Cond.instanceMethod_spec w2
  have r1 : (Jvm.Cond.methodRef own index y).before args s = true := own_mref hZ hnz hy w1
  have hinst : (Jvm.Cond.instanceMethod y).before args s = true := mvT hZ w2
  have hcode : (Jvm.Cond.code y bytes maxL none).before args s = true := mvT hZ w4
  obtain ⟨mk, methM, hnamed, hmethM, hstM, habM⟩ := Cond.instanceMethod_spec hinst
  obtain ⟨methM', cM, hmethM', -, -, -, -, -, -, hsigM⟩ := Cond.code_spec hnamed hcode
  cases hmethM.symm.trans hmethM'
  have rT : (Jvm.Cond.methodRef own index y).before args T = true := own_mref X.warmed.wide hnamed hy r1
  have hownT : T.vm.findClass own = some m.cls := by rw [X.warmed.alike.findClass]; exact hown
  have hnT : T.methodNamed? y = some mk := X.named hnamed
  have hmT : T.vm.method? mk = some methM := by rw [X.warmed.alike.method?]; exact hmethM
  obtain ⟨m', c', ci, b, hfm, hready, hfind, hask, hcr⟩ := Cond.methodRef_spec (e := e) hownT rT
  have e1 : m' = mk := Option.some.inj (hfm.symm.trans (State.methodFound?_of_named hnT hy))
  subst e1
  have e2 : c' = m'.cls := Option.some.inj (hfind.symm.trans (findClass_of_methodNamed hnT))
  subst e2
  obtain ⟨kk, hkk, -⟩ := className_of_methodNamed hnT
  obtain ⟨hnm', hdesc'⟩ := name_of_methodNamed hnT hmT
  have hres : Op.namesResolved T.vm m.cls index m'.cls := by
    have q := rT
    simp only [Cond.before, Cond.holds, Cond.value, hownT, hfm] at q
    simp only [beq_iff_eq, Option.some.injEq, Bool.and_eq_true, decide_eq_true_eq] at q
    obtain ⟨cp, hcp, hn⟩ := State.names_spec q.1.1
    obtain ⟨ci2, nt, hentry, hnt, -⟩ := namesOf?_method hn
    obtain ⟨kc, cf, hkc, hcf, rfl⟩ := State.poolOf?_spec hownT hcp
    obtain ⟨b2, hask2⟩ := memberRef_ask' (e := e) hkc hcf hentry hnt
    have e3 : ci2 = ci := by
      have := hask2.symm.trans hask
      simp only [Except.ok.injEq, Prod.mk.injEq] at this
      exact this.1
    subst e3
    exact ⟨kc, cf, ci2, nt, hkc, hcf, hentry, hcr⟩
  have hfound : lookupSpecial T.vm m'.cls "<init>" methM.desc = .method m' := by
    rw [hdesc', ← hy1]; exact lookupSpecial_of_named hnT hmT hstM
  have hstep : ∀ target, (∀ acts, Steps p.tables e below (doInvoke e (T.setTop { mkF m pc Ls st with stack := rest }) acts m' (.ref a :: argsL).toArray).1 target) → Steps p.tables e below (T.setTop (mkF m pc Ls st)) target := by
    intro target hrest
    jvm_step X.here [hx, hd, Op.invokespecial.wp_init (e := e) (s := T) (k := kk) (meth := methM) (m := m') (a := a) (args := argsL) (rest := rest) (f := mkF m pc Ls st) X.here.top hres hready hkk hmT (by rw [hnm']; exact hy1) hstM habM hfound (hlen _ hsigM) hst]
    exact hrest
  have hB := backOf (W := W) (p := p) (e := e) (below := below) (args := args) (len := 3) M hZ w4 w3 hf hl
  obtain ⟨v, ⟨T1, L1, k1, n1⟩, X1, ⟨Lc, hQ, l1, y1, z1⟩, hsteps⟩ := hB m meth c ⟨T, locs, cells, slots⟩ { mkF m pc Ls st with stack := rest } (.invokespecial index) m' (.ref a :: argsL).toArray X rfl hsz hd (by show 2 * 0 + (rest.map fun v => v.category).sum ≤ _; omega) hnT ⟨has, eT, hc, hs⟩
  dsimp only [Pt.U, Pt.locs, Pt.cells, Pt.slots] at X1 l1 y1 z1 hsteps hQ
  subst l1 y1 z1
  refine Go.of (fun t kq => ?_) (k v T1 Lc X1 hQ)
  exact ((hstep _ fun acts => by rw [doInvoke_state]; exact Steps.refl _).trans hsteps).trans kq
/-! conditions -/
theorem cZlt {x y : Int64} (q : x < y) : ifCond.holds .lt (lcmpW x y) = true ∧ ifCond.holds .ge (lcmpW x y) = false := ⟨(if0 _ _).trans (tlt ((lw_lt x y).mpr q)).1, (if0 _ _).trans (tlt ((lw_lt x y).mpr q)).2.1⟩
theorem cFlt {x y : Int64} (q : ¬ x < y) : ifCond.holds .lt (lcmpW x y) = false ∧ ifCond.holds .ge (lcmpW x y) = true := ⟨(if0 _ _).trans (flt (fun r => q ((lw_lt x y).mp r))).1, (if0 _ _).trans (flt (fun r => q ((lw_lt x y).mp r))).2.1⟩
theorem cZgt {x y : Int64} (q : y < x) : ifCond.holds .gt (lcmpW x y) = true ∧ ifCond.holds .le (lcmpW x y) = false := ⟨(if0 _ _).trans (tlt ((lw_gt x y).mpr q)).2.2.1, (if0 _ _).trans (tlt ((lw_gt x y).mpr q)).2.2.2⟩
theorem cFgt {x y : Int64} (q : ¬ y < x) : ifCond.holds .gt (lcmpW x y) = false ∧ ifCond.holds .le (lcmpW x y) = true := ⟨(if0 _ _).trans (flt (fun r => q ((lw_gt x y).mp r))).2.2.1, (if0 _ _).trans (flt (fun r => q ((lw_gt x y).mp r))).2.2.2⟩
theorem cZeq {x y : Int64} (q : x = y) : ifCond.holds .eq (lcmpW x y) = true ∧ ifCond.holds .ne (lcmpW x y) = false := ⟨(if0 _ _).trans (teq ((lw_eq x y).mpr q)).1, (if0 _ _).trans (teq ((lw_eq x y).mpr q)).2⟩
theorem cFeq {x y : Int64} (q : ¬ x = y) : ifCond.holds .eq (lcmpW x y) = false ∧ ifCond.holds .ne (lcmpW x y) = true := ⟨(if0 _ _).trans (feq (fun r => q ((lw_eq x y).mp r))).1, (if0 _ _).trans (feq (fun r => q ((lw_eq x y).mp r))).2⟩
end Kit
theorem own_ni0 {a : Addr}  : a ∉ ([] : List Addr) := by simp [*]
theorem own_all0 {P : Addr → Prop} : ∀ x ∈ ([] : List Addr), P x := by intro x hx; cases hx
theorem own_ni1 {a b0 : Addr} (q0 : a ≠ b0) : a ∉ ([b0] : List Addr) := by simp [*]
theorem own_all1 {P : Addr → Prop} {b0 : Addr} (q0 : P b0) : ∀ x ∈ ([b0] : List Addr), P x := by intro x hx; simp only [List.mem_cons, List.not_mem_nil, or_false] at hx; subst hx; assumption
theorem own_ni2 {a b0 b1 : Addr} (q0 : a ≠ b0) (q1 : a ≠ b1) : a ∉ ([b0, b1] : List Addr) := by simp [*]
theorem own_all2 {P : Addr → Prop} {b0 b1 : Addr} (q0 : P b0) (q1 : P b1) : ∀ x ∈ ([b0, b1] : List Addr), P x := by intro x hx; simp only [List.mem_cons, List.not_mem_nil, or_false] at hx; rcases hx with rfl | rfl <;> assumption
theorem own_ni3 {a b0 b1 b2 : Addr} (q0 : a ≠ b0) (q1 : a ≠ b1) (q2 : a ≠ b2) : a ∉ ([b0, b1, b2] : List Addr) := by simp [*]
theorem own_all3 {P : Addr → Prop} {b0 b1 b2 : Addr} (q0 : P b0) (q1 : P b1) (q2 : P b2) : ∀ x ∈ ([b0, b1, b2] : List Addr), P x := by intro x hx; simp only [List.mem_cons, List.not_mem_nil, or_false] at hx; rcases hx with rfl | rfl | rfl <;> assumption
theorem own_ni4 {a b0 b1 b2 b3 : Addr} (q0 : a ≠ b0) (q1 : a ≠ b1) (q2 : a ≠ b2) (q3 : a ≠ b3) : a ∉ ([b0, b1, b2, b3] : List Addr) := by simp [*]
theorem own_all4 {P : Addr → Prop} {b0 b1 b2 b3 : Addr} (q0 : P b0) (q1 : P b1) (q2 : P b2) (q3 : P b3) : ∀ x ∈ ([b0, b1, b2, b3] : List Addr), P x := by intro x hx; simp only [List.mem_cons, List.not_mem_nil, or_false] at hx; rcases hx with rfl | rfl | rfl | rfl <;> assumption
theorem own_ni5 {a b0 b1 b2 b3 b4 : Addr} (q0 : a ≠ b0) (q1 : a ≠ b1) (q2 : a ≠ b2) (q3 : a ≠ b3) (q4 : a ≠ b4) : a ∉ ([b0, b1, b2, b3, b4] : List Addr) := by simp [*]
theorem own_all5 {P : Addr → Prop} {b0 b1 b2 b3 b4 : Addr} (q0 : P b0) (q1 : P b1) (q2 : P b2) (q3 : P b3) (q4 : P b4) : ∀ x ∈ ([b0, b1, b2, b3, b4] : List Addr), P x := by intro x hx; simp only [List.mem_cons, List.not_mem_nil, or_false] at hx; rcases hx with rfl | rfl | rfl | rfl | rfl <;> assumption
theorem own_ni6 {a b0 b1 b2 b3 b4 b5 : Addr} (q0 : a ≠ b0) (q1 : a ≠ b1) (q2 : a ≠ b2) (q3 : a ≠ b3) (q4 : a ≠ b4) (q5 : a ≠ b5) : a ∉ ([b0, b1, b2, b3, b4, b5] : List Addr) := by simp [*]
theorem own_all6 {P : Addr → Prop} {b0 b1 b2 b3 b4 b5 : Addr} (q0 : P b0) (q1 : P b1) (q2 : P b2) (q3 : P b3) (q4 : P b4) (q5 : P b5) : ∀ x ∈ ([b0, b1, b2, b3, b4, b5] : List Addr), P x := by intro x hx; simp only [List.mem_cons, List.not_mem_nil, or_false] at hx; rcases hx with rfl | rfl | rfl | rfl | rfl | rfl <;> assumption
theorem own_ni7 {a b0 b1 b2 b3 b4 b5 b6 : Addr} (q0 : a ≠ b0) (q1 : a ≠ b1) (q2 : a ≠ b2) (q3 : a ≠ b3) (q4 : a ≠ b4) (q5 : a ≠ b5) (q6 : a ≠ b6) : a ∉ ([b0, b1, b2, b3, b4, b5, b6] : List Addr) := by simp [*]
theorem own_all7 {P : Addr → Prop} {b0 b1 b2 b3 b4 b5 b6 : Addr} (q0 : P b0) (q1 : P b1) (q2 : P b2) (q3 : P b3) (q4 : P b4) (q5 : P b5) (q6 : P b6) : ∀ x ∈ ([b0, b1, b2, b3, b4, b5, b6] : List Addr), P x := by intro x hx; simp only [List.mem_cons, List.not_mem_nil, or_false] at hx; rcases hx with rfl | rfl | rfl | rfl | rfl | rfl | rfl <;> assumption

theorem own_wS {Z : State} {a0 : Array Value} (hw : ∀ d ∈ tables_1, d.before a0 Z = true) : ∀ a ∈ Bundle.stringAtoms, a.before a0 Z = true := by
  intro a ha
  simp only [Bundle.stringAtoms, List.mem_cons, List.not_mem_nil, or_false] at ha
  rcases ha with rfl | rfl | rfl | rfl | rfl | rfl | rfl
  · exact (hw _ (List.mem_of_getElem? (i := 7) rfl))
  · exact (hw _ (List.mem_of_getElem? (i := 8) rfl))
  · exact (hw _ (List.mem_of_getElem? (i := 9) rfl))
  · exact (hw _ (List.mem_of_getElem? (i := 10) rfl))
  · exact (hw _ (List.mem_of_getElem? (i := 11) rfl))
  · exact (hw _ (List.mem_of_getElem? (i := 12) rfl))
  · exact (hw _ (List.mem_of_getElem? (i := 13) rfl))
open Jvm.Kit
theorem own_toInt {i : Nat} (h : i < 2 ^ 31) : (Int32.ofNat i).toInt = i := Int32.toInt_ofNat_small (by omega)
theorem own_succ (i : Nat) : Int32.ofNat i + (1 : Int32) = Int32.ofNat (i + 1) := Int32.ofNat_succ i
theorem own_ltn {i n : Nat} (hi : i < 2 ^ 31) (hn : n < 2 ^ 31) : Int32.ofNat i < Int32.ofNat n ↔ i < n := by
  rw [Int32.lt_iff_toInt_lt, own_toInt hi, own_toInt hn]; omega
theorem own_inb {i n : Nat} (hi : i < n) (hn : n < 2 ^ 31) : Inb (Int32.ofNat i) n := by
  have k0 : (0 : Int32).toInt = 0 := by decide
  simp only [Inb, Int32.lt_iff_toInt_lt, Int32.toNatClampNeg, own_toInt (show i < 2 ^ 31 by omega), k0]
  omega
theorem own_nat {i : Nat} (h : i < 2 ^ 31) : (Int32.ofNat i).toNatClampNeg = i := by
  simp only [Int32.toNatClampNeg, own_toInt h]; omega
theorem own_of {x : Int32} (h : 0 ≤ x.toInt) : ∃ i : Nat, x = Int32.ofNat i ∧ (i : Int) = x.toInt := by
  refine ⟨x.toInt.toNat, Int32.toInt_inj.mp ?_, by omega⟩
  have := x.toInt_lt
  rw [own_toInt (by omega)]; omega
theorem own_rem {x : Int32} {y : Int32} (hy : 0 < y.toInt) : 0 ≤ ((x &&& (2147483647 : Int32)) % y).toInt ∧ ((x &&& (2147483647 : Int32)) % y).toInt < y.toInt := by
  have m0 : (x &&& 2147483647).toInt = x.toInt % 2 ^ 31 := i32_mask _ _ (by decide) (by decide)
  have r := i32_rem_nonneg (x := x &&& 2147483647) (y := y) (by omega)
  have r1 := Int.emod_nonneg (x &&& 2147483647).toInt (show y.toInt ≠ 0 by omega)
  have r2 := Int.emod_lt_of_pos (x &&& 2147483647).toInt hy
  omega
theorem own_inc {x : Int32} (h0 : 0 ≤ x.toInt) (h1 : x.toInt < 100) : (x + (1 : Int32)).toInt = x.toInt + 1 := by
  have k1 : (1 : Int32).toInt = 1 := by decide
  have := i32_add (p := x) (q := 1) (by omega) (by omega)
  omega
theorem own_nz {x : Int32} (h : 0 < x.toInt) : x ≠ 0 := fun q => by rw [q] at h; exact absurd h (by decide)

abbrev own_bl (Tx : Nat → Int32) (n i : Nat) : Prop := i < n ∧ (Tx i = 32 ∨ Tx i = 9)
def own_st (Tx : Nat → Int32) (n i : Nat) : Nat := if own_bl Tx n i then i + 1 else i
def own_it (Tx : Nat → Int32) (n : Nat) : Nat → Nat → Nat
  | 0, i => i
  | k + 1, i => own_it Tx n k (own_st Tx n i)
theorem own_it_fix {Tx : Nat → Int32} {n i : Nat} (h : ¬ own_bl Tx n i) (k : Nat) : own_it Tx n k i = i := by
  induction k with
  | zero => rfl
  | succ k ih => show own_it Tx n k (own_st Tx n i) = i; rw [own_st, if_neg h]; exact ih
theorem own_it_end {Tx : Nat → Int32} {n : Nat} (k i : Nat) (h : n ≤ i + k) : ¬ own_bl Tx n (own_it Tx n k i) := by
  induction k generalizing i with
  | zero => intro q; have := q.1; show False; unfold own_it at this; omega
  | succ k ih =>
    show ¬ own_bl Tx n (own_it Tx n k (own_st Tx n i))
    by_cases b : own_bl Tx n i
    · rw [own_st, if_pos b]; exact ih (i + 1) (by omega)
    · rw [own_st, if_neg b, own_it_fix b]; exact b
theorem own_it_le {Tx : Nat → Int32} {n : Nat} (k i : Nat) (h : i ≤ n) : i ≤ own_it Tx n k i ∧ own_it Tx n k i ≤ n := by
  induction k generalizing i with
  | zero => exact ⟨Nat.le_refl _, h⟩
  | succ k ih =>
    show i ≤ own_it Tx n k (own_st Tx n i) ∧ own_it Tx n k (own_st Tx n i) ≤ n
    by_cases b : own_bl Tx n i
    · rw [own_st, if_pos b]; have := ih (i + 1) b.1; omega
    · rw [own_st, if_neg b]; exact ih i h
theorem own_st_le {Tx : Nat → Int32} {n i : Nat} (h : i ≤ n) : own_st Tx n i ≤ n := by
  unfold own_st; split
  · rename_i b; exact b.1
  · exact h
def own_gt (i j : Nat) : Int32 := if j < i then 1 else 0
def own_bz (Tx : Nat → Int32) (n i : Nat) : Int32 := if own_bl Tx n i then 1 else 0
theorem pd0 : parseMethodDescriptor "(I)I" = some ⟨[.int], some .int⟩ := by decide +kernel
theorem pd1 : parseMethodDescriptor "()V" = some ⟨[], none⟩ := by decide +kernel
theorem pd2 : parseMethodDescriptor "(F)Z" = some ⟨[.float], some .boolean⟩ := by decide +kernel
theorem pd3 : parseMethodDescriptor "(IF)V" = some ⟨[.int, .float], none⟩ := by decide +kernel
theorem pd4 : parseMethodDescriptor "([CIII)V" = some ⟨[(.array .char), .int, .int, .int], none⟩ := by decide +kernel
theorem pd5 : parseMethodDescriptor "(I)V" = some ⟨[.int], none⟩ := by decide +kernel
theorem pd6 : parseMethodDescriptor "(III)V" = some ⟨[.int, .int, .int], none⟩ := by decide +kernel
theorem pd7 : parseMethodDescriptor "([CII)Z" = some ⟨[(.array .char), .int, .int], some .boolean⟩ := by decide +kernel
theorem pd8 : parseMethodDescriptor "()I" = some ⟨[], some .int⟩ := by decide +kernel
theorem pd9 : parseMethodDescriptor "(Ljava/lang/String;[CILcom/example/text_to_shapes/texttoshapes/idl/Names;)V" = some ⟨[(.object "java/lang/String"), (.array .char), .int, (.object "com/example/text_to_shapes/texttoshapes/idl/Names")], none⟩ := by decide +kernel
theorem pd10 : parseMethodDescriptor "(Lcom/example/text_to_shapes/texttoshapes/idl/SourceReader$Mark;)V" = some ⟨[(.object "com/example/text_to_shapes/texttoshapes/idl/SourceReader$Mark")], none⟩ := by decide +kernel
theorem pd11 : parseMethodDescriptor "()Z" = some ⟨[], some .boolean⟩ := by decide +kernel
theorem pd12 : parseMethodDescriptor "()Lcom/example/text_to_shapes/texttoshapes/idl/SourceReader$Mark;" = some ⟨[], some (.object "com/example/text_to_shapes/texttoshapes/idl/SourceReader$Mark")⟩ := by decide +kernel
theorem pd13 : parseMethodDescriptor "([CII)I" = some ⟨[(.array .char), .int, .int], some .int⟩ := by decide +kernel
theorem d8_0 : decode jdk_33_method_47_code 0 = .ok (.iload_n 0, 1) := by decide +kernel
theorem d8_1 : decode jdk_33_method_47_code 1 = .ok (.ifCond .gt 14, 3) := by decide +kernel
theorem d8_15 : decode jdk_33_method_47_code 15 = .ok (.bipush 31, 2) := by decide +kernel
theorem d8_17 : decode jdk_33_method_47_code 17 = .ok (.istore_n 1, 1) := by decide +kernel
theorem d8_18 : decode jdk_33_method_47_code 18 = .ok (.iload_n 0, 1) := by decide +kernel
theorem d8_19 : decode jdk_33_method_47_code 19 = .ok (.ldc_w 264, 3) := by decide +kernel
theorem d8_22 : decode jdk_33_method_47_code 22 = .ok (.if_icmp .lt 11, 3) := by decide +kernel
theorem d8_33 : decode jdk_33_method_47_code 33 = .ok (.iload_n 0, 1) := by decide +kernel
theorem d8_34 : decode jdk_33_method_47_code 34 = .ok (.sipush 256, 3) := by decide +kernel
theorem d8_37 : decode jdk_33_method_47_code 37 = .ok (.if_icmp .lt 11, 3) := by decide +kernel
theorem d8_40 : decode jdk_33_method_47_code 40 = .ok (.iinc 1 (-8), 3) := by decide +kernel
theorem d8_43 : decode jdk_33_method_47_code 43 = .ok (.iload_n 0, 1) := by decide +kernel
theorem d8_44 : decode jdk_33_method_47_code 44 = .ok (.bipush 8, 2) := by decide +kernel
theorem d8_46 : decode jdk_33_method_47_code 46 = .ok (.iushr, 1) := by decide +kernel
theorem d8_47 : decode jdk_33_method_47_code 47 = .ok (.istore_n 0, 1) := by decide +kernel
theorem d8_48 : decode jdk_33_method_47_code 48 = .ok (.iload_n 0, 1) := by decide +kernel
theorem d8_49 : decode jdk_33_method_47_code 49 = .ok (.bipush 16, 2) := by decide +kernel
theorem d8_51 : decode jdk_33_method_47_code 51 = .ok (.if_icmp .lt 10, 3) := by decide +kernel
theorem d8_61 : decode jdk_33_method_47_code 61 = .ok (.iload_n 0, 1) := by decide +kernel
theorem d8_62 : decode jdk_33_method_47_code 62 = .ok (.iconst 4, 1) := by decide +kernel
theorem d8_63 : decode jdk_33_method_47_code 63 = .ok (.if_icmp .lt 10, 3) := by decide +kernel
theorem d8_66 : decode jdk_33_method_47_code 66 = .ok (.iinc 1 (-2), 3) := by decide +kernel
theorem d8_69 : decode jdk_33_method_47_code 69 = .ok (.iload_n 0, 1) := by decide +kernel
theorem d8_70 : decode jdk_33_method_47_code 70 = .ok (.iconst 2, 1) := by decide +kernel
theorem d8_71 : decode jdk_33_method_47_code 71 = .ok (.iushr, 1) := by decide +kernel
theorem d8_72 : decode jdk_33_method_47_code 72 = .ok (.istore_n 0, 1) := by decide +kernel
theorem d8_73 : decode jdk_33_method_47_code 73 = .ok (.iload_n 1, 1) := by decide +kernel
theorem d8_74 : decode jdk_33_method_47_code 74 = .ok (.iload_n 0, 1) := by decide +kernel
theorem d8_75 : decode jdk_33_method_47_code 75 = .ok (.iconst 1, 1) := by decide +kernel
theorem d8_76 : decode jdk_33_method_47_code 76 = .ok (.iushr, 1) := by decide +kernel
theorem d8_77 : decode jdk_33_method_47_code 77 = .ok (.isub, 1) := by decide +kernel
theorem d8_78 : decode jdk_33_method_47_code 78 = .ok (.ireturn, 1) := by decide +kernel
theorem pn8 : plainFor (⟨"java/lang/Integer", "numberOfLeadingZeros", "(I)I"⟩ : MethodName) = true := plainFor_of_name (by first | (simp [plainName, overriddenIn]; done) | decide +kernel)
theorem ef_rmNlz (m : MethodId) (x0 : Int32) : entryFrame m #[(.int x0)] 2 = mkF m 0 #[.val (.int x0), .unset] [] := by first | (simp [entryFrame, mkF, argsToLocals, Value.category]; done) | rfl
set_option maxRecDepth 65536 in
set_option maxHeartbeats 40000000 in
theorem rmNlz {l : Launch} {Z : State} {a0 : Array Value} (hw : ∀ d ∈ tables_1, d.before a0 Z = true)  (h0 : Heap) (n0 : Nat)  :
    Met l Z (⟨"java/lang/Integer", "numberOfLeadingZeros", "(I)I"⟩ : MethodName) jdk_33_method_47_code 2 (some .int) [] ({ frames := 0, cells := 0, slots := 0, locals := 0 } : Room) #[(.int (4095 : Int32))] h0 (fun v h L => v = some (.int (20 : Int32)) ∧ Fr n0 L ∧ h = h0) := by
  refine Met.mk pn8 ?_
  intro p e s m below meth c T hx hby hml hown hnm hret hlk hZ X eT
  refine Go.cast (ef_rmNlz m (4095 : Int32)) ?_
  have N := Fr.nil n0
  show Go p e below _ _ T (mkF m 0 #[.val (.int (4095 : Int32)), .unset] [])
  refine Go.of (fun _ kq => XS.iloadN X.here hx rfl (hb hby d8_0) rfl kq) ?_
  show Go p e below _ _ T (mkF m 1 #[.val (.int (4095 : Int32)), .unset] [(.int (4095 : Int32))])
  refine Go.of (fun _ kq => XS.ifYes X.here hx rfl (pc0 := 1) (pc' := 15) rfl (hb hby d8_1) rfl ((if0 _ _).trans (tlt (by decide)).2.2.1) (by decide) (by decide) kq) ?_
  show Go p e below _ _ T (mkF m 15 #[.val (.int (4095 : Int32)), .unset] [])
  refine Go.of (fun _ kq => XS.bipush X.here hx rfl (hb hby d8_15) kq) ?_
  show Go p e below _ _ T (mkF m 17 #[.val (.int (4095 : Int32)), .unset] [(.int (31 : Int32))])
  refine Go.of (fun _ kq => XS.istoreN X.here hx rfl (hb hby d8_17) rfl (l' := #[.val (.int (4095 : Int32)), .val (.int (31 : Int32))]) rfl kq) ?_
  show Go p e below _ _ T (mkF m 18 #[.val (.int (4095 : Int32)), .val (.int (31 : Int32))] [])
  refine Go.of (fun _ kq => XS.iloadN X.here hx rfl (hb hby d8_18) rfl kq) ?_
  show Go p e below _ _ T (mkF m 19 #[.val (.int (4095 : Int32)), .val (.int (31 : Int32))] [(.int (4095 : Int32))])
  refine Go.of (X.ldcwInt hx hown (mvT hZ (hw _ (List.mem_of_getElem? (i := 55) rfl))) (g := (mkF m 19 #[.val (.int (4095 : Int32)), .val (.int (31 : Int32))] [(.int (4095 : Int32))])) rfl (hb hby d8_19)) ?_
  show Go p e below _ _ T (mkF m 22 #[.val (.int (4095 : Int32)), .val (.int (31 : Int32))] [(.int (65536 : Int32)), (.int (4095 : Int32))])
  refine Go.of (fun _ kq => XS.icmpYes X.here hx rfl (pc0 := 22) (pc' := 33) rfl (hb hby d8_22) rfl (tlt (by decide)).1 (by decide) (by decide) kq) ?_
  show Go p e below _ _ T (mkF m 33 #[.val (.int (4095 : Int32)), .val (.int (31 : Int32))] [])
  refine Go.of (fun _ kq => XS.iloadN X.here hx rfl (hb hby d8_33) rfl kq) ?_
  show Go p e below _ _ T (mkF m 34 #[.val (.int (4095 : Int32)), .val (.int (31 : Int32))] [(.int (4095 : Int32))])
  refine Go.of (fun _ kq => XS.sipush X.here hx rfl (hb hby d8_34) kq) ?_
  show Go p e below _ _ T (mkF m 37 #[.val (.int (4095 : Int32)), .val (.int (31 : Int32))] [(.int (256 : Int32)), (.int (4095 : Int32))])
  refine Go.of (fun _ kq => XS.icmpNo X.here hx rfl (hb hby d8_37) rfl (flt (by decide)).1 kq) ?_
  show Go p e below _ _ T (mkF m 40 #[.val (.int (4095 : Int32)), .val (.int (31 : Int32))] [])
  refine Go.of (fun _ kq => XS.iinc X.here hx rfl (hb hby d8_40) rfl (l' := #[.val (.int (4095 : Int32)), .val (.int (23 : Int32))]) rfl kq) ?_
  show Go p e below _ _ T (mkF m 43 #[.val (.int (4095 : Int32)), .val (.int (23 : Int32))] [])
  refine Go.of (fun _ kq => XS.iloadN X.here hx rfl (hb hby d8_43) rfl kq) ?_
  show Go p e below _ _ T (mkF m 44 #[.val (.int (4095 : Int32)), .val (.int (23 : Int32))] [(.int (4095 : Int32))])
  refine Go.of (fun _ kq => XS.bipush X.here hx rfl (hb hby d8_44) kq) ?_
  show Go p e below _ _ T (mkF m 46 #[.val (.int (4095 : Int32)), .val (.int (23 : Int32))] [(.int (8 : Int32)), (.int (4095 : Int32))])
  refine Go.of (fun _ kq => XS.iushr X.here hx rfl (hb hby d8_46) rfl kq) ?_
  show Go p e below _ _ T (mkF m 47 #[.val (.int (4095 : Int32)), .val (.int (23 : Int32))] [(.int (15 : Int32))])
  refine Go.of (fun _ kq => XS.istoreN X.here hx rfl (hb hby d8_47) rfl (l' := #[.val (.int (15 : Int32)), .val (.int (23 : Int32))]) rfl kq) ?_
  show Go p e below _ _ T (mkF m 48 #[.val (.int (15 : Int32)), .val (.int (23 : Int32))] [])
  refine Go.of (fun _ kq => XS.iloadN X.here hx rfl (hb hby d8_48) rfl kq) ?_
  show Go p e below _ _ T (mkF m 49 #[.val (.int (15 : Int32)), .val (.int (23 : Int32))] [(.int (15 : Int32))])
  refine Go.of (fun _ kq => XS.bipush X.here hx rfl (hb hby d8_49) kq) ?_
  show Go p e below _ _ T (mkF m 51 #[.val (.int (15 : Int32)), .val (.int (23 : Int32))] [(.int (16 : Int32)), (.int (15 : Int32))])
  refine Go.of (fun _ kq => XS.icmpYes X.here hx rfl (pc0 := 51) (pc' := 61) rfl (hb hby d8_51) rfl (tlt (by decide)).1 (by decide) (by decide) kq) ?_
  show Go p e below _ _ T (mkF m 61 #[.val (.int (15 : Int32)), .val (.int (23 : Int32))] [])
  refine Go.of (fun _ kq => XS.iloadN X.here hx rfl (hb hby d8_61) rfl kq) ?_
  show Go p e below _ _ T (mkF m 62 #[.val (.int (15 : Int32)), .val (.int (23 : Int32))] [(.int (15 : Int32))])
  refine Go.of (fun _ kq => XS.iconst X.here hx rfl (hb hby d8_62) kq) ?_
  show Go p e below _ _ T (mkF m 63 #[.val (.int (15 : Int32)), .val (.int (23 : Int32))] [(.int (4 : Int32)), (.int (15 : Int32))])
  refine Go.of (fun _ kq => XS.icmpNo X.here hx rfl (hb hby d8_63) rfl (flt (by decide)).1 kq) ?_
  show Go p e below _ _ T (mkF m 66 #[.val (.int (15 : Int32)), .val (.int (23 : Int32))] [])
  refine Go.of (fun _ kq => XS.iinc X.here hx rfl (hb hby d8_66) rfl (l' := #[.val (.int (15 : Int32)), .val (.int (21 : Int32))]) rfl kq) ?_
  show Go p e below _ _ T (mkF m 69 #[.val (.int (15 : Int32)), .val (.int (21 : Int32))] [])
  refine Go.of (fun _ kq => XS.iloadN X.here hx rfl (hb hby d8_69) rfl kq) ?_
  show Go p e below _ _ T (mkF m 70 #[.val (.int (15 : Int32)), .val (.int (21 : Int32))] [(.int (15 : Int32))])
  refine Go.of (fun _ kq => XS.iconst X.here hx rfl (hb hby d8_70) kq) ?_
  show Go p e below _ _ T (mkF m 71 #[.val (.int (15 : Int32)), .val (.int (21 : Int32))] [(.int (2 : Int32)), (.int (15 : Int32))])
  refine Go.of (fun _ kq => XS.iushr X.here hx rfl (hb hby d8_71) rfl kq) ?_
  show Go p e below _ _ T (mkF m 72 #[.val (.int (15 : Int32)), .val (.int (21 : Int32))] [(.int (3 : Int32))])
  refine Go.of (fun _ kq => XS.istoreN X.here hx rfl (hb hby d8_72) rfl (l' := #[.val (.int (3 : Int32)), .val (.int (21 : Int32))]) rfl kq) ?_
  show Go p e below _ _ T (mkF m 73 #[.val (.int (3 : Int32)), .val (.int (21 : Int32))] [])
  refine Go.of (fun _ kq => XS.iloadN X.here hx rfl (hb hby d8_73) rfl kq) ?_
  show Go p e below _ _ T (mkF m 74 #[.val (.int (3 : Int32)), .val (.int (21 : Int32))] [(.int (21 : Int32))])
  refine Go.of (fun _ kq => XS.iloadN X.here hx rfl (hb hby d8_74) rfl kq) ?_
  show Go p e below _ _ T (mkF m 75 #[.val (.int (3 : Int32)), .val (.int (21 : Int32))] [(.int (3 : Int32)), (.int (21 : Int32))])
  refine Go.of (fun _ kq => XS.iconst X.here hx rfl (hb hby d8_75) kq) ?_
  show Go p e below _ _ T (mkF m 76 #[.val (.int (3 : Int32)), .val (.int (21 : Int32))] [(.int (1 : Int32)), (.int (3 : Int32)), (.int (21 : Int32))])
  refine Go.of (fun _ kq => XS.iushr X.here hx rfl (hb hby d8_76) rfl kq) ?_
  show Go p e below _ _ T (mkF m 77 #[.val (.int (3 : Int32)), .val (.int (21 : Int32))] [(.int (1 : Int32)), (.int (21 : Int32))])
  refine Go.of (fun _ kq => XS.isub X.here hx rfl (hb hby d8_77) rfl kq) ?_
  show Go p e below _ _ T (mkF m 78 #[.val (.int (3 : Int32)), .val (.int (21 : Int32))] [(.int (20 : Int32))])
  refine Go.retI X hx hret hlk (hb hby d8_78) (fun _ _ q _ => own_fin q (by decide) (by decide)) ?_
  try rw [eT]
  exact ⟨rfl, N, rfl⟩
theorem d7_0 : decode jdk_69_method_4_code 0 = .ok (.iconst (-1), 1) := by decide +kernel
theorem d7_1 : decode jdk_69_method_4_code 1 = .ok (.iload_n 0, 1) := by decide +kernel
theorem d7_2 : decode jdk_69_method_4_code 2 = .ok (.iconst 1, 1) := by decide +kernel
theorem d7_3 : decode jdk_69_method_4_code 3 = .ok (.isub, 1) := by decide +kernel
theorem d7_4 : decode jdk_69_method_4_code 4 = .ok (.invokestatic 34, 3) := by decide +kernel
theorem d7_7 : decode jdk_69_method_4_code 7 = .ok (.iushr, 1) := by decide +kernel
theorem d7_8 : decode jdk_69_method_4_code 8 = .ok (.istore_n 1, 1) := by decide +kernel
theorem d7_9 : decode jdk_69_method_4_code 9 = .ok (.iload_n 1, 1) := by decide +kernel
theorem d7_10 : decode jdk_69_method_4_code 10 = .ok (.ifCond .ge 7, 3) := by decide +kernel
theorem d7_17 : decode jdk_69_method_4_code 17 = .ok (.iload_n 1, 1) := by decide +kernel
theorem d7_18 : decode jdk_69_method_4_code 18 = .ok (.ldc 42, 2) := by decide +kernel
theorem d7_20 : decode jdk_69_method_4_code 20 = .ok (.if_icmp .lt 8, 3) := by decide +kernel
theorem d7_28 : decode jdk_69_method_4_code 28 = .ok (.iload_n 1, 1) := by decide +kernel
theorem d7_29 : decode jdk_69_method_4_code 29 = .ok (.iconst 1, 1) := by decide +kernel
theorem d7_30 : decode jdk_69_method_4_code 30 = .ok (.iadd, 1) := by decide +kernel
theorem d7_31 : decode jdk_69_method_4_code 31 = .ok (.ireturn, 1) := by decide +kernel
theorem pn7 : plainFor (⟨"java/util/HashMap", "tableSizeFor", "(I)I"⟩ : MethodName) = true := plainFor_of_name (by first | (simp [plainName, overriddenIn]; done) | decide +kernel)
theorem ef_rmTsf (m : MethodId) (x0 : Int32) : entryFrame m #[(.int x0)] 2 = mkF m 0 #[.val (.int x0), .unset] [] := by first | (simp [entryFrame, mkF, argsToLocals, Value.category]; done) | rfl
set_option maxRecDepth 65536 in
set_option maxHeartbeats 40000000 in
theorem rmTsf {l : Launch} {Z : State} {a0 : Array Value} (hw : ∀ d ∈ tables_1, d.before a0 Z = true)  (h0 : Heap) (n0 : Nat)  :
    Met l Z (⟨"java/util/HashMap", "tableSizeFor", "(I)I"⟩ : MethodName) jdk_69_method_4_code 2 (some .int) [] ({ frames := 1, cells := 0, slots := 0, locals := 14 } : Room) #[(.int (4096 : Int32))] h0 (fun v h L => v = some (.int (4096 : Int32)) ∧ Fr n0 L ∧ h = h0) := by
  refine Met.mk pn7 ?_
  intro p e s m below meth c T hx hby hml hown hnm hret hlk hZ X eT
  refine Go.cast (ef_rmTsf m (4096 : Int32)) ?_
  have N := Fr.nil n0
  show Go p e below _ _ T (mkF m 0 #[.val (.int (4096 : Int32)), .unset] [])
  refine Go.of (fun _ kq => XS.iconst X.here hx rfl (hb hby d7_0) kq) ?_
  show Go p e below _ _ T (mkF m 1 #[.val (.int (4096 : Int32)), .unset] [(.int (-1 : Int32))])
  refine Go.of (fun _ kq => XS.iloadN X.here hx rfl (hb hby d7_1) rfl kq) ?_
  show Go p e below _ _ T (mkF m 2 #[.val (.int (4096 : Int32)), .unset] [(.int (4096 : Int32)), (.int (-1 : Int32))])
  refine Go.of (fun _ kq => XS.iconst X.here hx rfl (hb hby d7_2) kq) ?_
  show Go p e below _ _ T (mkF m 3 #[.val (.int (4096 : Int32)), .unset] [(.int (1 : Int32)), (.int (4096 : Int32)), (.int (-1 : Int32))])
  refine Go.of (fun _ kq => XS.isub X.here hx rfl (hb hby d7_3) rfl kq) ?_
  show Go p e below _ _ T (mkF m 4 #[.val (.int (4096 : Int32)), .unset] [(.int (4095 : Int32)), (.int (-1 : Int32))])
  refine Go.static X hx hZ hown (hw _ (List.mem_of_getElem? (i := 51) rfl)) (hw _ (List.mem_of_getElem? (i := 52) rfl)) (hw _ (List.mem_of_getElem? (i := 53) rfl)) (hw _ (List.mem_of_getElem? (i := 54) rfl)) (by decide) (rmNlz hw _ n0) eT 1 (by decide) (by decide) (by decide) (by decide) (by rw [hml]; rfl) (argsL := [(.int (4095 : Int32))]) [(.int (-1 : Int32))] (lenOf pd0 rfl) rfl rfl (Nat.le_of_eq rfl) (hb hby d7_4) ?_
  intro v T L' X hQ
  obtain ⟨rfl, N', eT⟩ := hQ
  have N := Fr.app N N'
  show Go p e below _ _ T (mkF m 7 #[.val (.int (4096 : Int32)), .unset] [(.int (20 : Int32)), (.int (-1 : Int32))])
  refine Go.of (fun _ kq => XS.iushr X.here hx rfl (hb hby d7_7) rfl kq) ?_
  show Go p e below _ _ T (mkF m 8 #[.val (.int (4096 : Int32)), .unset] [(.int (4095 : Int32))])
  refine Go.of (fun _ kq => XS.istoreN X.here hx rfl (hb hby d7_8) rfl (l' := #[.val (.int (4096 : Int32)), .val (.int (4095 : Int32))]) rfl kq) ?_
  show Go p e below _ _ T (mkF m 9 #[.val (.int (4096 : Int32)), .val (.int (4095 : Int32))] [])
  refine Go.of (fun _ kq => XS.iloadN X.here hx rfl (hb hby d7_9) rfl kq) ?_
  show Go p e below _ _ T (mkF m 10 #[.val (.int (4096 : Int32)), .val (.int (4095 : Int32))] [(.int (4095 : Int32))])
  refine Go.of (fun _ kq => XS.ifYes X.here hx rfl (pc0 := 10) (pc' := 17) rfl (hb hby d7_10) rfl ((if0 _ _).trans (flt (by decide)).2.1) (by decide) (by decide) kq) ?_
  show Go p e below _ _ T (mkF m 17 #[.val (.int (4096 : Int32)), .val (.int (4095 : Int32))] [])
  refine Go.of (fun _ kq => XS.iloadN X.here hx rfl (hb hby d7_17) rfl kq) ?_
  show Go p e below _ _ T (mkF m 18 #[.val (.int (4096 : Int32)), .val (.int (4095 : Int32))] [(.int (4095 : Int32))])
  refine Go.of (X.ldcInt hx hown (mvT hZ (hw _ (List.mem_of_getElem? (i := 41) rfl))) (g := (mkF m 18 #[.val (.int (4096 : Int32)), .val (.int (4095 : Int32))] [(.int (4095 : Int32))])) rfl (hb hby d7_18)) ?_
  show Go p e below _ _ T (mkF m 20 #[.val (.int (4096 : Int32)), .val (.int (4095 : Int32))] [(.int (1073741824 : Int32)), (.int (4095 : Int32))])
  refine Go.of (fun _ kq => XS.icmpYes X.here hx rfl (pc0 := 20) (pc' := 28) rfl (hb hby d7_20) rfl (tlt (by decide)).1 (by decide) (by decide) kq) ?_
  show Go p e below _ _ T (mkF m 28 #[.val (.int (4096 : Int32)), .val (.int (4095 : Int32))] [])
  refine Go.of (fun _ kq => XS.iloadN X.here hx rfl (hb hby d7_28) rfl kq) ?_
  show Go p e below _ _ T (mkF m 29 #[.val (.int (4096 : Int32)), .val (.int (4095 : Int32))] [(.int (4095 : Int32))])
  refine Go.of (fun _ kq => XS.iconst X.here hx rfl (hb hby d7_29) kq) ?_
  show Go p e below _ _ T (mkF m 30 #[.val (.int (4096 : Int32)), .val (.int (4095 : Int32))] [(.int (1 : Int32)), (.int (4095 : Int32))])
  refine Go.of (fun _ kq => XS.iadd X.here hx rfl (hb hby d7_30) rfl kq) ?_
  show Go p e below _ _ T (mkF m 31 #[.val (.int (4096 : Int32)), .val (.int (4095 : Int32))] [(.int (4096 : Int32))])
  refine Go.retI X hx hret hlk (hb hby d7_31) (fun _ _ q _ => own_fin q (by decide) (by decide)) ?_
  try rw [eT]
  exact ⟨rfl, N, rfl⟩
theorem d6_0 : decode jdk_118_method_6_code 0 = .ok (.fload_n 0, 1) := by decide +kernel
theorem d6_1 : decode jdk_118_method_6_code 1 = .ok (.fload_n 0, 1) := by decide +kernel
theorem d6_2 : decode jdk_118_method_6_code 2 = .ok (.fcmp .l, 1) := by decide +kernel
theorem d6_3 : decode jdk_118_method_6_code 3 = .ok (.ifCond .eq 7, 3) := by decide +kernel
theorem d6_10 : decode jdk_118_method_6_code 10 = .ok (.iconst 0, 1) := by decide +kernel
theorem d6_11 : decode jdk_118_method_6_code 11 = .ok (.ireturn, 1) := by decide +kernel
theorem pn6 : plainFor (⟨"java/lang/Float", "isNaN", "(F)Z"⟩ : MethodName) = true := by decide +kernel
theorem ef_rmNaN (m : MethodId) (x0 : UInt32) : entryFrame m #[(.float x0)] 1 = mkF m 0 #[.val (.float x0)] [] := by first | (simp [entryFrame, mkF, argsToLocals, Value.category]; done) | rfl
set_option maxRecDepth 65536 in
set_option maxHeartbeats 40000000 in
theorem rmNaN {l : Launch} {Z : State} {a0 : Array Value} (hw : ∀ d ∈ tables_1, d.before a0 Z = true)  (h0 : Heap) (n0 : Nat)  :
    Met l Z (⟨"java/lang/Float", "isNaN", "(F)Z"⟩ : MethodName) jdk_118_method_6_code 1 (some .boolean) [] ({ frames := 0, cells := 0, slots := 0, locals := 0 } : Room) #[(.float (1061158912 : UInt32))] h0 (fun v h L => v = some (.int (0 : Int32)) ∧ Fr n0 L ∧ h = h0) := by
  refine Met.mk pn6 ?_
  intro p e s m below meth c T hx hby hml hown hnm hret hlk hZ X eT
  refine Go.cast (ef_rmNaN m (1061158912 : UInt32)) ?_
  have N := Fr.nil n0
  show Go p e below _ _ T (mkF m 0 #[.val (.float (1061158912 : UInt32))] [])
  refine Go.of (fun _ kq => XS.floadN X.here hx rfl (hb hby d6_0) rfl kq) ?_
  show Go p e below _ _ T (mkF m 1 #[.val (.float (1061158912 : UInt32))] [(.float (1061158912 : UInt32))])
  refine Go.of (fun _ kq => XS.floadN X.here hx rfl (hb hby d6_1) rfl kq) ?_
  show Go p e below _ _ T (mkF m 2 #[.val (.float (1061158912 : UInt32))] [(.float (1061158912 : UInt32)), (.float (1061158912 : UInt32))])
  refine Go.of (fun _ kq => XS.fcmpS X.here hx rfl (v := (0 : Int32)) (hb hby d6_2) rfl (by decide +kernel) kq) ?_
  show Go p e below _ _ T (mkF m 3 #[.val (.float (1061158912 : UInt32))] [(.int (0 : Int32))])
  refine Go.of (fun _ kq => XS.ifYes X.here hx rfl (pc0 := 3) (pc' := 10) rfl (hb hby d6_3) rfl ((if0 _ _).trans (teq (by decide)).1) (by decide) (by decide) kq) ?_
  show Go p e below _ _ T (mkF m 10 #[.val (.float (1061158912 : UInt32))] [])
  refine Go.of (fun _ kq => XS.iconst X.here hx rfl (hb hby d6_10) kq) ?_
  show Go p e below _ _ T (mkF m 11 #[.val (.float (1061158912 : UInt32))] [(.int (0 : Int32))])
  refine Go.retN X hx hret (by simp) hlk (hb hby d6_11) (fun _ _ q _ => own_fin q (by decide) (by decide)) ?_
  try rw [eT]
  exact ⟨rfl, N, rfl⟩
theorem d5_0 : decode jdk_71_method_1_code 0 = .ok (.aload_n 0, 1) := by decide +kernel
theorem d5_1 : decode jdk_71_method_1_code 1 = .ok (.invokespecial 1, 3) := by decide +kernel
theorem d5_4 : decode jdk_71_method_1_code 4 = .ok (.return_, 1) := by decide +kernel
theorem pn5 : plainFor (⟨"java/util/AbstractMap", "<init>", "()V"⟩ : MethodName) = true := plainFor_of_name (by first | (simp [plainName, overriddenIn]; done) | decide +kernel)
theorem ef_rmAM (m : MethodId) (x0 : Addr) : entryFrame m #[(.ref x0)] 1 = mkF m 0 #[.val (.ref x0)] [] := by first | (simp [entryFrame, mkF, argsToLocals, Value.category]; done) | rfl
set_option maxRecDepth 65536 in
set_option maxHeartbeats 40000000 in
theorem rmAM {l : Launch} {Z : State} {a0 : Array Value} (hw : ∀ d ∈ tables_1, d.before a0 Z = true) (a : Addr) (h0 : Heap) (n0 : Nat)  :
    Met l Z (⟨"java/util/AbstractMap", "<init>", "()V"⟩ : MethodName) jdk_71_method_1_code 1 none [] ({ frames := 1, cells := 0, slots := 0, locals := 12 } : Room) #[(.ref a)] h0 (fun v h L => v = none ∧ Fr n0 L ∧ h = h0) := by
  refine Met.mk pn5 ?_
  intro p e s m below meth c T hx hby hml hown hnm hret hlk hZ X eT
  refine Go.cast (ef_rmAM m a) ?_
  have N := Fr.nil n0
  show Go p e below _ _ T (mkF m 0 #[.val (.ref a)] [])
  refine Go.of (fun _ kq => XS.aloadN X.here hx rfl (hb hby d5_0) rfl rfl kq) ?_
  show Go p e below _ _ T (mkF m 1 #[.val (.ref a)] [(.ref a)])
  refine Go.initO X hx hZ hown (hw _ (List.mem_of_getElem? (i := 40) rfl)) (hw _ (List.mem_of_getElem? (i := 21) rfl)) (hw _ (List.mem_of_getElem? (i := 22) rfl)) eT (by rw [hml]; rfl) (hb hby d5_1) (by decide) 0 (Nat.le_of_eq rfl) (by decide) ?_
  intro T X eT
  show Go p e below _ _ T (mkF m 4 #[.val (.ref a)] [])
  refine Go.retV X hx hret hlk (hb hby d5_4) (fun _ _ q _ => own_fin q (by decide) (by decide)) ?_
  try rw [eT]
  exact ⟨rfl, N, rfl⟩
theorem d13_0 : decode jdk_30_method_1_code 0 = .ok (.aload_n 0, 1) := by decide +kernel
theorem d13_1 : decode jdk_30_method_1_code 1 = .ok (.invokespecial 1, 3) := by decide +kernel
theorem d13_4 : decode jdk_30_method_1_code 4 = .ok (.return_, 1) := by decide +kernel
theorem pn13 : plainFor (⟨"java/lang/Record", "<init>", "()V"⟩ : MethodName) = true := plainFor_of_name (by first | (simp [plainName, overriddenIn]; done) | decide +kernel)
theorem ef_rmRec (m : MethodId) (x0 : Addr) : entryFrame m #[(.ref x0)] 1 = mkF m 0 #[.val (.ref x0)] [] := by first | (simp [entryFrame, mkF, argsToLocals, Value.category]; done) | rfl
set_option maxRecDepth 65536 in
set_option maxHeartbeats 40000000 in
theorem rmRec {l : Launch} {Z : State} {a0 : Array Value} (hw : ∀ d ∈ tables_1, d.before a0 Z = true) (a : Addr) (h0 : Heap) (n0 : Nat)  :
    Met l Z (⟨"java/lang/Record", "<init>", "()V"⟩ : MethodName) jdk_30_method_1_code 1 none [] ({ frames := 1, cells := 0, slots := 0, locals := 12 } : Room) #[(.ref a)] h0 (fun v h L => v = none ∧ Fr n0 L ∧ h = h0) := by
  refine Met.mk pn13 ?_
  intro p e s m below meth c T hx hby hml hown hnm hret hlk hZ X eT
  refine Go.cast (ef_rmRec m a) ?_
  have N := Fr.nil n0
  show Go p e below _ _ T (mkF m 0 #[.val (.ref a)] [])
  refine Go.of (fun _ kq => XS.aloadN X.here hx rfl (hb hby d13_0) rfl rfl kq) ?_
  show Go p e below _ _ T (mkF m 1 #[.val (.ref a)] [(.ref a)])
  refine Go.initO X hx hZ hown (hw _ (List.mem_of_getElem? (i := 111) rfl)) (hw _ (List.mem_of_getElem? (i := 21) rfl)) (hw _ (List.mem_of_getElem? (i := 22) rfl)) eT (by rw [hml]; rfl) (hb hby d13_1) (by decide) 0 (Nat.le_of_eq rfl) (by decide) ?_
  intro T X eT
  show Go p e below _ _ T (mkF m 4 #[.val (.ref a)] [])
  refine Go.retV X hx hret hlk (hb hby d13_4) (fun _ _ q _ => own_fin q (by decide) (by decide)) ?_
  try rw [eT]
  exact ⟨rfl, N, rfl⟩
theorem d4_0 : decode jdk_69_method_5_code 0 = .ok (.aload_n 0, 1) := by decide +kernel
theorem d4_1 : decode jdk_69_method_5_code 1 = .ok (.invokespecial 43, 3) := by decide +kernel
theorem d4_4 : decode jdk_69_method_5_code 4 = .ok (.iload_n 1, 1) := by decide +kernel
theorem d4_5 : decode jdk_69_method_5_code 5 = .ok (.ifCond .ge 30, 3) := by decide +kernel
theorem d4_35 : decode jdk_69_method_5_code 35 = .ok (.iload_n 1, 1) := by decide +kernel
theorem d4_36 : decode jdk_69_method_5_code 36 = .ok (.ldc 42, 2) := by decide +kernel
theorem d4_38 : decode jdk_69_method_5_code 38 = .ok (.if_icmp .le 6, 3) := by decide +kernel
theorem d4_44 : decode jdk_69_method_5_code 44 = .ok (.fload_n 2, 1) := by decide +kernel
theorem d4_45 : decode jdk_69_method_5_code 45 = .ok (.fconst 0, 1) := by decide +kernel
theorem d4_46 : decode jdk_69_method_5_code 46 = .ok (.fcmp .g, 1) := by decide +kernel
theorem d4_47 : decode jdk_69_method_5_code 47 = .ok (.ifCond .le 10, 3) := by decide +kernel
theorem d4_50 : decode jdk_69_method_5_code 50 = .ok (.fload_n 2, 1) := by decide +kernel
theorem d4_51 : decode jdk_69_method_5_code 51 = .ok (.invokestatic 70, 3) := by decide +kernel
theorem d4_54 : decode jdk_69_method_5_code 54 = .ok (.ifCond .eq 30, 3) := by decide +kernel
theorem d4_84 : decode jdk_69_method_5_code 84 = .ok (.aload_n 0, 1) := by decide +kernel
theorem d4_85 : decode jdk_69_method_5_code 85 = .ok (.fload_n 2, 1) := by decide +kernel
theorem d4_86 : decode jdk_69_method_5_code 86 = .ok (.putfield 81, 3) := by decide +kernel
theorem d4_89 : decode jdk_69_method_5_code 89 = .ok (.aload_n 0, 1) := by decide +kernel
theorem d4_90 : decode jdk_69_method_5_code 90 = .ok (.iload_n 1, 1) := by decide +kernel
theorem d4_91 : decode jdk_69_method_5_code 91 = .ok (.invokestatic 85, 3) := by decide +kernel
theorem d4_94 : decode jdk_69_method_5_code 94 = .ok (.putfield 88, 3) := by decide +kernel
theorem d4_97 : decode jdk_69_method_5_code 97 = .ok (.return_, 1) := by decide +kernel
theorem pn4 : plainFor (⟨"java/util/HashMap", "<init>", "(IF)V"⟩ : MethodName) = true := plainFor_of_name (by first | (simp [plainName, overriddenIn]; done) | decide +kernel)
theorem ef_rmHM2 (m : MethodId) (x0 : Addr) (x1 : Int32) (x2 : UInt32) : entryFrame m #[(.ref x0), (.int x1), (.float x2)] 3 = mkF m 0 #[.val (.ref x0), .val (.int x1), .val (.float x2)] [] := by first | (simp [entryFrame, mkF, argsToLocals, Value.category]; done) | rfl
set_option maxRecDepth 65536 in
set_option maxHeartbeats 40000000 in
theorem rmHM2 {l : Launch} {Z : State} {a0 : Array Value} (hw : ∀ d ∈ tables_1, d.before a0 Z = true) (a : Addr) (h0 : Heap) (n0 : Nat) (Z0 : n0 ≤ h0.size) (g_a : n0 ≤ a) (E_a : Exa Z h0 a "java/util/HashMap") (F_loadFactor_a : Fld Z h0 a "java/util/HashMap" "loadFactor" "F" (.float 0)) (F_threshold_a : Fld Z h0 a "java/util/HashMap" "threshold" "I" (.int (0 : Int32))) :
    Met l Z (⟨"java/util/HashMap", "<init>", "(IF)V"⟩ : MethodName) jdk_69_method_5_code 3 none [] ({ frames := 2, cells := 0, slots := 0, locals := 28 } : Room) #[(.ref a), (.int (4096 : Int32)), (.float (1061158912 : UInt32))] h0 (fun v h L => v = none ∧ Fr n0 L ∧ Keep h0 h [a]) := by
  refine Met.mk pn4 ?_
  intro p e s m below meth c T hx hby hml hown hnm hret hlk hZ X eT
  refine Go.cast (ef_rmHM2 m a (4096 : Int32) (1061158912 : UInt32)) ?_
  have N := Fr.nil n0
  have K := Keep.refl h0 [a]
  show Go p e below _ _ T (mkF m 0 #[.val (.ref a), .val (.int (4096 : Int32)), .val (.float (1061158912 : UInt32))] [])
  refine Go.of (fun _ kq => XS.aloadN X.here hx rfl (hb hby d4_0) rfl rfl kq) ?_
  show Go p e below _ _ T (mkF m 1 #[.val (.ref a), .val (.int (4096 : Int32)), .val (.float (1061158912 : UInt32))] [(.ref a)])
  refine Go.special (a := a) X hx hZ hown rfl (hw _ (List.mem_of_getElem? (i := 34) rfl)) (hw _ (List.mem_of_getElem? (i := 35) rfl)) (hw _ (List.mem_of_getElem? (i := 38) rfl)) (hw _ (List.mem_of_getElem? (i := 39) rfl)) (by decide) (rmAM hw a _ n0) eT 0 (by decide) (by decide) (by decide) (by decide) (by rw [hml]; rfl) (argsL := []) [] (lenOf pd1 rfl) rfl rfl (Nat.le_of_eq rfl) (hb hby d4_1) ?_
  intro v T L' X hQ
  obtain ⟨rfl, N', eT⟩ := hQ
  have N := Fr.app N N'
  show Go p e below _ _ T (mkF m 4 #[.val (.ref a), .val (.int (4096 : Int32)), .val (.float (1061158912 : UInt32))] [])
  refine Go.of (fun _ kq => XS.iloadN X.here hx rfl (hb hby d4_4) rfl kq) ?_
  show Go p e below _ _ T (mkF m 5 #[.val (.ref a), .val (.int (4096 : Int32)), .val (.float (1061158912 : UInt32))] [(.int (4096 : Int32))])
  refine Go.of (fun _ kq => XS.ifYes X.here hx rfl (pc0 := 5) (pc' := 35) rfl (hb hby d4_5) rfl ((if0 _ _).trans (flt (by decide)).2.1) (by decide) (by decide) kq) ?_
  show Go p e below _ _ T (mkF m 35 #[.val (.ref a), .val (.int (4096 : Int32)), .val (.float (1061158912 : UInt32))] [])
  refine Go.of (fun _ kq => XS.iloadN X.here hx rfl (hb hby d4_35) rfl kq) ?_
  show Go p e below _ _ T (mkF m 36 #[.val (.ref a), .val (.int (4096 : Int32)), .val (.float (1061158912 : UInt32))] [(.int (4096 : Int32))])
  refine Go.of (X.ldcInt hx hown (mvT hZ (hw _ (List.mem_of_getElem? (i := 41) rfl))) (g := (mkF m 36 #[.val (.ref a), .val (.int (4096 : Int32)), .val (.float (1061158912 : UInt32))] [(.int (4096 : Int32))])) rfl (hb hby d4_36)) ?_
  show Go p e below _ _ T (mkF m 38 #[.val (.ref a), .val (.int (4096 : Int32)), .val (.float (1061158912 : UInt32))] [(.int (1073741824 : Int32)), (.int (4096 : Int32))])
  refine Go.of (fun _ kq => XS.icmpYes X.here hx rfl (pc0 := 38) (pc' := 44) rfl (hb hby d4_38) rfl (flt (by decide)).2.2.2 (by decide) (by decide) kq) ?_
  show Go p e below _ _ T (mkF m 44 #[.val (.ref a), .val (.int (4096 : Int32)), .val (.float (1061158912 : UInt32))] [])
  refine Go.of (fun _ kq => XS.floadN X.here hx rfl (hb hby d4_44) rfl kq) ?_
  show Go p e below _ _ T (mkF m 45 #[.val (.ref a), .val (.int (4096 : Int32)), .val (.float (1061158912 : UInt32))] [(.float (1061158912 : UInt32))])
  refine Go.of (fun _ kq => XS.fconst0 X.here hx rfl (v := 0) (hb hby d4_45) rfl kq) ?_
  show Go p e below _ _ T (mkF m 46 #[.val (.ref a), .val (.int (4096 : Int32)), .val (.float (1061158912 : UInt32))] [(.float (0 : UInt32)), (.float (1061158912 : UInt32))])
  refine Go.of (fun _ kq => XS.fcmpS X.here hx rfl (v := (1 : Int32)) (hb hby d4_46) rfl (by decide +kernel) kq) ?_
  show Go p e below _ _ T (mkF m 47 #[.val (.ref a), .val (.int (4096 : Int32)), .val (.float (1061158912 : UInt32))] [(.int (1 : Int32))])
  refine Go.of (fun _ kq => XS.ifNo X.here hx rfl (hb hby d4_47) rfl ((if0 _ _).trans (tlt (by decide)).2.2.2) kq) ?_
  show Go p e below _ _ T (mkF m 50 #[.val (.ref a), .val (.int (4096 : Int32)), .val (.float (1061158912 : UInt32))] [])
  refine Go.of (fun _ kq => XS.floadN X.here hx rfl (hb hby d4_50) rfl kq) ?_
  show Go p e below _ _ T (mkF m 51 #[.val (.ref a), .val (.int (4096 : Int32)), .val (.float (1061158912 : UInt32))] [(.float (1061158912 : UInt32))])
  refine Go.static X hx hZ hown (hw _ (List.mem_of_getElem? (i := 42) rfl)) (hw _ (List.mem_of_getElem? (i := 43) rfl)) (hw _ (List.mem_of_getElem? (i := 44) rfl)) (hw _ (List.mem_of_getElem? (i := 45) rfl)) (by decide) (rmNaN hw _ n0) eT 0 (by decide) (by decide) (by decide) (by decide) (by rw [hml]; rfl) (argsL := [(.float (1061158912 : UInt32))]) [] (lenOf pd2 rfl) rfl rfl (Nat.le_of_eq rfl) (hb hby d4_51) ?_
  intro v T L' X hQ
  obtain ⟨rfl, N', eT⟩ := hQ
  have N := Fr.app N N'
  show Go p e below _ _ T (mkF m 54 #[.val (.ref a), .val (.int (4096 : Int32)), .val (.float (1061158912 : UInt32))] [(.int (0 : Int32))])
  refine Go.of (fun _ kq => XS.ifYes X.here hx rfl (pc0 := 54) (pc' := 84) rfl (hb hby d4_54) rfl ((if0 _ _).trans (teq (by decide)).1) (by decide) (by decide) kq) ?_
  show Go p e below _ _ T (mkF m 84 #[.val (.ref a), .val (.int (4096 : Int32)), .val (.float (1061158912 : UInt32))] [])
  refine Go.of (fun _ kq => XS.aloadN X.here hx rfl (hb hby d4_84) rfl rfl kq) ?_
  show Go p e below _ _ T (mkF m 85 #[.val (.ref a), .val (.int (4096 : Int32)), .val (.float (1061158912 : UInt32))] [(.ref a)])
  refine Go.of (fun _ kq => XS.floadN X.here hx rfl (hb hby d4_85) rfl kq) ?_
  show Go p e below _ _ T (mkF m 86 #[.val (.ref a), .val (.int (4096 : Int32)), .val (.float (1061158912 : UInt32))] [(.float (1061158912 : UInt32)), (.ref a)])
  refine Go.putF X hx hZ hown (hw _ (List.mem_of_getElem? (i := 46) rfl)) Via.refl eT F_loadFactor_a E_a (Or.inr ⟨(hw _ (List.mem_of_getElem? (i := 47) rfl)), rfl, hnm⟩) (hw _ (List.mem_of_getElem? (i := 24) rfl)) (ty := .float) (by decide) rfl rfl (hb hby d4_86) ?_
  intro T h X eT wr
  have N := Fr.snoc X N g_a
  have K := K.wr wr (Or.inl (List.mem_of_getElem? (i := 0) rfl))
  have E_a := E_a.wr wr
  have F_loadFactor_a := F_loadFactor_a.same wr
  have F_threshold_a := F_threshold_a.other wr (Or.inr (slot_ne (Or.inl (hw _ (List.mem_of_getElem? (i := 57) rfl))) (Or.inr (hw _ (List.mem_of_getElem? (i := 47) rfl))) (by decide) (t := .int) (t' := .float) (by decide) (by decide)))
  show Go p e below _ _ T (mkF m 89 #[.val (.ref a), .val (.int (4096 : Int32)), .val (.float (1061158912 : UInt32))] [])
  refine Go.of (fun _ kq => XS.aloadN X.here hx rfl (hb hby d4_89) rfl rfl kq) ?_
  show Go p e below _ _ T (mkF m 90 #[.val (.ref a), .val (.int (4096 : Int32)), .val (.float (1061158912 : UInt32))] [(.ref a)])
  refine Go.of (fun _ kq => XS.iloadN X.here hx rfl (hb hby d4_90) rfl kq) ?_
  show Go p e below _ _ T (mkF m 91 #[.val (.ref a), .val (.int (4096 : Int32)), .val (.float (1061158912 : UInt32))] [(.int (4096 : Int32)), (.ref a)])
  refine Go.static X hx hZ hown (hw _ (List.mem_of_getElem? (i := 48) rfl)) (hw _ (List.mem_of_getElem? (i := 49) rfl)) (hw _ (List.mem_of_getElem? (i := 25) rfl)) (hw _ (List.mem_of_getElem? (i := 50) rfl)) (by decide) (rmTsf hw _ n0) eT 1 (by decide) (by decide) (by decide) (by decide) (by rw [hml]; rfl) (argsL := [(.int (4096 : Int32))]) [(.ref a)] (lenOf pd0 rfl) rfl rfl (Nat.le_of_eq rfl) (hb hby d4_91) ?_
  intro v T L' X hQ
  obtain ⟨rfl, N', eT⟩ := hQ
  have N := Fr.app N N'
  show Go p e below _ _ T (mkF m 94 #[.val (.ref a), .val (.int (4096 : Int32)), .val (.float (1061158912 : UInt32))] [(.int (4096 : Int32)), (.ref a)])
  refine Go.putF X hx hZ hown (hw _ (List.mem_of_getElem? (i := 56) rfl)) Via.refl eT F_threshold_a E_a (Or.inl (hw _ (List.mem_of_getElem? (i := 57) rfl))) (hw _ (List.mem_of_getElem? (i := 24) rfl)) (ty := .int) (by decide) rfl rfl (hb hby d4_94) ?_
  intro T h X eT wr
  have N := Fr.snoc X N g_a
  have K := K.wr wr (Or.inl (List.mem_of_getElem? (i := 0) rfl))
  have E_a := E_a.wr wr
  have F_loadFactor_a := F_loadFactor_a.other wr (Or.inr (slot_ne (Or.inr (hw _ (List.mem_of_getElem? (i := 47) rfl))) (Or.inl (hw _ (List.mem_of_getElem? (i := 57) rfl))) (by decide) (t := .float) (t' := .int) (by decide) (by decide)))
  have F_threshold_a := F_threshold_a.same wr
  show Go p e below _ _ T (mkF m 97 #[.val (.ref a), .val (.int (4096 : Int32)), .val (.float (1061158912 : UInt32))] [])
  refine Go.retV X hx hret hlk (hb hby d4_97) (fun _ _ q _ => own_fin q (by decide) (by decide)) ?_
  try rw [eT]
  exact ⟨rfl, N, K⟩
theorem d3_0 : decode jdk_69_method_6_code 0 = .ok (.aload_n 0, 1) := by decide +kernel
theorem d3_1 : decode jdk_69_method_6_code 1 = .ok (.iload_n 1, 1) := by decide +kernel
theorem d3_2 : decode jdk_69_method_6_code 2 = .ok (.ldc 92, 2) := by decide +kernel
theorem d3_4 : decode jdk_69_method_6_code 4 = .ok (.invokespecial 93, 3) := by decide +kernel
theorem d3_7 : decode jdk_69_method_6_code 7 = .ok (.return_, 1) := by decide +kernel
theorem pn3 : plainFor (⟨"java/util/HashMap", "<init>", "(I)V"⟩ : MethodName) = true := plainFor_of_name (by first | (simp [plainName, overriddenIn]; done) | decide +kernel)
theorem ef_rmHM (m : MethodId) (x0 : Addr) (x1 : Int32) : entryFrame m #[(.ref x0), (.int x1)] 2 = mkF m 0 #[.val (.ref x0), .val (.int x1)] [] := by first | (simp [entryFrame, mkF, argsToLocals, Value.category]; done) | rfl
set_option maxRecDepth 65536 in
set_option maxHeartbeats 40000000 in
theorem rmHM {l : Launch} {Z : State} {a0 : Array Value} (hw : ∀ d ∈ tables_1, d.before a0 Z = true) (a : Addr) (h0 : Heap) (n0 : Nat) (Z0 : n0 ≤ h0.size) (g_a : n0 ≤ a) (E_a : Exa Z h0 a "java/util/HashMap") (F_loadFactor_a : Fld Z h0 a "java/util/HashMap" "loadFactor" "F" (.float 0)) (F_threshold_a : Fld Z h0 a "java/util/HashMap" "threshold" "I" (.int (0 : Int32))) :
    Met l Z (⟨"java/util/HashMap", "<init>", "(I)V"⟩ : MethodName) jdk_69_method_6_code 2 none [] ({ frames := 3, cells := 0, slots := 0, locals := 42 } : Room) #[(.ref a), (.int (4096 : Int32))] h0 (fun v h L => v = none ∧ Fr n0 L ∧ Keep h0 h [a]) := by
  refine Met.mk pn3 ?_
  intro p e s m below meth c T hx hby hml hown hnm hret hlk hZ X eT
  refine Go.cast (ef_rmHM m a (4096 : Int32)) ?_
  have N := Fr.nil n0
  have K := Keep.refl h0 [a]
  show Go p e below _ _ T (mkF m 0 #[.val (.ref a), .val (.int (4096 : Int32))] [])
  refine Go.of (fun _ kq => XS.aloadN X.here hx rfl (hb hby d3_0) rfl rfl kq) ?_
  show Go p e below _ _ T (mkF m 1 #[.val (.ref a), .val (.int (4096 : Int32))] [(.ref a)])
  refine Go.of (fun _ kq => XS.iloadN X.here hx rfl (hb hby d3_1) rfl kq) ?_
  show Go p e below _ _ T (mkF m 2 #[.val (.ref a), .val (.int (4096 : Int32))] [(.int (4096 : Int32)), (.ref a)])
  refine Go.of (X.ldcFloatC hx hown (mvT hZ (hw _ (List.mem_of_getElem? (i := 29) rfl))) (g := (mkF m 2 #[.val (.ref a), .val (.int (4096 : Int32))] [(.int (4096 : Int32)), (.ref a)])) rfl (hb hby d3_2)) ?_
  show Go p e below _ _ T (mkF m 4 #[.val (.ref a), .val (.int (4096 : Int32))] [(.float (1061158912 : UInt32)), (.int (4096 : Int32)), (.ref a)])
  refine Go.special (a := a) X hx hZ hown rfl (hw _ (List.mem_of_getElem? (i := 30) rfl)) (hw _ (List.mem_of_getElem? (i := 31) rfl)) (hw _ (List.mem_of_getElem? (i := 25) rfl)) (hw _ (List.mem_of_getElem? (i := 33) rfl)) (by decide) (rmHM2 hw a _ n0 Z0 g_a E_a F_loadFactor_a F_threshold_a) eT 0 (by decide) (by decide) (by decide) (by decide) (by rw [hml]; rfl) (argsL := [(.int (4096 : Int32)), (.float (1061158912 : UInt32))]) [] (lenOf pd3 rfl) rfl rfl (Nat.le_of_eq rfl) (hb hby d3_4) ?_
  intro v T L' X hQ
  obtain ⟨h, eT⟩ : ∃ z, T.heap = z := ⟨_, rfl⟩
  rw [eT] at hQ
  obtain ⟨rfl, N', K'⟩ := hQ
  have N := Fr.app N N'
  have K := K.trans K' (own_all1 (Or.inl (List.mem_of_getElem? (i := 0) rfl)))
  have E_a := E_a.keep K'
  show Go p e below _ _ T (mkF m 7 #[.val (.ref a), .val (.int (4096 : Int32))] [])
  refine Go.retV X hx hret hlk (hb hby d3_7) (fun _ _ q _ => own_fin q (by decide) (by decide)) ?_
  try rw [eT]
  exact ⟨rfl, N, K⟩
theorem d10_0 : decode prog_20_method_2_code 0 = .ok (.aload_n 0, 1) := by decide +kernel
theorem d10_1 : decode prog_20_method_2_code 1 = .ok (.aload_n 1, 1) := by decide +kernel
theorem d10_2 : decode prog_20_method_2_code 2 = .ok (.putfield 13, 3) := by decide +kernel
theorem d10_5 : decode prog_20_method_2_code 5 = .ok (.aload_n 0, 1) := by decide +kernel
theorem d10_6 : decode prog_20_method_2_code 6 = .ok (.iload_n 2, 1) := by decide +kernel
theorem d10_7 : decode prog_20_method_2_code 7 = .ok (.putfield 17, 3) := by decide +kernel
theorem d10_10 : decode prog_20_method_2_code 10 = .ok (.aload_n 0, 1) := by decide +kernel
theorem d10_11 : decode prog_20_method_2_code 11 = .ok (.iload_n 3, 1) := by decide +kernel
theorem d10_12 : decode prog_20_method_2_code 12 = .ok (.putfield 21, 3) := by decide +kernel
theorem d10_15 : decode prog_20_method_2_code 15 = .ok (.aload_n 0, 1) := by decide +kernel
theorem d10_16 : decode prog_20_method_2_code 16 = .ok (.iload 4, 2) := by decide +kernel
theorem d10_18 : decode prog_20_method_2_code 18 = .ok (.putfield 24, 3) := by decide +kernel
theorem d10_21 : decode prog_20_method_2_code 21 = .ok (.return_, 1) := by decide +kernel
theorem pn10 : plainFor (⟨"com/example/text_to_shapes/texttoshapes/idl/Names$Name", "set", "([CIII)V"⟩ : MethodName) = true := plainFor_of_name (by first | (simp [plainName, overriddenIn]; done) | decide +kernel)
theorem ef_rmSet (m : MethodId) (x0 : Addr) (x1 : Addr) (x2 : Int32) (x3 : Int32) (x4 : Int32) : entryFrame m #[(.ref x0), (.ref x1), (.int x2), (.int x3), (.int x4)] 5 = mkF m 0 #[.val (.ref x0), .val (.ref x1), .val (.int x2), .val (.int x3), .val (.int x4)] [] := by first | (simp [entryFrame, mkF, argsToLocals, Value.category]; done) | rfl
set_option maxRecDepth 65536 in
set_option maxHeartbeats 40000000 in
theorem rmSet {l : Launch} {Z : State} {a0 : Array Value} (hw : ∀ d ∈ tables_1, d.before a0 Z = true) (a t : Addr) (p1 p2 p3 : Int32) (h0 : Heap) (n0 : Nat) (Z0 : n0 ≤ h0.size) (g_a : n0 ≤ a) (E_a : Exa Z h0 a "com/example/text_to_shapes/texttoshapes/idl/Names$Name") (F_chars_a : Fld Z h0 a "com/example/text_to_shapes/texttoshapes/idl/Names$Name" "chars" "[C" .null) (F_start_a : Fld Z h0 a "com/example/text_to_shapes/texttoshapes/idl/Names$Name" "start" "I" (.int (0 : Int32))) (F_end_a : Fld Z h0 a "com/example/text_to_shapes/texttoshapes/idl/Names$Name" "end" "I" (.int (0 : Int32))) (F_hash_a : Fld Z h0 a "com/example/text_to_shapes/texttoshapes/idl/Names$Name" "hash" "I" (.int (0 : Int32))) :
    Met l Z (⟨"com/example/text_to_shapes/texttoshapes/idl/Names$Name", "set", "([CIII)V"⟩ : MethodName) prog_20_method_2_code 5 none [] ({ frames := 0, cells := 0, slots := 0, locals := 0 } : Room) #[(.ref a), (.ref t), (.int p1), (.int p2), (.int p3)] h0 (fun v h L => v = none ∧ Fr n0 L ∧ Keep h0 h [a]) := by
  refine Met.mk pn10 ?_
  intro p e s m below meth c T hx hby hml hown hnm hret hlk hZ X eT
  refine Go.cast (ef_rmSet m a t p1 p2 p3) ?_
  have N := Fr.nil n0
  have K := Keep.refl h0 [a]
  show Go p e below _ _ T (mkF m 0 #[.val (.ref a), .val (.ref t), .val (.int p1), .val (.int p2), .val (.int p3)] [])
  refine Go.of (fun _ kq => XS.aloadN X.here hx rfl (hb hby d10_0) rfl rfl kq) ?_
  show Go p e below _ _ T (mkF m 1 #[.val (.ref a), .val (.ref t), .val (.int p1), .val (.int p2), .val (.int p3)] [(.ref a)])
  refine Go.of (fun _ kq => XS.aloadN X.here hx rfl (hb hby d10_1) rfl rfl kq) ?_
  show Go p e below _ _ T (mkF m 2 #[.val (.ref a), .val (.ref t), .val (.int p1), .val (.int p2), .val (.int p3)] [(.ref t), (.ref a)])
  refine Go.putF X hx hZ hown (hw _ (List.mem_of_getElem? (i := 71) rfl)) Via.refl eT F_chars_a E_a (Or.inl (hw _ (List.mem_of_getElem? (i := 72) rfl))) (hw _ (List.mem_of_getElem? (i := 61) rfl)) (ty := (.array .char)) (by decide) rfl rfl (hb hby d10_2) ?_
  intro T h X eT wr
  have N := Fr.snoc X N g_a
  have K := K.wr wr (Or.inl (List.mem_of_getElem? (i := 0) rfl))
  have E_a := E_a.wr wr
  have F_chars_a := F_chars_a.same wr
  have F_start_a := F_start_a.other wr (Or.inr (slot_ne (Or.inl (hw _ (List.mem_of_getElem? (i := 74) rfl))) (Or.inl (hw _ (List.mem_of_getElem? (i := 72) rfl))) (by decide) (t := .int) (t' := (.array .char)) (by decide) (by decide)))
  have F_end_a := F_end_a.other wr (Or.inr (slot_ne (Or.inl (hw _ (List.mem_of_getElem? (i := 76) rfl))) (Or.inl (hw _ (List.mem_of_getElem? (i := 72) rfl))) (by decide) (t := .int) (t' := (.array .char)) (by decide) (by decide)))
  have F_hash_a := F_hash_a.other wr (Or.inr (slot_ne (Or.inl (hw _ (List.mem_of_getElem? (i := 78) rfl))) (Or.inl (hw _ (List.mem_of_getElem? (i := 72) rfl))) (by decide) (t := .int) (t' := (.array .char)) (by decide) (by decide)))
  show Go p e below _ _ T (mkF m 5 #[.val (.ref a), .val (.ref t), .val (.int p1), .val (.int p2), .val (.int p3)] [])
  refine Go.of (fun _ kq => XS.aloadN X.here hx rfl (hb hby d10_5) rfl rfl kq) ?_
  show Go p e below _ _ T (mkF m 6 #[.val (.ref a), .val (.ref t), .val (.int p1), .val (.int p2), .val (.int p3)] [(.ref a)])
  refine Go.of (fun _ kq => XS.iloadN X.here hx rfl (hb hby d10_6) rfl kq) ?_
  show Go p e below _ _ T (mkF m 7 #[.val (.ref a), .val (.ref t), .val (.int p1), .val (.int p2), .val (.int p3)] [(.int p1), (.ref a)])
  refine Go.putF X hx hZ hown (hw _ (List.mem_of_getElem? (i := 73) rfl)) Via.refl eT F_start_a E_a (Or.inl (hw _ (List.mem_of_getElem? (i := 74) rfl))) (hw _ (List.mem_of_getElem? (i := 61) rfl)) (ty := .int) (by decide) rfl rfl (hb hby d10_7) ?_
  intro T h X eT wr
  have N := Fr.snoc X N g_a
  have K := K.wr wr (Or.inl (List.mem_of_getElem? (i := 0) rfl))
  have E_a := E_a.wr wr
  have F_chars_a := F_chars_a.other wr (Or.inr (slot_ne (Or.inl (hw _ (List.mem_of_getElem? (i := 72) rfl))) (Or.inl (hw _ (List.mem_of_getElem? (i := 74) rfl))) (by decide) (t := (.array .char)) (t' := .int) (by decide) (by decide)))
  have F_start_a := F_start_a.same wr
  have F_end_a := F_end_a.other wr (Or.inr (slot_ne (Or.inl (hw _ (List.mem_of_getElem? (i := 76) rfl))) (Or.inl (hw _ (List.mem_of_getElem? (i := 74) rfl))) (by decide) (t := .int) (t' := .int) (by decide) (by decide)))
  have F_hash_a := F_hash_a.other wr (Or.inr (slot_ne (Or.inl (hw _ (List.mem_of_getElem? (i := 78) rfl))) (Or.inl (hw _ (List.mem_of_getElem? (i := 74) rfl))) (by decide) (t := .int) (t' := .int) (by decide) (by decide)))
  show Go p e below _ _ T (mkF m 10 #[.val (.ref a), .val (.ref t), .val (.int p1), .val (.int p2), .val (.int p3)] [])
  refine Go.of (fun _ kq => XS.aloadN X.here hx rfl (hb hby d10_10) rfl rfl kq) ?_
  show Go p e below _ _ T (mkF m 11 #[.val (.ref a), .val (.ref t), .val (.int p1), .val (.int p2), .val (.int p3)] [(.ref a)])
  refine Go.of (fun _ kq => XS.iloadN X.here hx rfl (hb hby d10_11) rfl kq) ?_
  show Go p e below _ _ T (mkF m 12 #[.val (.ref a), .val (.ref t), .val (.int p1), .val (.int p2), .val (.int p3)] [(.int p2), (.ref a)])
  refine Go.putF X hx hZ hown (hw _ (List.mem_of_getElem? (i := 75) rfl)) Via.refl eT F_end_a E_a (Or.inl (hw _ (List.mem_of_getElem? (i := 76) rfl))) (hw _ (List.mem_of_getElem? (i := 61) rfl)) (ty := .int) (by decide) rfl rfl (hb hby d10_12) ?_
  intro T h X eT wr
  have N := Fr.snoc X N g_a
  have K := K.wr wr (Or.inl (List.mem_of_getElem? (i := 0) rfl))
  have E_a := E_a.wr wr
  have F_chars_a := F_chars_a.other wr (Or.inr (slot_ne (Or.inl (hw _ (List.mem_of_getElem? (i := 72) rfl))) (Or.inl (hw _ (List.mem_of_getElem? (i := 76) rfl))) (by decide) (t := (.array .char)) (t' := .int) (by decide) (by decide)))
  have F_start_a := F_start_a.other wr (Or.inr (slot_ne (Or.inl (hw _ (List.mem_of_getElem? (i := 74) rfl))) (Or.inl (hw _ (List.mem_of_getElem? (i := 76) rfl))) (by decide) (t := .int) (t' := .int) (by decide) (by decide)))
  have F_end_a := F_end_a.same wr
  have F_hash_a := F_hash_a.other wr (Or.inr (slot_ne (Or.inl (hw _ (List.mem_of_getElem? (i := 78) rfl))) (Or.inl (hw _ (List.mem_of_getElem? (i := 76) rfl))) (by decide) (t := .int) (t' := .int) (by decide) (by decide)))
  show Go p e below _ _ T (mkF m 15 #[.val (.ref a), .val (.ref t), .val (.int p1), .val (.int p2), .val (.int p3)] [])
  refine Go.of (fun _ kq => XS.aloadN X.here hx rfl (hb hby d10_15) rfl rfl kq) ?_
  show Go p e below _ _ T (mkF m 16 #[.val (.ref a), .val (.ref t), .val (.int p1), .val (.int p2), .val (.int p3)] [(.ref a)])
  refine Go.of (fun _ kq => XS.iload X.here hx rfl (hb hby d10_16) rfl kq) ?_
  show Go p e below _ _ T (mkF m 18 #[.val (.ref a), .val (.ref t), .val (.int p1), .val (.int p2), .val (.int p3)] [(.int p3), (.ref a)])
  refine Go.putF X hx hZ hown (hw _ (List.mem_of_getElem? (i := 77) rfl)) Via.refl eT F_hash_a E_a (Or.inl (hw _ (List.mem_of_getElem? (i := 78) rfl))) (hw _ (List.mem_of_getElem? (i := 61) rfl)) (ty := .int) (by decide) rfl rfl (hb hby d10_18) ?_
  intro T h X eT wr
  have N := Fr.snoc X N g_a
  have K := K.wr wr (Or.inl (List.mem_of_getElem? (i := 0) rfl))
  have E_a := E_a.wr wr
  have F_chars_a := F_chars_a.other wr (Or.inr (slot_ne (Or.inl (hw _ (List.mem_of_getElem? (i := 72) rfl))) (Or.inl (hw _ (List.mem_of_getElem? (i := 78) rfl))) (by decide) (t := (.array .char)) (t' := .int) (by decide) (by decide)))
  have F_start_a := F_start_a.other wr (Or.inr (slot_ne (Or.inl (hw _ (List.mem_of_getElem? (i := 74) rfl))) (Or.inl (hw _ (List.mem_of_getElem? (i := 78) rfl))) (by decide) (t := .int) (t' := .int) (by decide) (by decide)))
  have F_end_a := F_end_a.other wr (Or.inr (slot_ne (Or.inl (hw _ (List.mem_of_getElem? (i := 76) rfl))) (Or.inl (hw _ (List.mem_of_getElem? (i := 78) rfl))) (by decide) (t := .int) (t' := .int) (by decide) (by decide)))
  have F_hash_a := F_hash_a.same wr
  show Go p e below _ _ T (mkF m 21 #[.val (.ref a), .val (.ref t), .val (.int p1), .val (.int p2), .val (.int p3)] [])
  refine Go.retV X hx hret hlk (hb hby d10_21) (fun _ _ q _ => own_fin q (by decide) (by decide)) ?_
  try rw [eT]
  exact ⟨rfl, N, K⟩
theorem d9_0 : decode prog_20_method_1_code 0 = .ok (.aload_n 0, 1) := by decide +kernel
theorem d9_1 : decode prog_20_method_1_code 1 = .ok (.invokespecial 1, 3) := by decide +kernel
theorem d9_4 : decode prog_20_method_1_code 4 = .ok (.aload_n 0, 1) := by decide +kernel
theorem d9_5 : decode prog_20_method_1_code 5 = .ok (.aload_n 1, 1) := by decide +kernel
theorem d9_6 : decode prog_20_method_1_code 6 = .ok (.iload_n 2, 1) := by decide +kernel
theorem d9_7 : decode prog_20_method_1_code 7 = .ok (.iload_n 3, 1) := by decide +kernel
theorem d9_8 : decode prog_20_method_1_code 8 = .ok (.iload 4, 2) := by decide +kernel
theorem d9_10 : decode prog_20_method_1_code 10 = .ok (.invokevirtual 7, 3) := by decide +kernel
theorem d9_13 : decode prog_20_method_1_code 13 = .ok (.return_, 1) := by decide +kernel
theorem pn9 : plainFor (⟨"com/example/text_to_shapes/texttoshapes/idl/Names$Name", "<init>", "([CIII)V"⟩ : MethodName) = true := plainFor_of_name (by first | (simp [plainName, overriddenIn]; done) | decide +kernel)
theorem ef_rmName (m : MethodId) (x0 : Addr) (x1 : Addr) (x2 : Int32) (x3 : Int32) (x4 : Int32) : entryFrame m #[(.ref x0), (.ref x1), (.int x2), (.int x3), (.int x4)] 5 = mkF m 0 #[.val (.ref x0), .val (.ref x1), .val (.int x2), .val (.int x3), .val (.int x4)] [] := by first | (simp [entryFrame, mkF, argsToLocals, Value.category]; done) | rfl
set_option maxRecDepth 65536 in
set_option maxHeartbeats 40000000 in
theorem rmName {l : Launch} {Z : State} {a0 : Array Value} (hw : ∀ d ∈ tables_1, d.before a0 Z = true) (a t : Addr) (p1 p2 p3 : Int32) (h0 : Heap) (n0 : Nat) (Z0 : n0 ≤ h0.size) (g_a : n0 ≤ a) (E_a : Exa Z h0 a "com/example/text_to_shapes/texttoshapes/idl/Names$Name") (F_chars_a : Fld Z h0 a "com/example/text_to_shapes/texttoshapes/idl/Names$Name" "chars" "[C" .null) (F_start_a : Fld Z h0 a "com/example/text_to_shapes/texttoshapes/idl/Names$Name" "start" "I" (.int (0 : Int32))) (F_end_a : Fld Z h0 a "com/example/text_to_shapes/texttoshapes/idl/Names$Name" "end" "I" (.int (0 : Int32))) (F_hash_a : Fld Z h0 a "com/example/text_to_shapes/texttoshapes/idl/Names$Name" "hash" "I" (.int (0 : Int32))) :
    Met l Z (⟨"com/example/text_to_shapes/texttoshapes/idl/Names$Name", "<init>", "([CIII)V"⟩ : MethodName) prog_20_method_1_code 5 none [] ({ frames := 1, cells := 0, slots := 0, locals := 16 } : Room) #[(.ref a), (.ref t), (.int p1), (.int p2), (.int p3)] h0 (fun v h L => v = none ∧ Fr n0 L ∧ Keep h0 h [a]) := by
  refine Met.mk pn9 ?_
  intro p e s m below meth c T hx hby hml hown hnm hret hlk hZ X eT
  refine Go.cast (ef_rmName m a t p1 p2 p3) ?_
  have N := Fr.nil n0
  have K := Keep.refl h0 [a]
  show Go p e below _ _ T (mkF m 0 #[.val (.ref a), .val (.ref t), .val (.int p1), .val (.int p2), .val (.int p3)] [])
  refine Go.of (fun _ kq => XS.aloadN X.here hx rfl (hb hby d9_0) rfl rfl kq) ?_
  show Go p e below _ _ T (mkF m 1 #[.val (.ref a), .val (.ref t), .val (.int p1), .val (.int p2), .val (.int p3)] [(.ref a)])
  refine Go.initO X hx hZ hown (hw _ (List.mem_of_getElem? (i := 66) rfl)) (hw _ (List.mem_of_getElem? (i := 21) rfl)) (hw _ (List.mem_of_getElem? (i := 22) rfl)) eT (by rw [hml]; rfl) (hb hby d9_1) (by decide) 0 (Nat.le_of_eq rfl) (by decide) ?_
  intro T X eT
  show Go p e below _ _ T (mkF m 4 #[.val (.ref a), .val (.ref t), .val (.int p1), .val (.int p2), .val (.int p3)] [])
  refine Go.of (fun _ kq => XS.aloadN X.here hx rfl (hb hby d9_4) rfl rfl kq) ?_
  show Go p e below _ _ T (mkF m 5 #[.val (.ref a), .val (.ref t), .val (.int p1), .val (.int p2), .val (.int p3)] [(.ref a)])
  refine Go.of (fun _ kq => XS.aloadN X.here hx rfl (hb hby d9_5) rfl rfl kq) ?_
  show Go p e below _ _ T (mkF m 6 #[.val (.ref a), .val (.ref t), .val (.int p1), .val (.int p2), .val (.int p3)] [(.ref t), (.ref a)])
  refine Go.of (fun _ kq => XS.iloadN X.here hx rfl (hb hby d9_6) rfl kq) ?_
  show Go p e below _ _ T (mkF m 7 #[.val (.ref a), .val (.ref t), .val (.int p1), .val (.int p2), .val (.int p3)] [(.int p1), (.ref t), (.ref a)])
  refine Go.of (fun _ kq => XS.iloadN X.here hx rfl (hb hby d9_7) rfl kq) ?_
  show Go p e below _ _ T (mkF m 8 #[.val (.ref a), .val (.ref t), .val (.int p1), .val (.int p2), .val (.int p3)] [(.int p2), (.int p1), (.ref t), (.ref a)])
  refine Go.of (fun _ kq => XS.iload X.here hx rfl (hb hby d9_8) rfl kq) ?_
  show Go p e below _ _ T (mkF m 10 #[.val (.ref a), .val (.ref t), .val (.int p1), .val (.int p2), .val (.int p3)] [(.int p3), (.int p2), (.int p1), (.ref t), (.ref a)])
  refine Go.priv (a := a) X hx hZ hown (hw _ (List.mem_of_getElem? (i := 67) rfl)) (hw _ (List.mem_of_getElem? (i := 68) rfl)) (hw _ (List.mem_of_getElem? (i := 61) rfl)) (hw _ (List.mem_of_getElem? (i := 69) rfl)) (hw _ (List.mem_of_getElem? (i := 62) rfl)) (hw _ (List.mem_of_getElem? (i := 70) rfl)) (by decide) (rmSet hw a t p1 p2 p3 _ n0 Z0 g_a E_a F_chars_a F_start_a F_end_a F_hash_a) eT E_a 0 (by decide) (by decide) (by decide) (by decide) (by rw [hml]; rfl) (argsL := [(.ref t), (.int p1), (.int p2), (.int p3)]) [] (lenOf pd4 rfl) rfl rfl (Nat.le_of_eq rfl) (hb hby d9_10) ?_
  intro v T L' X hQ
  obtain ⟨h, eT⟩ : ∃ z, T.heap = z := ⟨_, rfl⟩
  rw [eT] at hQ
  obtain ⟨rfl, N', K'⟩ := hQ
  have N := Fr.app N N'
  have K := K.trans K' (own_all1 (Or.inl (List.mem_of_getElem? (i := 0) rfl)))
  have E_a := E_a.keep K'
  show Go p e below _ _ T (mkF m 13 #[.val (.ref a), .val (.ref t), .val (.int p1), .val (.int p2), .val (.int p3)] [])
  refine Go.retV X hx hret hlk (hb hby d9_13) (fun _ _ q _ => own_fin q (by decide) (by decide)) ?_
  try rw [eT]
  exact ⟨rfl, N, K⟩
theorem d1_0 : decode prog_19_method_1_code 0 = .ok (.aload_n 0, 1) := by decide +kernel
theorem d1_1 : decode prog_19_method_1_code 1 = .ok (.invokespecial 1, 3) := by decide +kernel
theorem d1_4 : decode prog_19_method_1_code 4 = .ok (.aload_n 0, 1) := by decide +kernel
theorem d1_5 : decode prog_19_method_1_code 5 = .ok (.new 7, 3) := by decide +kernel
theorem d1_8 : decode prog_19_method_1_code 8 = .ok (.dup, 1) := by decide +kernel
theorem d1_9 : decode prog_19_method_1_code 9 = .ok (.sipush 4096, 3) := by decide +kernel
theorem d1_12 : decode prog_19_method_1_code 12 = .ok (.invokespecial 9, 3) := by decide +kernel
theorem d1_15 : decode prog_19_method_1_code 15 = .ok (.putfield 12, 3) := by decide +kernel
theorem d1_18 : decode prog_19_method_1_code 18 = .ok (.aload_n 0, 1) := by decide +kernel
theorem d1_19 : decode prog_19_method_1_code 19 = .ok (.new 18, 3) := by decide +kernel
theorem d1_22 : decode prog_19_method_1_code 22 = .ok (.dup, 1) := by decide +kernel
theorem d1_23 : decode prog_19_method_1_code 23 = .ok (.iconst 0, 1) := by decide +kernel
theorem d1_24 : decode prog_19_method_1_code 24 = .ok (.newarray .char, 2) := by decide +kernel
theorem d1_26 : decode prog_19_method_1_code 26 = .ok (.iconst 0, 1) := by decide +kernel
theorem d1_27 : decode prog_19_method_1_code 27 = .ok (.iconst 0, 1) := by decide +kernel
theorem d1_28 : decode prog_19_method_1_code 28 = .ok (.iconst 0, 1) := by decide +kernel
theorem d1_29 : decode prog_19_method_1_code 29 = .ok (.invokespecial 20, 3) := by decide +kernel
theorem d1_32 : decode prog_19_method_1_code 32 = .ok (.putfield 23, 3) := by decide +kernel
theorem d1_35 : decode prog_19_method_1_code 35 = .ok (.return_, 1) := by decide +kernel
theorem pn1 : plainFor (⟨"com/example/text_to_shapes/texttoshapes/idl/Names", "<init>", "()V"⟩ : MethodName) = true := plainFor_of_name (by first | (simp [plainName, overriddenIn]; done) | decide +kernel)
theorem ef_rmNames (m : MethodId) (x0 : Addr) : entryFrame m #[(.ref x0)] 1 = mkF m 0 #[.val (.ref x0)] [] := by first | (simp [entryFrame, mkF, argsToLocals, Value.category]; done) | rfl
set_option maxRecDepth 65536 in
set_option maxHeartbeats 40000000 in
theorem rmNames {l : Launch} {Z : State} {a0 : Array Value} (hw : ∀ d ∈ tables_1, d.before a0 Z = true) (a : Addr) (h0 : Heap) (n0 : Nat) (Z0 : n0 ≤ h0.size) (g_a : n0 ≤ a) (E_a : Exa Z h0 a "com/example/text_to_shapes/texttoshapes/idl/Names") (F_names_a : Fld Z h0 a "com/example/text_to_shapes/texttoshapes/idl/Names" "names" "Ljava/util/Map;" .null) (F_probe_a : Fld Z h0 a "com/example/text_to_shapes/texttoshapes/idl/Names" "probe" "Lcom/example/text_to_shapes/texttoshapes/idl/Names$Name;" .null) :
    Met l Z (⟨"com/example/text_to_shapes/texttoshapes/idl/Names", "<init>", "()V"⟩ : MethodName) prog_19_method_1_code 1 none [] ({ frames := 4, cells := 3, slots := 14, locals := 57 } : Room) #[(.ref a)] h0 (fun v h L => v = none ∧ Fr n0 L ∧ Keep h0 h [a]) := by
  refine Met.mk pn1 ?_
  intro p e s m below meth c T hx hby hml hown hnm hret hlk hZ X eT
  refine Go.cast (ef_rmNames m a) ?_
  have N := Fr.nil n0
  have K := Keep.refl h0 [a]
  show Go p e below _ _ T (mkF m 0 #[.val (.ref a)] [])
  refine Go.of (fun _ kq => XS.aloadN X.here hx rfl (hb hby d1_0) rfl rfl kq) ?_
  show Go p e below _ _ T (mkF m 1 #[.val (.ref a)] [(.ref a)])
  refine Go.initO X hx hZ hown (hw _ (List.mem_of_getElem? (i := 20) rfl)) (hw _ (List.mem_of_getElem? (i := 21) rfl)) (hw _ (List.mem_of_getElem? (i := 22) rfl)) eT (by rw [hml]; rfl) (hb hby d1_1) (by decide) 0 (Nat.le_of_eq rfl) (by decide) ?_
  intro T X eT
  show Go p e below _ _ T (mkF m 4 #[.val (.ref a)] [])
  refine Go.of (fun _ kq => XS.aloadN X.here hx rfl (hb hby d1_4) rfl rfl kq) ?_
  show Go p e below _ _ T (mkF m 5 #[.val (.ref a)] [(.ref a)])
  refine Go.newO X hx hZ hown (hw _ (List.mem_of_getElem? (i := 23) rfl)) (hw _ (List.mem_of_getElem? (i := 24) rfl)) (hw _ (List.mem_of_getElem? (i := 25) rfl)) eT (hb hby d1_5) (by decide) (by decide) ?_
  intro T h b5 X eT E ha E_b5 D_b5
  have ne_a_b5 : a ≠ b5 := by rw [ha]; exact Nat.ne_of_lt E_a.lt
  have z_b5 : h0.size ≤ b5 := by rw [ha]; exact K.1
  have g_b5 : n0 ≤ b5 := Nat.le_trans Z0 z_b5
  have K := K.ext E
  have E_a := E_a.ext E
  have F_names_a := F_names_a.ext E
  have F_probe_a := F_probe_a.ext E
  have F_loadFactor_b5 : Fld Z h b5 "java/util/HashMap" "loadFactor" "F" (.float 0) := D_b5 (Or.inr (hw _ (List.mem_of_getElem? (i := 47) rfl))) (ty := .float) (by decide)
  have F_threshold_b5 : Fld Z h b5 "java/util/HashMap" "threshold" "I" (.int (0 : Int32)) := D_b5 (Or.inl (hw _ (List.mem_of_getElem? (i := 57) rfl))) (ty := .int) (by decide)
  show Go p e below _ _ T (mkF m 8 #[.val (.ref a)] [(.ref b5), (.ref a)])
  refine Go.of (fun _ kq => XS.dup X.here hx rfl (hb hby d1_8) rfl rfl kq) ?_
  show Go p e below _ _ T (mkF m 9 #[.val (.ref a)] [(.ref b5), (.ref b5), (.ref a)])
  refine Go.of (fun _ kq => XS.sipush X.here hx rfl (hb hby d1_9) kq) ?_
  show Go p e below _ _ T (mkF m 12 #[.val (.ref a)] [(.int (4096 : Int32)), (.ref b5), (.ref b5), (.ref a)])
  refine Go.special (a := b5) X hx hZ hown rfl (hw _ (List.mem_of_getElem? (i := 26) rfl)) (hw _ (List.mem_of_getElem? (i := 27) rfl)) (hw _ (List.mem_of_getElem? (i := 25) rfl)) (hw _ (List.mem_of_getElem? (i := 28) rfl)) (by decide) (rmHM hw b5 _ n0 (Nat.le_trans Z0 K.1) g_b5 E_b5 F_loadFactor_b5 F_threshold_b5) eT 2 (by decide) (by decide) (by decide) (by decide) (by rw [hml]; rfl) (argsL := [(.int (4096 : Int32))]) [(.ref b5), (.ref a)] (lenOf pd5 rfl) rfl rfl (Nat.le_of_eq rfl) (hb hby d1_12) ?_
  intro v T L' X hQ
  obtain ⟨h, eT⟩ : ∃ z, T.heap = z := ⟨_, rfl⟩
  rw [eT] at hQ
  obtain ⟨rfl, N', K'⟩ := hQ
  have N := Fr.app N N'
  have K := K.trans K' (own_all1 (Or.inr z_b5))
  have E_a := E_a.keep K'
  have F_names_a := F_names_a.keep K' (own_ni1 ne_a_b5)
  have F_probe_a := F_probe_a.keep K' (own_ni1 ne_a_b5)
  have E_b5 := E_b5.keep K'
  show Go p e below _ _ T (mkF m 15 #[.val (.ref a)] [(.ref b5), (.ref a)])
  refine Go.putF X hx hZ hown (hw _ (List.mem_of_getElem? (i := 58) rfl)) Via.refl eT F_names_a E_a (Or.inr ⟨(hw _ (List.mem_of_getElem? (i := 59) rfl)), rfl, hnm⟩) (hw _ (List.mem_of_getElem? (i := 15) rfl)) (ty := (.object "java/util/Map")) (by decide) rfl rfl (hb hby d1_15) ?_
  intro T h X eT wr
  have N := Fr.snoc X N g_a
  have K := K.wr wr (Or.inl (List.mem_of_getElem? (i := 0) rfl))
  have E_a := E_a.wr wr
  have F_names_a := F_names_a.same wr
  have F_probe_a := F_probe_a.other wr (Or.inr (slot_ne (Or.inr (hw _ (List.mem_of_getElem? (i := 80) rfl))) (Or.inr (hw _ (List.mem_of_getElem? (i := 59) rfl))) (by decide) (t := (.object "com/example/text_to_shapes/texttoshapes/idl/Names$Name")) (t' := (.object "java/util/Map")) (by decide) (by decide)))
  have E_b5 := E_b5.wr wr
  show Go p e below _ _ T (mkF m 18 #[.val (.ref a)] [])
  refine Go.of (fun _ kq => XS.aloadN X.here hx rfl (hb hby d1_18) rfl rfl kq) ?_
  show Go p e below _ _ T (mkF m 19 #[.val (.ref a)] [(.ref a)])
  refine Go.newO X hx hZ hown (hw _ (List.mem_of_getElem? (i := 60) rfl)) (hw _ (List.mem_of_getElem? (i := 61) rfl)) (hw _ (List.mem_of_getElem? (i := 62) rfl)) eT (hb hby d1_19) (by decide) (by decide) ?_
  intro T h b19 X eT E ha E_b19 D_b19
  have ne_a_b19 : a ≠ b19 := by rw [ha]; exact Nat.ne_of_lt E_a.lt
  have z_b19 : h0.size ≤ b19 := by rw [ha]; exact K.1
  have g_b19 : n0 ≤ b19 := Nat.le_trans Z0 z_b19
  have K := K.ext E
  have E_a := E_a.ext E
  have F_probe_a := F_probe_a.ext E
  have F_chars_b19 : Fld Z h b19 "com/example/text_to_shapes/texttoshapes/idl/Names$Name" "chars" "[C" .null := D_b19 (Or.inl (hw _ (List.mem_of_getElem? (i := 72) rfl))) (ty := (.array .char)) (by decide)
  have F_start_b19 : Fld Z h b19 "com/example/text_to_shapes/texttoshapes/idl/Names$Name" "start" "I" (.int (0 : Int32)) := D_b19 (Or.inl (hw _ (List.mem_of_getElem? (i := 74) rfl))) (ty := .int) (by decide)
  have F_end_b19 : Fld Z h b19 "com/example/text_to_shapes/texttoshapes/idl/Names$Name" "end" "I" (.int (0 : Int32)) := D_b19 (Or.inl (hw _ (List.mem_of_getElem? (i := 76) rfl))) (ty := .int) (by decide)
  have F_hash_b19 : Fld Z h b19 "com/example/text_to_shapes/texttoshapes/idl/Names$Name" "hash" "I" (.int (0 : Int32)) := D_b19 (Or.inl (hw _ (List.mem_of_getElem? (i := 78) rfl))) (ty := .int) (by decide)
  show Go p e below _ _ T (mkF m 22 #[.val (.ref a)] [(.ref b19), (.ref a)])
  refine Go.of (fun _ kq => XS.dup X.here hx rfl (hb hby d1_22) rfl rfl kq) ?_
  show Go p e below _ _ T (mkF m 23 #[.val (.ref a)] [(.ref b19), (.ref b19), (.ref a)])
  refine Go.of (fun _ kq => XS.iconst X.here hx rfl (hb hby d1_23) kq) ?_
  show Go p e below _ _ T (mkF m 24 #[.val (.ref a)] [(.int (0 : Int32)), (.ref b19), (.ref b19), (.ref a)])
  refine Go.newP X hx hZ (hw _ (List.mem_of_getElem? (i := 0) rfl)) eT (hb hby d1_24) (by decide) 0 (by decide) (by decide) (by decide) (by decide) ?_
  intro T h b24 X eT E ha V_b24
  have ne_a_b24 : a ≠ b24 := by rw [ha]; exact Nat.ne_of_lt E_a.lt
  have ne_b19_b24 : b19 ≠ b24 := by rw [ha]; exact Nat.ne_of_lt F_chars_b19.lt
  have z_b24 : h0.size ≤ b24 := by rw [ha]; exact K.1
  have g_b24 : n0 ≤ b24 := Nat.le_trans Z0 z_b24
  have K := K.ext E
  have E_a := E_a.ext E
  have F_probe_a := F_probe_a.ext E
  have F_chars_b19 := F_chars_b19.ext E
  have F_start_b19 := F_start_b19.ext E
  have F_end_b19 := F_end_b19.ext E
  have F_hash_b19 := F_hash_b19.ext E
  have E_b19 := E_b19.ext E
  have V_b24 : AV Z h b24 .char 0 (fun _ => .int 0) := V_b24
  show Go p e below _ _ T (mkF m 26 #[.val (.ref a)] [(.ref b24), (.ref b19), (.ref b19), (.ref a)])
  refine Go.of (fun _ kq => XS.iconst X.here hx rfl (hb hby d1_26) kq) ?_
  show Go p e below _ _ T (mkF m 27 #[.val (.ref a)] [(.int (0 : Int32)), (.ref b24), (.ref b19), (.ref b19), (.ref a)])
  refine Go.of (fun _ kq => XS.iconst X.here hx rfl (hb hby d1_27) kq) ?_
  show Go p e below _ _ T (mkF m 28 #[.val (.ref a)] [(.int (0 : Int32)), (.int (0 : Int32)), (.ref b24), (.ref b19), (.ref b19), (.ref a)])
  refine Go.of (fun _ kq => XS.iconst X.here hx rfl (hb hby d1_28) kq) ?_
  show Go p e below _ _ T (mkF m 29 #[.val (.ref a)] [(.int (0 : Int32)), (.int (0 : Int32)), (.int (0 : Int32)), (.ref b24), (.ref b19), (.ref b19), (.ref a)])
  refine Go.specialRef (a := b19) X hx hZ hown rfl (hw _ (List.mem_of_getElem? (i := 63) rfl)) (hw _ (List.mem_of_getElem? (i := 64) rfl)) (hw _ (List.mem_of_getElem? (i := 62) rfl)) (hw _ (List.mem_of_getElem? (i := 65) rfl)) (by decide) (rmName hw b19 b24 0 0 0 _ n0 (Nat.le_trans Z0 K.1) g_b19 E_b19 F_chars_b19 F_start_b19 F_end_b19 F_hash_b19) eT 2 (by decide) (by decide) (by decide) (by decide) (by rw [hml]; rfl) (argsL := [(.ref b24), (.int (0 : Int32)), (.int (0 : Int32)), (.int (0 : Int32))]) [(.ref b19), (.ref a)] (lenOf pd4 rfl) rfl rfl (Nat.le_of_eq rfl) (hb hby d1_29) ?_
  intro v T L' X hQ
  obtain ⟨h, eT⟩ : ∃ z, T.heap = z := ⟨_, rfl⟩
  rw [eT] at hQ
  obtain ⟨rfl, N', K'⟩ := hQ
  have N := Fr.app N N'
  have K := K.trans K' (own_all1 (Or.inr z_b19))
  have E_a := E_a.keep K'
  have F_probe_a := F_probe_a.keep K' (own_ni1 ne_a_b19)
  have E_b19 := E_b19.keep K'
  have V_b24 := V_b24.keep K' (own_ni1 (Ne.symm ne_b19_b24))
  show Go p e below _ _ T (mkF m 32 #[.val (.ref a)] [(.ref b19), (.ref a)])
  refine Go.putF X hx hZ hown (hw _ (List.mem_of_getElem? (i := 79) rfl)) Via.refl eT F_probe_a E_a (Or.inr ⟨(hw _ (List.mem_of_getElem? (i := 80) rfl)), rfl, hnm⟩) (hw _ (List.mem_of_getElem? (i := 15) rfl)) (ty := (.object "com/example/text_to_shapes/texttoshapes/idl/Names$Name")) (by decide) rfl rfl (hb hby d1_32) ?_
  intro T h X eT wr
  have N := Fr.snoc X N g_a
  have K := K.wr wr (Or.inl (List.mem_of_getElem? (i := 0) rfl))
  have E_a := E_a.wr wr
  have F_probe_a := F_probe_a.same wr
  have E_b19 := E_b19.wr wr
  have V_b24 := V_b24.other wr (Ne.symm ne_a_b24)
  show Go p e below _ _ T (mkF m 35 #[.val (.ref a)] [])
  refine Go.retV X hx hret hlk (hb hby d1_35) (fun _ _ q _ => own_fin q (by decide) (by decide)) ?_
  try rw [eT]
  exact ⟨rfl, N, K⟩
theorem d11_0 : decode prog_36_method_2_code 0 = .ok (.aload_n 0, 1) := by decide +kernel
theorem d11_1 : decode prog_36_method_2_code 1 = .ok (.invokespecial 24, 3) := by decide +kernel
theorem d11_4 : decode prog_36_method_2_code 4 = .ok (.aload_n 0, 1) := by decide +kernel
theorem d11_5 : decode prog_36_method_2_code 5 = .ok (.iconst 1, 1) := by decide +kernel
theorem d11_6 : decode prog_36_method_2_code 6 = .ok (.putfield 27, 3) := by decide +kernel
theorem d11_9 : decode prog_36_method_2_code 9 = .ok (.aload_n 0, 1) := by decide +kernel
theorem d11_10 : decode prog_36_method_2_code 10 = .ok (.bipush 8, 2) := by decide +kernel
theorem d11_12 : decode prog_36_method_2_code 12 = .ok (.newarray .int, 2) := by decide +kernel
theorem d11_14 : decode prog_36_method_2_code 14 = .ok (.putfield 31, 3) := by decide +kernel
theorem d11_17 : decode prog_36_method_2_code 17 = .ok (.aload_n 0, 1) := by decide +kernel
theorem d11_18 : decode prog_36_method_2_code 18 = .ok (.iconst (-1), 1) := by decide +kernel
theorem d11_19 : decode prog_36_method_2_code 19 = .ok (.putfield 35, 3) := by decide +kernel
theorem d11_22 : decode prog_36_method_2_code 22 = .ok (.aload_n 0, 1) := by decide +kernel
theorem d11_23 : decode prog_36_method_2_code 23 = .ok (.aload_n 1, 1) := by decide +kernel
theorem d11_24 : decode prog_36_method_2_code 24 = .ok (.putfield 38, 3) := by decide +kernel
theorem d11_27 : decode prog_36_method_2_code 27 = .ok (.aload_n 0, 1) := by decide +kernel
theorem d11_28 : decode prog_36_method_2_code 28 = .ok (.aload_n 2, 1) := by decide +kernel
theorem d11_29 : decode prog_36_method_2_code 29 = .ok (.putfield 42, 3) := by decide +kernel
theorem d11_32 : decode prog_36_method_2_code 32 = .ok (.aload_n 0, 1) := by decide +kernel
theorem d11_33 : decode prog_36_method_2_code 33 = .ok (.iload_n 3, 1) := by decide +kernel
theorem d11_34 : decode prog_36_method_2_code 34 = .ok (.putfield 46, 3) := by decide +kernel
theorem d11_37 : decode prog_36_method_2_code 37 = .ok (.aload_n 0, 1) := by decide +kernel
theorem d11_38 : decode prog_36_method_2_code 38 = .ok (.aload 4, 2) := by decide +kernel
theorem d11_40 : decode prog_36_method_2_code 40 = .ok (.putfield 49, 3) := by decide +kernel
theorem d11_43 : decode prog_36_method_2_code 43 = .ok (.return_, 1) := by decide +kernel
theorem pn11 : plainFor (⟨"com/example/text_to_shapes/texttoshapes/idl/SourceReader", "<init>", "(Ljava/lang/String;[CILcom/example/text_to_shapes/texttoshapes/idl/Names;)V"⟩ : MethodName) = true := plainFor_of_name (by first | (simp [plainName, overriddenIn]; done) | decide +kernel)
theorem ef_rmSR (m : MethodId) (x0 : Addr) (x1 : Addr) (x2 : Addr) (x3 : Int32) (x4 : Addr) : entryFrame m #[(.ref x0), (.ref x1), (.ref x2), (.int x3), (.ref x4)] 5 = mkF m 0 #[.val (.ref x0), .val (.ref x1), .val (.ref x2), .val (.int x3), .val (.ref x4)] [] := by first | (simp [entryFrame, mkF, argsToLocals, Value.category]; done) | rfl
set_option maxRecDepth 65536 in
set_option maxHeartbeats 40000000 in
theorem rmSR {l : Launch} {Z : State} {a0 : Array Value} (hw : ∀ d ∈ tables_1, d.before a0 Z = true) (a ps t : Addr) (n : Int32) (nm : Addr) (h0 : Heap) (n0 : Nat) (Z0 : n0 ≤ h0.size) (g_a : n0 ≤ a) (E_a : Exa Z h0 a "com/example/text_to_shapes/texttoshapes/idl/SourceReader") (F_line_a : Fld Z h0 a "com/example/text_to_shapes/texttoshapes/idl/SourceReader" "line" "I" (.int (0 : Int32))) (F_documentationBounds_a : Fld Z h0 a "com/example/text_to_shapes/texttoshapes/idl/SourceReader" "documentationBounds" "[I" .null) (F_countedLineStart_a : Fld Z h0 a "com/example/text_to_shapes/texttoshapes/idl/SourceReader" "countedLineStart" "I" (.int (0 : Int32))) (F_path_a : Fld Z h0 a "com/example/text_to_shapes/texttoshapes/idl/SourceReader" "path" "Ljava/lang/String;" .null) (F_text_a : Fld Z h0 a "com/example/text_to_shapes/texttoshapes/idl/SourceReader" "text" "[C" .null) (F_textLength_a : Fld Z h0 a "com/example/text_to_shapes/texttoshapes/idl/SourceReader" "textLength" "I" (.int (0 : Int32))) (F_names_a : Fld Z h0 a "com/example/text_to_shapes/texttoshapes/idl/SourceReader" "names" "Lcom/example/text_to_shapes/texttoshapes/idl/Names;" .null) (F_offset_a : Fld Z h0 a "com/example/text_to_shapes/texttoshapes/idl/SourceReader" "offset" "I" (.int (0 : Int32))) (F_lineStart_a : Fld Z h0 a "com/example/text_to_shapes/texttoshapes/idl/SourceReader" "lineStart" "I" (.int (0 : Int32))) :
    Met l Z (⟨"com/example/text_to_shapes/texttoshapes/idl/SourceReader", "<init>", "(Ljava/lang/String;[CILcom/example/text_to_shapes/texttoshapes/idl/Names;)V"⟩ : MethodName) prog_36_method_2_code 5 none [] ({ frames := 1, cells := 1, slots := 8, locals := 12 } : Room) #[(.ref a), (.ref ps), (.ref t), (.int n), (.ref nm)] h0 (fun v h L => v = none ∧ Fr n0 L ∧ Keep h0 h [a] ∧ Fld Z h a "com/example/text_to_shapes/texttoshapes/idl/SourceReader" "text" "[C" (.ref t) ∧ Fld Z h a "com/example/text_to_shapes/texttoshapes/idl/SourceReader" "textLength" "I" (.int n) ∧ Fld Z h a "com/example/text_to_shapes/texttoshapes/idl/SourceReader" "offset" "I" (.int (0 : Int32)) ∧ Fld Z h a "com/example/text_to_shapes/texttoshapes/idl/SourceReader" "line" "I" (.int (1 : Int32)) ∧ Fld Z h a "com/example/text_to_shapes/texttoshapes/idl/SourceReader" "lineStart" "I" (.int (0 : Int32))) := by
  refine Met.mk pn11 ?_
  intro p e s m below meth c T hx hby hml hown hnm hret hlk hZ X eT
  refine Go.cast (ef_rmSR m a ps t n nm) ?_
  have N := Fr.nil n0
  have K := Keep.refl h0 [a]
  show Go p e below _ _ T (mkF m 0 #[.val (.ref a), .val (.ref ps), .val (.ref t), .val (.int n), .val (.ref nm)] [])
  refine Go.of (fun _ kq => XS.aloadN X.here hx rfl (hb hby d11_0) rfl rfl kq) ?_
  show Go p e below _ _ T (mkF m 1 #[.val (.ref a), .val (.ref ps), .val (.ref t), .val (.int n), .val (.ref nm)] [(.ref a)])
  refine Go.initO X hx hZ hown (hw _ (List.mem_of_getElem? (i := 84) rfl)) (hw _ (List.mem_of_getElem? (i := 21) rfl)) (hw _ (List.mem_of_getElem? (i := 22) rfl)) eT (by rw [hml]; rfl) (hb hby d11_1) (by decide) 0 (Nat.le_of_eq rfl) (by decide) ?_
  intro T X eT
  show Go p e below _ _ T (mkF m 4 #[.val (.ref a), .val (.ref ps), .val (.ref t), .val (.int n), .val (.ref nm)] [])
  refine Go.of (fun _ kq => XS.aloadN X.here hx rfl (hb hby d11_4) rfl rfl kq) ?_
  show Go p e below _ _ T (mkF m 5 #[.val (.ref a), .val (.ref ps), .val (.ref t), .val (.int n), .val (.ref nm)] [(.ref a)])
  refine Go.of (fun _ kq => XS.iconst X.here hx rfl (hb hby d11_5) kq) ?_
  show Go p e below _ _ T (mkF m 6 #[.val (.ref a), .val (.ref ps), .val (.ref t), .val (.int n), .val (.ref nm)] [(.int (1 : Int32)), (.ref a)])
  refine Go.putF X hx hZ hown (hw _ (List.mem_of_getElem? (i := 85) rfl)) Via.refl eT F_line_a E_a (Or.inl (hw _ (List.mem_of_getElem? (i := 86) rfl))) (hw _ (List.mem_of_getElem? (i := 4) rfl)) (ty := .int) (by decide) rfl rfl (hb hby d11_6) ?_
  intro T h X eT wr
  have N := Fr.snoc X N g_a
  have K := K.wr wr (Or.inl (List.mem_of_getElem? (i := 0) rfl))
  have E_a := E_a.wr wr
  have F_line_a := F_line_a.same wr
  have F_documentationBounds_a := F_documentationBounds_a.other wr (Or.inr (slot_ne (Or.inl (hw _ (List.mem_of_getElem? (i := 89) rfl))) (Or.inl (hw _ (List.mem_of_getElem? (i := 86) rfl))) (by decide) (t := (.array .int)) (t' := .int) (by decide) (by decide)))
  have F_countedLineStart_a := F_countedLineStart_a.other wr (Or.inr (slot_ne (Or.inl (hw _ (List.mem_of_getElem? (i := 91) rfl))) (Or.inl (hw _ (List.mem_of_getElem? (i := 86) rfl))) (by decide) (t := .int) (t' := .int) (by decide) (by decide)))
  have F_path_a := F_path_a.other wr (Or.inr (slot_ne (Or.inr (hw _ (List.mem_of_getElem? (i := 93) rfl))) (Or.inl (hw _ (List.mem_of_getElem? (i := 86) rfl))) (by decide) (t := (.object "java/lang/String")) (t' := .int) (by decide) (by decide)))
  have F_text_a := F_text_a.other wr (Or.inr (slot_ne (Or.inr (hw _ (List.mem_of_getElem? (i := 95) rfl))) (Or.inl (hw _ (List.mem_of_getElem? (i := 86) rfl))) (by decide) (t := (.array .char)) (t' := .int) (by decide) (by decide)))
  have F_textLength_a := F_textLength_a.other wr (Or.inr (slot_ne (Or.inr (hw _ (List.mem_of_getElem? (i := 97) rfl))) (Or.inl (hw _ (List.mem_of_getElem? (i := 86) rfl))) (by decide) (t := .int) (t' := .int) (by decide) (by decide)))
  have F_names_a := F_names_a.other wr (Or.inr (slot_ne (Or.inr (hw _ (List.mem_of_getElem? (i := 99) rfl))) (Or.inl (hw _ (List.mem_of_getElem? (i := 86) rfl))) (by decide) (t := (.object "com/example/text_to_shapes/texttoshapes/idl/Names")) (t' := .int) (by decide) (by decide)))
  have F_offset_a := F_offset_a.other wr (Or.inr (slot_ne (Or.inl (hw _ (List.mem_of_getElem? (i := 129) rfl))) (Or.inl (hw _ (List.mem_of_getElem? (i := 86) rfl))) (by decide) (t := .int) (t' := .int) (by decide) (by decide)))
  have F_lineStart_a := F_lineStart_a.other wr (Or.inr (slot_ne (Or.inl (hw _ (List.mem_of_getElem? (i := 141) rfl))) (Or.inl (hw _ (List.mem_of_getElem? (i := 86) rfl))) (by decide) (t := .int) (t' := .int) (by decide) (by decide)))
  show Go p e below _ _ T (mkF m 9 #[.val (.ref a), .val (.ref ps), .val (.ref t), .val (.int n), .val (.ref nm)] [])
  refine Go.of (fun _ kq => XS.aloadN X.here hx rfl (hb hby d11_9) rfl rfl kq) ?_
  show Go p e below _ _ T (mkF m 10 #[.val (.ref a), .val (.ref ps), .val (.ref t), .val (.int n), .val (.ref nm)] [(.ref a)])
  refine Go.of (fun _ kq => XS.bipush X.here hx rfl (hb hby d11_10) kq) ?_
  show Go p e below _ _ T (mkF m 12 #[.val (.ref a), .val (.ref ps), .val (.ref t), .val (.int n), .val (.ref nm)] [(.int (8 : Int32)), (.ref a)])
  refine Go.newP X hx hZ (hw _ (List.mem_of_getElem? (i := 87) rfl)) eT (hb hby d11_12) (by decide) 8 (by decide) (by decide) (by decide) (by decide) ?_
  intro T h b12 X eT E ha V_b12
  have ne_a_b12 : a ≠ b12 := by rw [ha]; exact Nat.ne_of_lt E_a.lt
  have z_b12 : h0.size ≤ b12 := by rw [ha]; exact K.1
  have g_b12 : n0 ≤ b12 := Nat.le_trans Z0 z_b12
  have K := K.ext E
  have E_a := E_a.ext E
  have F_line_a := F_line_a.ext E
  have F_documentationBounds_a := F_documentationBounds_a.ext E
  have F_countedLineStart_a := F_countedLineStart_a.ext E
  have F_path_a := F_path_a.ext E
  have F_text_a := F_text_a.ext E
  have F_textLength_a := F_textLength_a.ext E
  have F_names_a := F_names_a.ext E
  have F_offset_a := F_offset_a.ext E
  have F_lineStart_a := F_lineStart_a.ext E
  have V_b12 : AV Z h b12 .int 8 (fun _ => .int 0) := V_b12
  show Go p e below _ _ T (mkF m 14 #[.val (.ref a), .val (.ref ps), .val (.ref t), .val (.int n), .val (.ref nm)] [(.ref b12), (.ref a)])
  refine Go.putF X hx hZ hown (hw _ (List.mem_of_getElem? (i := 88) rfl)) Via.refl eT F_documentationBounds_a E_a (Or.inl (hw _ (List.mem_of_getElem? (i := 89) rfl))) (hw _ (List.mem_of_getElem? (i := 4) rfl)) (ty := (.array .int)) (by decide) rfl rfl (hb hby d11_14) ?_
  intro T h X eT wr
  have N := Fr.snoc X N g_a
  have K := K.wr wr (Or.inl (List.mem_of_getElem? (i := 0) rfl))
  have E_a := E_a.wr wr
  have F_line_a := F_line_a.other wr (Or.inr (slot_ne (Or.inl (hw _ (List.mem_of_getElem? (i := 86) rfl))) (Or.inl (hw _ (List.mem_of_getElem? (i := 89) rfl))) (by decide) (t := .int) (t' := (.array .int)) (by decide) (by decide)))
  have F_documentationBounds_a := F_documentationBounds_a.same wr
  have F_countedLineStart_a := F_countedLineStart_a.other wr (Or.inr (slot_ne (Or.inl (hw _ (List.mem_of_getElem? (i := 91) rfl))) (Or.inl (hw _ (List.mem_of_getElem? (i := 89) rfl))) (by decide) (t := .int) (t' := (.array .int)) (by decide) (by decide)))
  have F_path_a := F_path_a.other wr (Or.inr (slot_ne (Or.inr (hw _ (List.mem_of_getElem? (i := 93) rfl))) (Or.inl (hw _ (List.mem_of_getElem? (i := 89) rfl))) (by decide) (t := (.object "java/lang/String")) (t' := (.array .int)) (by decide) (by decide)))
  have F_text_a := F_text_a.other wr (Or.inr (slot_ne (Or.inr (hw _ (List.mem_of_getElem? (i := 95) rfl))) (Or.inl (hw _ (List.mem_of_getElem? (i := 89) rfl))) (by decide) (t := (.array .char)) (t' := (.array .int)) (by decide) (by decide)))
  have F_textLength_a := F_textLength_a.other wr (Or.inr (slot_ne (Or.inr (hw _ (List.mem_of_getElem? (i := 97) rfl))) (Or.inl (hw _ (List.mem_of_getElem? (i := 89) rfl))) (by decide) (t := .int) (t' := (.array .int)) (by decide) (by decide)))
  have F_names_a := F_names_a.other wr (Or.inr (slot_ne (Or.inr (hw _ (List.mem_of_getElem? (i := 99) rfl))) (Or.inl (hw _ (List.mem_of_getElem? (i := 89) rfl))) (by decide) (t := (.object "com/example/text_to_shapes/texttoshapes/idl/Names")) (t' := (.array .int)) (by decide) (by decide)))
  have F_offset_a := F_offset_a.other wr (Or.inr (slot_ne (Or.inl (hw _ (List.mem_of_getElem? (i := 129) rfl))) (Or.inl (hw _ (List.mem_of_getElem? (i := 89) rfl))) (by decide) (t := .int) (t' := (.array .int)) (by decide) (by decide)))
  have F_lineStart_a := F_lineStart_a.other wr (Or.inr (slot_ne (Or.inl (hw _ (List.mem_of_getElem? (i := 141) rfl))) (Or.inl (hw _ (List.mem_of_getElem? (i := 89) rfl))) (by decide) (t := .int) (t' := (.array .int)) (by decide) (by decide)))
  have V_b12 := V_b12.other wr (Ne.symm ne_a_b12)
  show Go p e below _ _ T (mkF m 17 #[.val (.ref a), .val (.ref ps), .val (.ref t), .val (.int n), .val (.ref nm)] [])
  refine Go.of (fun _ kq => XS.aloadN X.here hx rfl (hb hby d11_17) rfl rfl kq) ?_
  show Go p e below _ _ T (mkF m 18 #[.val (.ref a), .val (.ref ps), .val (.ref t), .val (.int n), .val (.ref nm)] [(.ref a)])
  refine Go.of (fun _ kq => XS.iconst X.here hx rfl (hb hby d11_18) kq) ?_
  show Go p e below _ _ T (mkF m 19 #[.val (.ref a), .val (.ref ps), .val (.ref t), .val (.int n), .val (.ref nm)] [(.int (-1 : Int32)), (.ref a)])
  refine Go.putF X hx hZ hown (hw _ (List.mem_of_getElem? (i := 90) rfl)) Via.refl eT F_countedLineStart_a E_a (Or.inl (hw _ (List.mem_of_getElem? (i := 91) rfl))) (hw _ (List.mem_of_getElem? (i := 4) rfl)) (ty := .int) (by decide) rfl rfl (hb hby d11_19) ?_
  intro T h X eT wr
  have N := Fr.snoc X N g_a
  have K := K.wr wr (Or.inl (List.mem_of_getElem? (i := 0) rfl))
  have E_a := E_a.wr wr
  have F_line_a := F_line_a.other wr (Or.inr (slot_ne (Or.inl (hw _ (List.mem_of_getElem? (i := 86) rfl))) (Or.inl (hw _ (List.mem_of_getElem? (i := 91) rfl))) (by decide) (t := .int) (t' := .int) (by decide) (by decide)))
  have F_countedLineStart_a := F_countedLineStart_a.same wr
  have F_path_a := F_path_a.other wr (Or.inr (slot_ne (Or.inr (hw _ (List.mem_of_getElem? (i := 93) rfl))) (Or.inl (hw _ (List.mem_of_getElem? (i := 91) rfl))) (by decide) (t := (.object "java/lang/String")) (t' := .int) (by decide) (by decide)))
  have F_text_a := F_text_a.other wr (Or.inr (slot_ne (Or.inr (hw _ (List.mem_of_getElem? (i := 95) rfl))) (Or.inl (hw _ (List.mem_of_getElem? (i := 91) rfl))) (by decide) (t := (.array .char)) (t' := .int) (by decide) (by decide)))
  have F_textLength_a := F_textLength_a.other wr (Or.inr (slot_ne (Or.inr (hw _ (List.mem_of_getElem? (i := 97) rfl))) (Or.inl (hw _ (List.mem_of_getElem? (i := 91) rfl))) (by decide) (t := .int) (t' := .int) (by decide) (by decide)))
  have F_names_a := F_names_a.other wr (Or.inr (slot_ne (Or.inr (hw _ (List.mem_of_getElem? (i := 99) rfl))) (Or.inl (hw _ (List.mem_of_getElem? (i := 91) rfl))) (by decide) (t := (.object "com/example/text_to_shapes/texttoshapes/idl/Names")) (t' := .int) (by decide) (by decide)))
  have F_offset_a := F_offset_a.other wr (Or.inr (slot_ne (Or.inl (hw _ (List.mem_of_getElem? (i := 129) rfl))) (Or.inl (hw _ (List.mem_of_getElem? (i := 91) rfl))) (by decide) (t := .int) (t' := .int) (by decide) (by decide)))
  have F_lineStart_a := F_lineStart_a.other wr (Or.inr (slot_ne (Or.inl (hw _ (List.mem_of_getElem? (i := 141) rfl))) (Or.inl (hw _ (List.mem_of_getElem? (i := 91) rfl))) (by decide) (t := .int) (t' := .int) (by decide) (by decide)))
  show Go p e below _ _ T (mkF m 22 #[.val (.ref a), .val (.ref ps), .val (.ref t), .val (.int n), .val (.ref nm)] [])
  refine Go.of (fun _ kq => XS.aloadN X.here hx rfl (hb hby d11_22) rfl rfl kq) ?_
  show Go p e below _ _ T (mkF m 23 #[.val (.ref a), .val (.ref ps), .val (.ref t), .val (.int n), .val (.ref nm)] [(.ref a)])
  refine Go.of (fun _ kq => XS.aloadN X.here hx rfl (hb hby d11_23) rfl rfl kq) ?_
  show Go p e below _ _ T (mkF m 24 #[.val (.ref a), .val (.ref ps), .val (.ref t), .val (.int n), .val (.ref nm)] [(.ref ps), (.ref a)])
  refine Go.putF X hx hZ hown (hw _ (List.mem_of_getElem? (i := 92) rfl)) Via.refl eT F_path_a E_a (Or.inr ⟨(hw _ (List.mem_of_getElem? (i := 93) rfl)), rfl, hnm⟩) (hw _ (List.mem_of_getElem? (i := 4) rfl)) (ty := (.object "java/lang/String")) (by decide) rfl rfl (hb hby d11_24) ?_
  intro T h X eT wr
  have N := Fr.snoc X N g_a
  have K := K.wr wr (Or.inl (List.mem_of_getElem? (i := 0) rfl))
  have E_a := E_a.wr wr
  have F_line_a := F_line_a.other wr (Or.inr (slot_ne (Or.inl (hw _ (List.mem_of_getElem? (i := 86) rfl))) (Or.inr (hw _ (List.mem_of_getElem? (i := 93) rfl))) (by decide) (t := .int) (t' := (.object "java/lang/String")) (by decide) (by decide)))
  have F_path_a := F_path_a.same wr
  have F_text_a := F_text_a.other wr (Or.inr (slot_ne (Or.inr (hw _ (List.mem_of_getElem? (i := 95) rfl))) (Or.inr (hw _ (List.mem_of_getElem? (i := 93) rfl))) (by decide) (t := (.array .char)) (t' := (.object "java/lang/String")) (by decide) (by decide)))
  have F_textLength_a := F_textLength_a.other wr (Or.inr (slot_ne (Or.inr (hw _ (List.mem_of_getElem? (i := 97) rfl))) (Or.inr (hw _ (List.mem_of_getElem? (i := 93) rfl))) (by decide) (t := .int) (t' := (.object "java/lang/String")) (by decide) (by decide)))
  have F_names_a := F_names_a.other wr (Or.inr (slot_ne (Or.inr (hw _ (List.mem_of_getElem? (i := 99) rfl))) (Or.inr (hw _ (List.mem_of_getElem? (i := 93) rfl))) (by decide) (t := (.object "com/example/text_to_shapes/texttoshapes/idl/Names")) (t' := (.object "java/lang/String")) (by decide) (by decide)))
  have F_offset_a := F_offset_a.other wr (Or.inr (slot_ne (Or.inl (hw _ (List.mem_of_getElem? (i := 129) rfl))) (Or.inr (hw _ (List.mem_of_getElem? (i := 93) rfl))) (by decide) (t := .int) (t' := (.object "java/lang/String")) (by decide) (by decide)))
  have F_lineStart_a := F_lineStart_a.other wr (Or.inr (slot_ne (Or.inl (hw _ (List.mem_of_getElem? (i := 141) rfl))) (Or.inr (hw _ (List.mem_of_getElem? (i := 93) rfl))) (by decide) (t := .int) (t' := (.object "java/lang/String")) (by decide) (by decide)))
  show Go p e below _ _ T (mkF m 27 #[.val (.ref a), .val (.ref ps), .val (.ref t), .val (.int n), .val (.ref nm)] [])
  refine Go.of (fun _ kq => XS.aloadN X.here hx rfl (hb hby d11_27) rfl rfl kq) ?_
  show Go p e below _ _ T (mkF m 28 #[.val (.ref a), .val (.ref ps), .val (.ref t), .val (.int n), .val (.ref nm)] [(.ref a)])
  refine Go.of (fun _ kq => XS.aloadN X.here hx rfl (hb hby d11_28) rfl rfl kq) ?_
  show Go p e below _ _ T (mkF m 29 #[.val (.ref a), .val (.ref ps), .val (.ref t), .val (.int n), .val (.ref nm)] [(.ref t), (.ref a)])
  refine Go.putF X hx hZ hown (hw _ (List.mem_of_getElem? (i := 94) rfl)) Via.refl eT F_text_a E_a (Or.inr ⟨(hw _ (List.mem_of_getElem? (i := 95) rfl)), rfl, hnm⟩) (hw _ (List.mem_of_getElem? (i := 4) rfl)) (ty := (.array .char)) (by decide) rfl rfl (hb hby d11_29) ?_
  intro T h X eT wr
  have N := Fr.snoc X N g_a
  have K := K.wr wr (Or.inl (List.mem_of_getElem? (i := 0) rfl))
  have E_a := E_a.wr wr
  have F_line_a := F_line_a.other wr (Or.inr (slot_ne (Or.inl (hw _ (List.mem_of_getElem? (i := 86) rfl))) (Or.inr (hw _ (List.mem_of_getElem? (i := 95) rfl))) (by decide) (t := .int) (t' := (.array .char)) (by decide) (by decide)))
  have F_text_a := F_text_a.same wr
  have F_textLength_a := F_textLength_a.other wr (Or.inr (slot_ne (Or.inr (hw _ (List.mem_of_getElem? (i := 97) rfl))) (Or.inr (hw _ (List.mem_of_getElem? (i := 95) rfl))) (by decide) (t := .int) (t' := (.array .char)) (by decide) (by decide)))
  have F_names_a := F_names_a.other wr (Or.inr (slot_ne (Or.inr (hw _ (List.mem_of_getElem? (i := 99) rfl))) (Or.inr (hw _ (List.mem_of_getElem? (i := 95) rfl))) (by decide) (t := (.object "com/example/text_to_shapes/texttoshapes/idl/Names")) (t' := (.array .char)) (by decide) (by decide)))
  have F_offset_a := F_offset_a.other wr (Or.inr (slot_ne (Or.inl (hw _ (List.mem_of_getElem? (i := 129) rfl))) (Or.inr (hw _ (List.mem_of_getElem? (i := 95) rfl))) (by decide) (t := .int) (t' := (.array .char)) (by decide) (by decide)))
  have F_lineStart_a := F_lineStart_a.other wr (Or.inr (slot_ne (Or.inl (hw _ (List.mem_of_getElem? (i := 141) rfl))) (Or.inr (hw _ (List.mem_of_getElem? (i := 95) rfl))) (by decide) (t := .int) (t' := (.array .char)) (by decide) (by decide)))
  show Go p e below _ _ T (mkF m 32 #[.val (.ref a), .val (.ref ps), .val (.ref t), .val (.int n), .val (.ref nm)] [])
  refine Go.of (fun _ kq => XS.aloadN X.here hx rfl (hb hby d11_32) rfl rfl kq) ?_
  show Go p e below _ _ T (mkF m 33 #[.val (.ref a), .val (.ref ps), .val (.ref t), .val (.int n), .val (.ref nm)] [(.ref a)])
  refine Go.of (fun _ kq => XS.iloadN X.here hx rfl (hb hby d11_33) rfl kq) ?_
  show Go p e below _ _ T (mkF m 34 #[.val (.ref a), .val (.ref ps), .val (.ref t), .val (.int n), .val (.ref nm)] [(.int n), (.ref a)])
  refine Go.putF X hx hZ hown (hw _ (List.mem_of_getElem? (i := 96) rfl)) Via.refl eT F_textLength_a E_a (Or.inr ⟨(hw _ (List.mem_of_getElem? (i := 97) rfl)), rfl, hnm⟩) (hw _ (List.mem_of_getElem? (i := 4) rfl)) (ty := .int) (by decide) rfl rfl (hb hby d11_34) ?_
  intro T h X eT wr
  have N := Fr.snoc X N g_a
  have K := K.wr wr (Or.inl (List.mem_of_getElem? (i := 0) rfl))
  have E_a := E_a.wr wr
  have F_line_a := F_line_a.other wr (Or.inr (slot_ne (Or.inl (hw _ (List.mem_of_getElem? (i := 86) rfl))) (Or.inr (hw _ (List.mem_of_getElem? (i := 97) rfl))) (by decide) (t := .int) (t' := .int) (by decide) (by decide)))
  have F_text_a := F_text_a.other wr (Or.inr (slot_ne (Or.inr (hw _ (List.mem_of_getElem? (i := 95) rfl))) (Or.inr (hw _ (List.mem_of_getElem? (i := 97) rfl))) (by decide) (t := (.array .char)) (t' := .int) (by decide) (by decide)))
  have F_textLength_a := F_textLength_a.same wr
  have F_names_a := F_names_a.other wr (Or.inr (slot_ne (Or.inr (hw _ (List.mem_of_getElem? (i := 99) rfl))) (Or.inr (hw _ (List.mem_of_getElem? (i := 97) rfl))) (by decide) (t := (.object "com/example/text_to_shapes/texttoshapes/idl/Names")) (t' := .int) (by decide) (by decide)))
  have F_offset_a := F_offset_a.other wr (Or.inr (slot_ne (Or.inl (hw _ (List.mem_of_getElem? (i := 129) rfl))) (Or.inr (hw _ (List.mem_of_getElem? (i := 97) rfl))) (by decide) (t := .int) (t' := .int) (by decide) (by decide)))
  have F_lineStart_a := F_lineStart_a.other wr (Or.inr (slot_ne (Or.inl (hw _ (List.mem_of_getElem? (i := 141) rfl))) (Or.inr (hw _ (List.mem_of_getElem? (i := 97) rfl))) (by decide) (t := .int) (t' := .int) (by decide) (by decide)))
  show Go p e below _ _ T (mkF m 37 #[.val (.ref a), .val (.ref ps), .val (.ref t), .val (.int n), .val (.ref nm)] [])
  refine Go.of (fun _ kq => XS.aloadN X.here hx rfl (hb hby d11_37) rfl rfl kq) ?_
  show Go p e below _ _ T (mkF m 38 #[.val (.ref a), .val (.ref ps), .val (.ref t), .val (.int n), .val (.ref nm)] [(.ref a)])
  refine Go.of (fun _ kq => XS.aload X.here hx rfl (hb hby d11_38) rfl rfl kq) ?_
  show Go p e below _ _ T (mkF m 40 #[.val (.ref a), .val (.ref ps), .val (.ref t), .val (.int n), .val (.ref nm)] [(.ref nm), (.ref a)])
  refine Go.putF X hx hZ hown (hw _ (List.mem_of_getElem? (i := 98) rfl)) Via.refl eT F_names_a E_a (Or.inr ⟨(hw _ (List.mem_of_getElem? (i := 99) rfl)), rfl, hnm⟩) (hw _ (List.mem_of_getElem? (i := 4) rfl)) (ty := (.object "com/example/text_to_shapes/texttoshapes/idl/Names")) (by decide) rfl rfl (hb hby d11_40) ?_
  intro T h X eT wr
  have N := Fr.snoc X N g_a
  have K := K.wr wr (Or.inl (List.mem_of_getElem? (i := 0) rfl))
  have E_a := E_a.wr wr
  have F_line_a := F_line_a.other wr (Or.inr (slot_ne (Or.inl (hw _ (List.mem_of_getElem? (i := 86) rfl))) (Or.inr (hw _ (List.mem_of_getElem? (i := 99) rfl))) (by decide) (t := .int) (t' := (.object "com/example/text_to_shapes/texttoshapes/idl/Names")) (by decide) (by decide)))
  have F_text_a := F_text_a.other wr (Or.inr (slot_ne (Or.inr (hw _ (List.mem_of_getElem? (i := 95) rfl))) (Or.inr (hw _ (List.mem_of_getElem? (i := 99) rfl))) (by decide) (t := (.array .char)) (t' := (.object "com/example/text_to_shapes/texttoshapes/idl/Names")) (by decide) (by decide)))
  have F_textLength_a := F_textLength_a.other wr (Or.inr (slot_ne (Or.inr (hw _ (List.mem_of_getElem? (i := 97) rfl))) (Or.inr (hw _ (List.mem_of_getElem? (i := 99) rfl))) (by decide) (t := .int) (t' := (.object "com/example/text_to_shapes/texttoshapes/idl/Names")) (by decide) (by decide)))
  have F_names_a := F_names_a.same wr
  have F_offset_a := F_offset_a.other wr (Or.inr (slot_ne (Or.inl (hw _ (List.mem_of_getElem? (i := 129) rfl))) (Or.inr (hw _ (List.mem_of_getElem? (i := 99) rfl))) (by decide) (t := .int) (t' := (.object "com/example/text_to_shapes/texttoshapes/idl/Names")) (by decide) (by decide)))
  have F_lineStart_a := F_lineStart_a.other wr (Or.inr (slot_ne (Or.inl (hw _ (List.mem_of_getElem? (i := 141) rfl))) (Or.inr (hw _ (List.mem_of_getElem? (i := 99) rfl))) (by decide) (t := .int) (t' := (.object "com/example/text_to_shapes/texttoshapes/idl/Names")) (by decide) (by decide)))
  show Go p e below _ _ T (mkF m 43 #[.val (.ref a), .val (.ref ps), .val (.ref t), .val (.int n), .val (.ref nm)] [])
  refine Go.retV X hx hret hlk (hb hby d11_43) (fun _ _ q _ => own_fin q (by decide) (by decide)) ?_
  try rw [eT]
  exact ⟨rfl, N, K, F_text_a, F_textLength_a, F_offset_a, F_line_a, F_lineStart_a⟩
theorem d12_0 : decode prog_38_method_1_code 0 = .ok (.aload_n 0, 1) := by decide +kernel
theorem d12_1 : decode prog_38_method_1_code 1 = .ok (.invokespecial 1, 3) := by decide +kernel
theorem d12_4 : decode prog_38_method_1_code 4 = .ok (.aload_n 0, 1) := by decide +kernel
theorem d12_5 : decode prog_38_method_1_code 5 = .ok (.iload_n 1, 1) := by decide +kernel
theorem d12_6 : decode prog_38_method_1_code 6 = .ok (.putfield 7, 3) := by decide +kernel
theorem d12_9 : decode prog_38_method_1_code 9 = .ok (.aload_n 0, 1) := by decide +kernel
theorem d12_10 : decode prog_38_method_1_code 10 = .ok (.iload_n 2, 1) := by decide +kernel
theorem d12_11 : decode prog_38_method_1_code 11 = .ok (.putfield 13, 3) := by decide +kernel
theorem d12_14 : decode prog_38_method_1_code 14 = .ok (.aload_n 0, 1) := by decide +kernel
theorem d12_15 : decode prog_38_method_1_code 15 = .ok (.iload_n 3, 1) := by decide +kernel
theorem d12_16 : decode prog_38_method_1_code 16 = .ok (.putfield 16, 3) := by decide +kernel
theorem d12_19 : decode prog_38_method_1_code 19 = .ok (.return_, 1) := by decide +kernel
theorem pn12 : plainFor (⟨"com/example/text_to_shapes/texttoshapes/idl/SourceReader$Mark", "<init>", "(III)V"⟩ : MethodName) = true := plainFor_of_name (by first | (simp [plainName, overriddenIn]; done) | decide +kernel)
theorem ef_rmMkI (m : MethodId) (x0 : Addr) (x1 : Int32) (x2 : Int32) (x3 : Int32) : entryFrame m #[(.ref x0), (.int x1), (.int x2), (.int x3)] 4 = mkF m 0 #[.val (.ref x0), .val (.int x1), .val (.int x2), .val (.int x3)] [] := by first | (simp [entryFrame, mkF, argsToLocals, Value.category]; done) | rfl
set_option maxRecDepth 65536 in
set_option maxHeartbeats 40000000 in
theorem rmMkI {l : Launch} {Z : State} {a0 : Array Value} (hw : ∀ d ∈ tables_1, d.before a0 Z = true) (a : Addr) (p1 p2 p3 : Int32) (h0 : Heap) (n0 : Nat) (Z0 : n0 ≤ h0.size) (g_a : n0 ≤ a) (E_a : Exa Z h0 a "com/example/text_to_shapes/texttoshapes/idl/SourceReader$Mark") (F_offset_a : Fld Z h0 a "com/example/text_to_shapes/texttoshapes/idl/SourceReader$Mark" "offset" "I" (.int (0 : Int32))) (F_line_a : Fld Z h0 a "com/example/text_to_shapes/texttoshapes/idl/SourceReader$Mark" "line" "I" (.int (0 : Int32))) (F_lineStart_a : Fld Z h0 a "com/example/text_to_shapes/texttoshapes/idl/SourceReader$Mark" "lineStart" "I" (.int (0 : Int32))) :
    Met l Z (⟨"com/example/text_to_shapes/texttoshapes/idl/SourceReader$Mark", "<init>", "(III)V"⟩ : MethodName) prog_38_method_1_code 4 none [] ({ frames := 2, cells := 0, slots := 0, locals := 24 } : Room) #[(.ref a), (.int p1), (.int p2), (.int p3)] h0 (fun v h L => v = none ∧ Fr n0 L ∧ Keep h0 h [a] ∧ Fld Z h a "com/example/text_to_shapes/texttoshapes/idl/SourceReader$Mark" "offset" "I" (.int p1) ∧ Fld Z h a "com/example/text_to_shapes/texttoshapes/idl/SourceReader$Mark" "line" "I" (.int p2) ∧ Fld Z h a "com/example/text_to_shapes/texttoshapes/idl/SourceReader$Mark" "lineStart" "I" (.int p3)) := by
  refine Met.mk pn12 ?_
  intro p e s m below meth c T hx hby hml hown hnm hret hlk hZ X eT
  refine Go.cast (ef_rmMkI m a p1 p2 p3) ?_
  have N := Fr.nil n0
  have K := Keep.refl h0 [a]
  show Go p e below _ _ T (mkF m 0 #[.val (.ref a), .val (.int p1), .val (.int p2), .val (.int p3)] [])
  refine Go.of (fun _ kq => XS.aloadN X.here hx rfl (hb hby d12_0) rfl rfl kq) ?_
  show Go p e below _ _ T (mkF m 1 #[.val (.ref a), .val (.int p1), .val (.int p2), .val (.int p3)] [(.ref a)])
  refine Go.special (a := a) X hx hZ hown rfl (hw _ (List.mem_of_getElem? (i := 106) rfl)) (hw _ (List.mem_of_getElem? (i := 107) rfl)) (hw _ (List.mem_of_getElem? (i := 109) rfl)) (hw _ (List.mem_of_getElem? (i := 110) rfl)) (by decide) (rmRec hw a _ n0) eT 0 (by decide) (by decide) (by decide) (by decide) (by rw [hml]; rfl) (argsL := []) [] (lenOf pd1 rfl) rfl rfl (Nat.le_of_eq rfl) (hb hby d12_1) ?_
  intro v T L' X hQ
  obtain ⟨rfl, N', eT⟩ := hQ
  have N := Fr.app N N'
  show Go p e below _ _ T (mkF m 4 #[.val (.ref a), .val (.int p1), .val (.int p2), .val (.int p3)] [])
  refine Go.of (fun _ kq => XS.aloadN X.here hx rfl (hb hby d12_4) rfl rfl kq) ?_
  show Go p e below _ _ T (mkF m 5 #[.val (.ref a), .val (.int p1), .val (.int p2), .val (.int p3)] [(.ref a)])
  refine Go.of (fun _ kq => XS.iloadN X.here hx rfl (hb hby d12_5) rfl kq) ?_
  show Go p e below _ _ T (mkF m 6 #[.val (.ref a), .val (.int p1), .val (.int p2), .val (.int p3)] [(.int p1), (.ref a)])
  refine Go.putF X hx hZ hown (hw _ (List.mem_of_getElem? (i := 112) rfl)) Via.refl eT F_offset_a E_a (Or.inr ⟨(hw _ (List.mem_of_getElem? (i := 113) rfl)), rfl, hnm⟩) (hw _ (List.mem_of_getElem? (i := 101) rfl)) (ty := .int) (by decide) rfl rfl (hb hby d12_6) ?_
  intro T h X eT wr
  have N := Fr.snoc X N g_a
  have K := K.wr wr (Or.inl (List.mem_of_getElem? (i := 0) rfl))
  have E_a := E_a.wr wr
  have F_offset_a := F_offset_a.same wr
  have F_line_a := F_line_a.other wr (Or.inr (slot_ne (Or.inr (hw _ (List.mem_of_getElem? (i := 115) rfl))) (Or.inr (hw _ (List.mem_of_getElem? (i := 113) rfl))) (by decide) (t := .int) (t' := .int) (by decide) (by decide)))
  have F_lineStart_a := F_lineStart_a.other wr (Or.inr (slot_ne (Or.inr (hw _ (List.mem_of_getElem? (i := 117) rfl))) (Or.inr (hw _ (List.mem_of_getElem? (i := 113) rfl))) (by decide) (t := .int) (t' := .int) (by decide) (by decide)))
  show Go p e below _ _ T (mkF m 9 #[.val (.ref a), .val (.int p1), .val (.int p2), .val (.int p3)] [])
  refine Go.of (fun _ kq => XS.aloadN X.here hx rfl (hb hby d12_9) rfl rfl kq) ?_
  show Go p e below _ _ T (mkF m 10 #[.val (.ref a), .val (.int p1), .val (.int p2), .val (.int p3)] [(.ref a)])
  refine Go.of (fun _ kq => XS.iloadN X.here hx rfl (hb hby d12_10) rfl kq) ?_
  show Go p e below _ _ T (mkF m 11 #[.val (.ref a), .val (.int p1), .val (.int p2), .val (.int p3)] [(.int p2), (.ref a)])
  refine Go.putF X hx hZ hown (hw _ (List.mem_of_getElem? (i := 114) rfl)) Via.refl eT F_line_a E_a (Or.inr ⟨(hw _ (List.mem_of_getElem? (i := 115) rfl)), rfl, hnm⟩) (hw _ (List.mem_of_getElem? (i := 101) rfl)) (ty := .int) (by decide) rfl rfl (hb hby d12_11) ?_
  intro T h X eT wr
  have N := Fr.snoc X N g_a
  have K := K.wr wr (Or.inl (List.mem_of_getElem? (i := 0) rfl))
  have E_a := E_a.wr wr
  have F_offset_a := F_offset_a.other wr (Or.inr (slot_ne (Or.inr (hw _ (List.mem_of_getElem? (i := 113) rfl))) (Or.inr (hw _ (List.mem_of_getElem? (i := 115) rfl))) (by decide) (t := .int) (t' := .int) (by decide) (by decide)))
  have F_line_a := F_line_a.same wr
  have F_lineStart_a := F_lineStart_a.other wr (Or.inr (slot_ne (Or.inr (hw _ (List.mem_of_getElem? (i := 117) rfl))) (Or.inr (hw _ (List.mem_of_getElem? (i := 115) rfl))) (by decide) (t := .int) (t' := .int) (by decide) (by decide)))
  show Go p e below _ _ T (mkF m 14 #[.val (.ref a), .val (.int p1), .val (.int p2), .val (.int p3)] [])
  refine Go.of (fun _ kq => XS.aloadN X.here hx rfl (hb hby d12_14) rfl rfl kq) ?_
  show Go p e below _ _ T (mkF m 15 #[.val (.ref a), .val (.int p1), .val (.int p2), .val (.int p3)] [(.ref a)])
  refine Go.of (fun _ kq => XS.iloadN X.here hx rfl (hb hby d12_15) rfl kq) ?_
  show Go p e below _ _ T (mkF m 16 #[.val (.ref a), .val (.int p1), .val (.int p2), .val (.int p3)] [(.int p3), (.ref a)])
  refine Go.putF X hx hZ hown (hw _ (List.mem_of_getElem? (i := 116) rfl)) Via.refl eT F_lineStart_a E_a (Or.inr ⟨(hw _ (List.mem_of_getElem? (i := 117) rfl)), rfl, hnm⟩) (hw _ (List.mem_of_getElem? (i := 101) rfl)) (ty := .int) (by decide) rfl rfl (hb hby d12_16) ?_
  intro T h X eT wr
  have N := Fr.snoc X N g_a
  have K := K.wr wr (Or.inl (List.mem_of_getElem? (i := 0) rfl))
  have E_a := E_a.wr wr
  have F_offset_a := F_offset_a.other wr (Or.inr (slot_ne (Or.inr (hw _ (List.mem_of_getElem? (i := 113) rfl))) (Or.inr (hw _ (List.mem_of_getElem? (i := 117) rfl))) (by decide) (t := .int) (t' := .int) (by decide) (by decide)))
  have F_line_a := F_line_a.other wr (Or.inr (slot_ne (Or.inr (hw _ (List.mem_of_getElem? (i := 115) rfl))) (Or.inr (hw _ (List.mem_of_getElem? (i := 117) rfl))) (by decide) (t := .int) (t' := .int) (by decide) (by decide)))
  have F_lineStart_a := F_lineStart_a.same wr
  show Go p e below _ _ T (mkF m 19 #[.val (.ref a), .val (.int p1), .val (.int p2), .val (.int p3)] [])
  refine Go.retV X hx hret hlk (hb hby d12_19) (fun _ _ q _ => own_fin q (by decide) (by decide)) ?_
  try rw [eT]
  exact ⟨rfl, N, K, F_offset_a, F_line_a, F_lineStart_a⟩
theorem d19_0 : decode prog_36_method_3_code 0 = .ok (.new 53, 3) := by decide +kernel
theorem d19_3 : decode prog_36_method_3_code 3 = .ok (.dup, 1) := by decide +kernel
theorem d19_4 : decode prog_36_method_3_code 4 = .ok (.aload_n 0, 1) := by decide +kernel
theorem d19_5 : decode prog_36_method_3_code 5 = .ok (.getfield 55, 3) := by decide +kernel
theorem d19_8 : decode prog_36_method_3_code 8 = .ok (.aload_n 0, 1) := by decide +kernel
theorem d19_9 : decode prog_36_method_3_code 9 = .ok (.getfield 27, 3) := by decide +kernel
theorem d19_12 : decode prog_36_method_3_code 12 = .ok (.aload_n 0, 1) := by decide +kernel
theorem d19_13 : decode prog_36_method_3_code 13 = .ok (.getfield 58, 3) := by decide +kernel
theorem d19_16 : decode prog_36_method_3_code 16 = .ok (.invokespecial 61, 3) := by decide +kernel
theorem d19_19 : decode prog_36_method_3_code 19 = .ok (.areturn, 1) := by decide +kernel
theorem pn19 : plainFor (⟨"com/example/text_to_shapes/texttoshapes/idl/SourceReader", "mark", "()Lcom/example/text_to_shapes/texttoshapes/idl/SourceReader$Mark;"⟩ : MethodName) = true := plainFor_of_name (by first | (simp [plainName, overriddenIn]; done) | decide +kernel)
theorem ef_rmMark (m : MethodId) (x0 : Addr) : entryFrame m #[(.ref x0)] 1 = mkF m 0 #[.val (.ref x0)] [] := by first | (simp [entryFrame, mkF, argsToLocals, Value.category]; done) | rfl
set_option maxRecDepth 65536 in
set_option maxHeartbeats 40000000 in
theorem rmMark {l : Launch} {Z : State} {a0 : Array Value} (hw : ∀ d ∈ tables_1, d.before a0 Z = true) (a : Addr) (o li ls : Int32) (h0 : Heap) (n0 : Nat) (Z0 : n0 ≤ h0.size) (F_offset_a : Fld Z h0 a "com/example/text_to_shapes/texttoshapes/idl/SourceReader" "offset" "I" (.int o)) (F_line_a : Fld Z h0 a "com/example/text_to_shapes/texttoshapes/idl/SourceReader" "line" "I" (.int li)) (F_lineStart_a : Fld Z h0 a "com/example/text_to_shapes/texttoshapes/idl/SourceReader" "lineStart" "I" (.int ls)) :
    Met l Z (⟨"com/example/text_to_shapes/texttoshapes/idl/SourceReader", "mark", "()Lcom/example/text_to_shapes/texttoshapes/idl/SourceReader$Mark;"⟩ : MethodName) prog_36_method_3_code 1 (some (.object "com/example/text_to_shapes/texttoshapes/idl/SourceReader$Mark")) [] ({ frames := 3, cells := 1, slots := 3, locals := 41 } : Room) #[(.ref a)] h0 (fun v h L => ∃ b : Addr, v = some (.ref b) ∧ Fr n0 L ∧ Keep h0 h [] ∧ h0.size ≤ b ∧ Exa Z h b "com/example/text_to_shapes/texttoshapes/idl/SourceReader$Mark" ∧ Fld Z h b "com/example/text_to_shapes/texttoshapes/idl/SourceReader$Mark" "offset" "I" (.int o) ∧ Fld Z h b "com/example/text_to_shapes/texttoshapes/idl/SourceReader$Mark" "line" "I" (.int li) ∧ Fld Z h b "com/example/text_to_shapes/texttoshapes/idl/SourceReader$Mark" "lineStart" "I" (.int ls)) := by
  refine Met.mk pn19 ?_
  intro p e s m below meth c T hx hby hml hown hnm hret hlk hZ X eT
  refine Go.cast (ef_rmMark m a) ?_
  have N := Fr.nil n0
  have K := Keep.refl h0 []
  show Go p e below _ _ T (mkF m 0 #[.val (.ref a)] [])
  refine Go.newO X hx hZ hown (hw _ (List.mem_of_getElem? (i := 152) rfl)) (hw _ (List.mem_of_getElem? (i := 101) rfl)) (hw _ (List.mem_of_getElem? (i := 102) rfl)) eT (hb hby d19_0) (by decide) (by decide) ?_
  intro T h b0 X eT E ha E_b0 D_b0
  have ne_a_b0 : a ≠ b0 := by rw [ha]; exact Nat.ne_of_lt F_offset_a.lt
  have z_b0 : h0.size ≤ b0 := by rw [ha]; exact K.1
  have g_b0 : n0 ≤ b0 := Nat.le_trans Z0 z_b0
  have K := K.ext E
  have F_offset_a := F_offset_a.ext E
  have F_line_a := F_line_a.ext E
  have F_lineStart_a := F_lineStart_a.ext E
  have F_offset_b0 : Fld Z h b0 "com/example/text_to_shapes/texttoshapes/idl/SourceReader$Mark" "offset" "I" (.int (0 : Int32)) := D_b0 (Or.inr (hw _ (List.mem_of_getElem? (i := 113) rfl))) (ty := .int) (by decide)
  have F_line_b0 : Fld Z h b0 "com/example/text_to_shapes/texttoshapes/idl/SourceReader$Mark" "line" "I" (.int (0 : Int32)) := D_b0 (Or.inr (hw _ (List.mem_of_getElem? (i := 115) rfl))) (ty := .int) (by decide)
  have F_lineStart_b0 : Fld Z h b0 "com/example/text_to_shapes/texttoshapes/idl/SourceReader$Mark" "lineStart" "I" (.int (0 : Int32)) := D_b0 (Or.inr (hw _ (List.mem_of_getElem? (i := 117) rfl))) (ty := .int) (by decide)
  show Go p e below _ _ T (mkF m 3 #[.val (.ref a)] [(.ref b0)])
  refine Go.of (fun _ kq => XS.dup X.here hx rfl (hb hby d19_3) rfl rfl kq) ?_
  show Go p e below _ _ T (mkF m 4 #[.val (.ref a)] [(.ref b0), (.ref b0)])
  refine Go.of (fun _ kq => XS.aloadN X.here hx rfl (hb hby d19_4) rfl rfl kq) ?_
  show Go p e below _ _ T (mkF m 5 #[.val (.ref a)] [(.ref a), (.ref b0), (.ref b0)])
  refine Go.getF X hx hZ hown (hw _ (List.mem_of_getElem? (i := 128) rfl)) Via.refl eT F_offset_a (hb hby d19_5) ?_
  intro T X eT
  show Go p e below _ _ T (mkF m 8 #[.val (.ref a)] [(.int o), (.ref b0), (.ref b0)])
  refine Go.of (fun _ kq => XS.aloadN X.here hx rfl (hb hby d19_8) rfl rfl kq) ?_
  show Go p e below _ _ T (mkF m 9 #[.val (.ref a)] [(.ref a), (.int o), (.ref b0), (.ref b0)])
  refine Go.getF X hx hZ hown (hw _ (List.mem_of_getElem? (i := 85) rfl)) Via.refl eT F_line_a (hb hby d19_9) ?_
  intro T X eT
  show Go p e below _ _ T (mkF m 12 #[.val (.ref a)] [(.int li), (.int o), (.ref b0), (.ref b0)])
  refine Go.of (fun _ kq => XS.aloadN X.here hx rfl (hb hby d19_12) rfl rfl kq) ?_
  show Go p e below _ _ T (mkF m 13 #[.val (.ref a)] [(.ref a), (.int li), (.int o), (.ref b0), (.ref b0)])
  refine Go.getF X hx hZ hown (hw _ (List.mem_of_getElem? (i := 140) rfl)) Via.refl eT F_lineStart_a (hb hby d19_13) ?_
  intro T X eT
  show Go p e below _ _ T (mkF m 16 #[.val (.ref a)] [(.int ls), (.int li), (.int o), (.ref b0), (.ref b0)])
  refine Go.special (a := b0) X hx hZ hown rfl (hw _ (List.mem_of_getElem? (i := 153) rfl)) (hw _ (List.mem_of_getElem? (i := 104) rfl)) (hw _ (List.mem_of_getElem? (i := 102) rfl)) (hw _ (List.mem_of_getElem? (i := 105) rfl)) (by decide) (rmMkI hw b0 o li ls _ n0 (Nat.le_trans Z0 K.1) g_b0 E_b0 F_offset_b0 F_line_b0 F_lineStart_b0) eT 1 (by decide) (by decide) (by decide) (by decide) (by rw [hml]; rfl) (argsL := [(.int o), (.int li), (.int ls)]) [(.ref b0)] (lenOf pd6 rfl) rfl rfl (Nat.le_of_eq rfl) (hb hby d19_16) ?_
  intro v T L' X hQ
  obtain ⟨h, eT⟩ : ∃ z, T.heap = z := ⟨_, rfl⟩
  rw [eT] at hQ
  obtain ⟨rfl, N', K', F_offset_b0, F_line_b0, F_lineStart_b0⟩ := hQ
  have N := Fr.app N N'
  have K := K.trans K' (own_all1 (Or.inr z_b0))
  have F_offset_a := F_offset_a.keep K' (own_ni1 ne_a_b0)
  have F_line_a := F_line_a.keep K' (own_ni1 ne_a_b0)
  have F_lineStart_a := F_lineStart_a.keep K' (own_ni1 ne_a_b0)
  have E_b0 := E_b0.keep K'
  show Go p e below _ _ T (mkF m 19 #[.val (.ref a)] [(.ref b0)])
  refine Go.retA X hx hret rfl rfl rfl hlk (hb hby d19_19) (fun _ _ q _ => own_fin q (by decide) (by decide)) ?_
  try rw [eT]
  exact ⟨b0, rfl, N, K, z_b0, E_b0, F_offset_b0, F_line_b0, F_lineStart_b0⟩
theorem d15_0 : decode prog_38_method_5_code 0 = .ok (.aload_n 0, 1) := by decide +kernel
theorem d15_1 : decode prog_38_method_5_code 1 = .ok (.getfield 7, 3) := by decide +kernel
theorem d15_4 : decode prog_38_method_5_code 4 = .ok (.ireturn, 1) := by decide +kernel
theorem pn15 : plainFor (⟨"com/example/text_to_shapes/texttoshapes/idl/SourceReader$Mark", "offset", "()I"⟩ : MethodName) = true := plainFor_of_name (by first | (simp [plainName, overriddenIn]; done) | decide +kernel)
theorem ef_rmM_offset (m : MethodId) (x0 : Addr) : entryFrame m #[(.ref x0)] 1 = mkF m 0 #[.val (.ref x0)] [] := by first | (simp [entryFrame, mkF, argsToLocals, Value.category]; done) | rfl
set_option maxRecDepth 65536 in
set_option maxHeartbeats 40000000 in
theorem rmM_offset {l : Launch} {Z : State} {a0 : Array Value} (hw : ∀ d ∈ tables_1, d.before a0 Z = true) (a : Addr) (p1 : Int32) (h0 : Heap) (n0 : Nat) (F_offset_a : Fld Z h0 a "com/example/text_to_shapes/texttoshapes/idl/SourceReader$Mark" "offset" "I" (.int p1)) :
    Met l Z (⟨"com/example/text_to_shapes/texttoshapes/idl/SourceReader$Mark", "offset", "()I"⟩ : MethodName) prog_38_method_5_code 1 (some .int) [] ({ frames := 0, cells := 0, slots := 0, locals := 0 } : Room) #[(.ref a)] h0 (fun v h L => v = some (.int p1) ∧ Fr n0 L ∧ h = h0) := by
  refine Met.mk pn15 ?_
  intro p e s m below meth c T hx hby hml hown hnm hret hlk hZ X eT
  refine Go.cast (ef_rmM_offset m a) ?_
  have N := Fr.nil n0
  show Go p e below _ _ T (mkF m 0 #[.val (.ref a)] [])
  refine Go.of (fun _ kq => XS.aloadN X.here hx rfl (hb hby d15_0) rfl rfl kq) ?_
  show Go p e below _ _ T (mkF m 1 #[.val (.ref a)] [(.ref a)])
  refine Go.getF X hx hZ hown (hw _ (List.mem_of_getElem? (i := 112) rfl)) Via.refl eT F_offset_a (hb hby d15_1) ?_
  intro T X eT
  show Go p e below _ _ T (mkF m 4 #[.val (.ref a)] [(.int p1)])
  refine Go.retI X hx hret hlk (hb hby d15_4) (fun _ _ q _ => own_fin q (by decide) (by decide)) ?_
  try rw [eT]
  exact ⟨rfl, N, rfl⟩
theorem d16_0 : decode prog_38_method_6_code 0 = .ok (.aload_n 0, 1) := by decide +kernel
theorem d16_1 : decode prog_38_method_6_code 1 = .ok (.getfield 13, 3) := by decide +kernel
theorem d16_4 : decode prog_38_method_6_code 4 = .ok (.ireturn, 1) := by decide +kernel
theorem pn16 : plainFor (⟨"com/example/text_to_shapes/texttoshapes/idl/SourceReader$Mark", "line", "()I"⟩ : MethodName) = true := plainFor_of_name (by first | (simp [plainName, overriddenIn]; done) | decide +kernel)
theorem ef_rmM_line (m : MethodId) (x0 : Addr) : entryFrame m #[(.ref x0)] 1 = mkF m 0 #[.val (.ref x0)] [] := by first | (simp [entryFrame, mkF, argsToLocals, Value.category]; done) | rfl
set_option maxRecDepth 65536 in
set_option maxHeartbeats 40000000 in
theorem rmM_line {l : Launch} {Z : State} {a0 : Array Value} (hw : ∀ d ∈ tables_1, d.before a0 Z = true) (a : Addr) (p1 : Int32) (h0 : Heap) (n0 : Nat) (F_line_a : Fld Z h0 a "com/example/text_to_shapes/texttoshapes/idl/SourceReader$Mark" "line" "I" (.int p1)) :
    Met l Z (⟨"com/example/text_to_shapes/texttoshapes/idl/SourceReader$Mark", "line", "()I"⟩ : MethodName) prog_38_method_6_code 1 (some .int) [] ({ frames := 0, cells := 0, slots := 0, locals := 0 } : Room) #[(.ref a)] h0 (fun v h L => v = some (.int p1) ∧ Fr n0 L ∧ h = h0) := by
  refine Met.mk pn16 ?_
  intro p e s m below meth c T hx hby hml hown hnm hret hlk hZ X eT
  refine Go.cast (ef_rmM_line m a) ?_
  have N := Fr.nil n0
  show Go p e below _ _ T (mkF m 0 #[.val (.ref a)] [])
  refine Go.of (fun _ kq => XS.aloadN X.here hx rfl (hb hby d16_0) rfl rfl kq) ?_
  show Go p e below _ _ T (mkF m 1 #[.val (.ref a)] [(.ref a)])
  refine Go.getF X hx hZ hown (hw _ (List.mem_of_getElem? (i := 114) rfl)) Via.refl eT F_line_a (hb hby d16_1) ?_
  intro T X eT
  show Go p e below _ _ T (mkF m 4 #[.val (.ref a)] [(.int p1)])
  refine Go.retI X hx hret hlk (hb hby d16_4) (fun _ _ q _ => own_fin q (by decide) (by decide)) ?_
  try rw [eT]
  exact ⟨rfl, N, rfl⟩
theorem d17_0 : decode prog_38_method_7_code 0 = .ok (.aload_n 0, 1) := by decide +kernel
theorem d17_1 : decode prog_38_method_7_code 1 = .ok (.getfield 16, 3) := by decide +kernel
theorem d17_4 : decode prog_38_method_7_code 4 = .ok (.ireturn, 1) := by decide +kernel
theorem pn17 : plainFor (⟨"com/example/text_to_shapes/texttoshapes/idl/SourceReader$Mark", "lineStart", "()I"⟩ : MethodName) = true := plainFor_of_name (by first | (simp [plainName, overriddenIn]; done) | decide +kernel)
theorem ef_rmM_lineStart (m : MethodId) (x0 : Addr) : entryFrame m #[(.ref x0)] 1 = mkF m 0 #[.val (.ref x0)] [] := by first | (simp [entryFrame, mkF, argsToLocals, Value.category]; done) | rfl
set_option maxRecDepth 65536 in
set_option maxHeartbeats 40000000 in
theorem rmM_lineStart {l : Launch} {Z : State} {a0 : Array Value} (hw : ∀ d ∈ tables_1, d.before a0 Z = true) (a : Addr) (p1 : Int32) (h0 : Heap) (n0 : Nat) (F_lineStart_a : Fld Z h0 a "com/example/text_to_shapes/texttoshapes/idl/SourceReader$Mark" "lineStart" "I" (.int p1)) :
    Met l Z (⟨"com/example/text_to_shapes/texttoshapes/idl/SourceReader$Mark", "lineStart", "()I"⟩ : MethodName) prog_38_method_7_code 1 (some .int) [] ({ frames := 0, cells := 0, slots := 0, locals := 0 } : Room) #[(.ref a)] h0 (fun v h L => v = some (.int p1) ∧ Fr n0 L ∧ h = h0) := by
  refine Met.mk pn17 ?_
  intro p e s m below meth c T hx hby hml hown hnm hret hlk hZ X eT
  refine Go.cast (ef_rmM_lineStart m a) ?_
  have N := Fr.nil n0
  show Go p e below _ _ T (mkF m 0 #[.val (.ref a)] [])
  refine Go.of (fun _ kq => XS.aloadN X.here hx rfl (hb hby d17_0) rfl rfl kq) ?_
  show Go p e below _ _ T (mkF m 1 #[.val (.ref a)] [(.ref a)])
  refine Go.getF X hx hZ hown (hw _ (List.mem_of_getElem? (i := 116) rfl)) Via.refl eT F_lineStart_a (hb hby d17_1) ?_
  intro T X eT
  show Go p e below _ _ T (mkF m 4 #[.val (.ref a)] [(.int p1)])
  refine Go.retI X hx hret hlk (hb hby d17_4) (fun _ _ q _ => own_fin q (by decide) (by decide)) ?_
  try rw [eT]
  exact ⟨rfl, N, rfl⟩
theorem d21_0 : decode method_3_code 0 = .ok (.iload_n 2, 1) := by decide +kernel
theorem d21_1 : decode method_3_code 1 = .ok (.iload_n 1, 1) := by decide +kernel
theorem d21_2 : decode method_3_code 2 = .ok (.if_icmp .ge 23, 3) := by decide +kernel
theorem d21_5 : decode method_3_code 5 = .ok (.aload_n 0, 1) := by decide +kernel
theorem d21_6 : decode method_3_code 6 = .ok (.iload_n 2, 1) := by decide +kernel
theorem d21_7 : decode method_3_code 7 = .ok (.caload, 1) := by decide +kernel
theorem d21_8 : decode method_3_code 8 = .ok (.bipush 32, 2) := by decide +kernel
theorem d21_10 : decode method_3_code 10 = .ok (.if_icmp .eq 11, 3) := by decide +kernel
theorem d21_13 : decode method_3_code 13 = .ok (.aload_n 0, 1) := by decide +kernel
theorem d21_14 : decode method_3_code 14 = .ok (.iload_n 2, 1) := by decide +kernel
theorem d21_15 : decode method_3_code 15 = .ok (.caload, 1) := by decide +kernel
theorem d21_16 : decode method_3_code 16 = .ok (.bipush 9, 2) := by decide +kernel
theorem d21_18 : decode method_3_code 18 = .ok (.if_icmp .ne 7, 3) := by decide +kernel
theorem d21_21 : decode method_3_code 21 = .ok (.iconst 1, 1) := by decide +kernel
theorem d21_22 : decode method_3_code 22 = .ok (.goto 4, 3) := by decide +kernel
theorem d21_25 : decode method_3_code 25 = .ok (.iconst 0, 1) := by decide +kernel
theorem d21_26 : decode method_3_code 26 = .ok (.ireturn, 1) := by decide +kernel
theorem pn21 : plainFor (⟨"com/example/text_to_shapes/texttoshapes/idl/SourceReaderSpPinLaw", "blank", "([CII)Z"⟩ : MethodName) = true := plainFor_of_name (by first | (simp [plainName, overriddenIn]; done) | decide +kernel)
theorem ef_rmBlank (m : MethodId) (x0 : Addr) (x1 : Int32) (x2 : Int32) : entryFrame m #[(.ref x0), (.int x1), (.int x2)] 3 = mkF m 0 #[.val (.ref x0), .val (.int x1), .val (.int x2)] [] := by first | (simp [entryFrame, mkF, argsToLocals, Value.category]; done) | rfl
set_option maxRecDepth 65536 in
set_option maxHeartbeats 40000000 in
theorem rmBlank {l : Launch} {Z : State} {a0 : Array Value} (hw : ∀ d ∈ tables_1, d.before a0 Z = true) (t : Addr) (nN i : Nat) (Tx : Nat → Int32) (h0 : Heap) (n0 : Nat) (hnN : nN ≤ 4) (hi : i ≤ nN) (V_t : AV Z h0 t .char 4 (fun j => .int (Tx j))) :
    Met l Z (⟨"com/example/text_to_shapes/texttoshapes/idl/SourceReaderSpPinLaw", "blank", "([CII)Z"⟩ : MethodName) method_3_code 3 (some .boolean) [] ({ frames := 0, cells := 0, slots := 0, locals := 0 } : Room) #[(.ref t), (.int (Int32.ofNat nN)), (.int (Int32.ofNat i))] h0 (fun v h L => v = some (.int (own_bz Tx nN i)) ∧ Fr n0 L ∧ h = h0) := by
  refine Met.mk pn21 ?_
  intro p e s m below meth c T hx hby hml hown hnm hret hlk hZ X eT
  refine Go.cast (ef_rmBlank m t (Int32.ofNat nN) (Int32.ofNat i)) ?_
  have N := Fr.nil n0
  show Go p e below _ _ T (mkF m 0 #[.val (.ref t), .val (.int (Int32.ofNat nN)), .val (.int (Int32.ofNat i))] [])
  refine Go.of (fun _ kq => XS.iloadN X.here hx rfl (hb hby d21_0) rfl kq) ?_
  show Go p e below _ _ T (mkF m 1 #[.val (.ref t), .val (.int (Int32.ofNat nN)), .val (.int (Int32.ofNat i))] [(.int (Int32.ofNat i))])
  refine Go.of (fun _ kq => XS.iloadN X.here hx rfl (hb hby d21_1) rfl kq) ?_
  show Go p e below _ _ T (mkF m 2 #[.val (.ref t), .val (.int (Int32.ofNat nN)), .val (.int (Int32.ofNat i))] [(.int (Int32.ofNat nN)), (.int (Int32.ofNat i))])
  by_cases hc2 : (Int32.ofNat i) < (Int32.ofNat nN)
  · refine Go.of (fun _ kq => XS.icmpNo X.here hx rfl (hb hby d21_2) rfl (tlt hc2).2.1 kq) ?_
    show Go p e below _ _ T (mkF m 5 #[.val (.ref t), .val (.int (Int32.ofNat nN)), .val (.int (Int32.ofNat i))] [])
    refine Go.of (fun _ kq => XS.aloadN X.here hx rfl (hb hby d21_5) rfl rfl kq) ?_
    show Go p e below _ _ T (mkF m 6 #[.val (.ref t), .val (.int (Int32.ofNat nN)), .val (.int (Int32.ofNat i))] [(.ref t)])
    refine Go.of (fun _ kq => XS.iloadN X.here hx rfl (hb hby d21_6) rfl kq) ?_
    show Go p e below _ _ T (mkF m 7 #[.val (.ref t), .val (.int (Int32.ofNat nN)), .val (.int (Int32.ofNat i))] [(.int (Int32.ofNat i)), (.ref t)])
    refine Go.ldC (.int (Tx i)) X hx hZ eT V_t (show Inb (Int32.ofNat i) 4 from (own_inb (show i < 4 by have := (own_ltn (i := i) (n := nN) (by omega) (by omega)).mp hc2; omega) (by decide))) (by show Value.int (Tx _) = _; rw [own_nat (by omega)]) (hb hby d21_7) ?_
    show Go p e below _ _ T (mkF m 8 #[.val (.ref t), .val (.int (Int32.ofNat nN)), .val (.int (Int32.ofNat i))] [(.int (Tx i))])
    refine Go.of (fun _ kq => XS.bipush X.here hx rfl (hb hby d21_8) kq) ?_
    show Go p e below _ _ T (mkF m 10 #[.val (.ref t), .val (.int (Int32.ofNat nN)), .val (.int (Int32.ofNat i))] [(.int (32 : Int32)), (.int (Tx i))])
    by_cases hc10 : (Tx i) = (32 : Int32)
    · refine Go.of (fun _ kq => XS.icmpYes X.here hx rfl (pc0 := 10) (pc' := 21) rfl (hb hby d21_10) rfl (teq hc10).1 (by decide) (by decide) kq) ?_
      show Go p e below _ _ T (mkF m 21 #[.val (.ref t), .val (.int (Int32.ofNat nN)), .val (.int (Int32.ofNat i))] [])
      refine Go.of (fun _ kq => XS.iconst X.here hx rfl (hb hby d21_21) kq) ?_
      show Go p e below _ _ T (mkF m 22 #[.val (.ref t), .val (.int (Int32.ofNat nN)), .val (.int (Int32.ofNat i))] [(.int (1 : Int32))])
      refine Go.of (fun _ kq => XS.goto X.here hx rfl (pc0 := 22) (pc' := 26) rfl (hb hby d21_22) (by decide) (by decide) kq) ?_
      show Go p e below _ _ T (mkF m 26 #[.val (.ref t), .val (.int (Int32.ofNat nN)), .val (.int (Int32.ofNat i))] [(.int (1 : Int32))])
      refine Go.retN X hx hret (by simp) hlk (hb hby d21_26) (fun _ _ q _ => own_fin q (by decide) (by decide)) ?_
      try rw [eT]
      exact ⟨by rw [show own_bz Tx nN i = 1 by unfold own_bz; rw [if_pos ⟨((own_ltn (i := i) (n := nN) (by omega) (by omega)).mp hc2), Or.inl hc10⟩]]; rfl, N, rfl⟩
    · refine Go.of (fun _ kq => XS.icmpNo X.here hx rfl (hb hby d21_10) rfl (feq hc10).1 kq) ?_
      show Go p e below _ _ T (mkF m 13 #[.val (.ref t), .val (.int (Int32.ofNat nN)), .val (.int (Int32.ofNat i))] [])
      refine Go.of (fun _ kq => XS.aloadN X.here hx rfl (hb hby d21_13) rfl rfl kq) ?_
      show Go p e below _ _ T (mkF m 14 #[.val (.ref t), .val (.int (Int32.ofNat nN)), .val (.int (Int32.ofNat i))] [(.ref t)])
      refine Go.of (fun _ kq => XS.iloadN X.here hx rfl (hb hby d21_14) rfl kq) ?_
      show Go p e below _ _ T (mkF m 15 #[.val (.ref t), .val (.int (Int32.ofNat nN)), .val (.int (Int32.ofNat i))] [(.int (Int32.ofNat i)), (.ref t)])
      refine Go.ldC (.int (Tx i)) X hx hZ eT V_t (show Inb (Int32.ofNat i) 4 from (own_inb (show i < 4 by have := (own_ltn (i := i) (n := nN) (by omega) (by omega)).mp hc2; omega) (by decide))) (by show Value.int (Tx _) = _; rw [own_nat (by omega)]) (hb hby d21_15) ?_
      show Go p e below _ _ T (mkF m 16 #[.val (.ref t), .val (.int (Int32.ofNat nN)), .val (.int (Int32.ofNat i))] [(.int (Tx i))])
      refine Go.of (fun _ kq => XS.bipush X.here hx rfl (hb hby d21_16) kq) ?_
      show Go p e below _ _ T (mkF m 18 #[.val (.ref t), .val (.int (Int32.ofNat nN)), .val (.int (Int32.ofNat i))] [(.int (9 : Int32)), (.int (Tx i))])
      by_cases hc18 : (Tx i) = (9 : Int32)
      · refine Go.of (fun _ kq => XS.icmpNo X.here hx rfl (hb hby d21_18) rfl (teq hc18).2 kq) ?_
        show Go p e below _ _ T (mkF m 21 #[.val (.ref t), .val (.int (Int32.ofNat nN)), .val (.int (Int32.ofNat i))] [])
        refine Go.of (fun _ kq => XS.iconst X.here hx rfl (hb hby d21_21) kq) ?_
        show Go p e below _ _ T (mkF m 22 #[.val (.ref t), .val (.int (Int32.ofNat nN)), .val (.int (Int32.ofNat i))] [(.int (1 : Int32))])
        refine Go.of (fun _ kq => XS.goto X.here hx rfl (pc0 := 22) (pc' := 26) rfl (hb hby d21_22) (by decide) (by decide) kq) ?_
        show Go p e below _ _ T (mkF m 26 #[.val (.ref t), .val (.int (Int32.ofNat nN)), .val (.int (Int32.ofNat i))] [(.int (1 : Int32))])
        refine Go.retN X hx hret (by simp) hlk (hb hby d21_26) (fun _ _ q _ => own_fin q (by decide) (by decide)) ?_
        try rw [eT]
        exact ⟨by rw [show own_bz Tx nN i = 1 by unfold own_bz; rw [if_pos ⟨((own_ltn (i := i) (n := nN) (by omega) (by omega)).mp hc2), Or.inr hc18⟩]]; rfl, N, rfl⟩
      · refine Go.of (fun _ kq => XS.icmpYes X.here hx rfl (pc0 := 18) (pc' := 25) rfl (hb hby d21_18) rfl (feq hc18).2 (by decide) (by decide) kq) ?_
        show Go p e below _ _ T (mkF m 25 #[.val (.ref t), .val (.int (Int32.ofNat nN)), .val (.int (Int32.ofNat i))] [])
        refine Go.of (fun _ kq => XS.iconst X.here hx rfl (hb hby d21_25) kq) ?_
        show Go p e below _ _ T (mkF m 26 #[.val (.ref t), .val (.int (Int32.ofNat nN)), .val (.int (Int32.ofNat i))] [(.int (0 : Int32))])
        refine Go.retN X hx hret (by simp) hlk (hb hby d21_26) (fun _ _ q _ => own_fin q (by decide) (by decide)) ?_
        try rw [eT]
        exact ⟨by rw [show own_bz Tx nN i = 0 by unfold own_bz; rw [if_neg (fun q => q.2.elim hc10 hc18)]]; rfl, N, rfl⟩
  · refine Go.of (fun _ kq => XS.icmpYes X.here hx rfl (pc0 := 2) (pc' := 25) rfl (hb hby d21_2) rfl (flt hc2).2.1 (by decide) (by decide) kq) ?_
    show Go p e below _ _ T (mkF m 25 #[.val (.ref t), .val (.int (Int32.ofNat nN)), .val (.int (Int32.ofNat i))] [])
    refine Go.of (fun _ kq => XS.iconst X.here hx rfl (hb hby d21_25) kq) ?_
    show Go p e below _ _ T (mkF m 26 #[.val (.ref t), .val (.int (Int32.ofNat nN)), .val (.int (Int32.ofNat i))] [(.int (0 : Int32))])
    refine Go.retN X hx hret (by simp) hlk (hb hby d21_26) (fun _ _ q _ => own_fin q (by decide) (by decide)) ?_
    try rw [eT]
    exact ⟨by rw [show own_bz Tx nN i = 0 by unfold own_bz; rw [if_neg (fun q => hc2 ((own_ltn (by omega) (by omega)).mpr q.1))]]; rfl, N, rfl⟩
theorem d20_0 : decode method_4_code 0 = .ok (.aload_n 0, 1) := by decide +kernel
theorem d20_1 : decode method_4_code 1 = .ok (.iload_n 1, 1) := by decide +kernel
theorem d20_2 : decode method_4_code 2 = .ok (.iload_n 2, 1) := by decide +kernel
theorem d20_3 : decode method_4_code 3 = .ok (.invokestatic 52, 3) := by decide +kernel
theorem d20_6 : decode method_4_code 6 = .ok (.ifCond .eq 9, 3) := by decide +kernel
theorem d20_9 : decode method_4_code 9 = .ok (.iload_n 2, 1) := by decide +kernel
theorem d20_10 : decode method_4_code 10 = .ok (.iconst 1, 1) := by decide +kernel
theorem d20_11 : decode method_4_code 11 = .ok (.iadd, 1) := by decide +kernel
theorem d20_12 : decode method_4_code 12 = .ok (.goto 4, 3) := by decide +kernel
theorem d20_15 : decode method_4_code 15 = .ok (.iload_n 2, 1) := by decide +kernel
theorem d20_16 : decode method_4_code 16 = .ok (.ireturn, 1) := by decide +kernel
theorem pn20 : plainFor (⟨"com/example/text_to_shapes/texttoshapes/idl/SourceReaderSpPinLaw", "step", "([CII)I"⟩ : MethodName) = true := plainFor_of_name (by first | (simp [plainName, overriddenIn]; done) | decide +kernel)
theorem ef_rmStep (m : MethodId) (x0 : Addr) (x1 : Int32) (x2 : Int32) : entryFrame m #[(.ref x0), (.int x1), (.int x2)] 3 = mkF m 0 #[.val (.ref x0), .val (.int x1), .val (.int x2)] [] := by first | (simp [entryFrame, mkF, argsToLocals, Value.category]; done) | rfl
set_option maxRecDepth 65536 in
set_option maxHeartbeats 40000000 in
theorem rmStep {l : Launch} {Z : State} {a0 : Array Value} (hw : ∀ d ∈ tables_1, d.before a0 Z = true) (t : Addr) (nN i : Nat) (Tx : Nat → Int32) (h0 : Heap) (n0 : Nat) (hnN : nN ≤ 4) (hi : i ≤ nN) (V_t : AV Z h0 t .char 4 (fun j => .int (Tx j))) :
    Met l Z (⟨"com/example/text_to_shapes/texttoshapes/idl/SourceReaderSpPinLaw", "step", "([CII)I"⟩ : MethodName) method_4_code 3 (some .int) [] ({ frames := 1, cells := 0, slots := 0, locals := 14 } : Room) #[(.ref t), (.int (Int32.ofNat nN)), (.int (Int32.ofNat i))] h0 (fun v h L => v = some (.int (Int32.ofNat (own_st Tx nN i))) ∧ Fr n0 L ∧ h = h0) := by
  refine Met.mk pn20 ?_
  intro p e s m below meth c T hx hby hml hown hnm hret hlk hZ X eT
  refine Go.cast (ef_rmStep m t (Int32.ofNat nN) (Int32.ofNat i)) ?_
  have N := Fr.nil n0
  show Go p e below _ _ T (mkF m 0 #[.val (.ref t), .val (.int (Int32.ofNat nN)), .val (.int (Int32.ofNat i))] [])
  refine Go.of (fun _ kq => XS.aloadN X.here hx rfl (hb hby d20_0) rfl rfl kq) ?_
  show Go p e below _ _ T (mkF m 1 #[.val (.ref t), .val (.int (Int32.ofNat nN)), .val (.int (Int32.ofNat i))] [(.ref t)])
  refine Go.of (fun _ kq => XS.iloadN X.here hx rfl (hb hby d20_1) rfl kq) ?_
  show Go p e below _ _ T (mkF m 2 #[.val (.ref t), .val (.int (Int32.ofNat nN)), .val (.int (Int32.ofNat i))] [(.int (Int32.ofNat nN)), (.ref t)])
  refine Go.of (fun _ kq => XS.iloadN X.here hx rfl (hb hby d20_2) rfl kq) ?_
  show Go p e below _ _ T (mkF m 3 #[.val (.ref t), .val (.int (Int32.ofNat nN)), .val (.int (Int32.ofNat i))] [(.int (Int32.ofNat i)), (.int (Int32.ofNat nN)), (.ref t)])
  refine Go.static X hx hZ hown (hw _ (List.mem_of_getElem? (i := 158) rfl)) (hw _ (List.mem_of_getElem? (i := 159) rfl)) (hw _ (List.mem_of_getElem? (i := 156) rfl)) (hw _ (List.mem_of_getElem? (i := 160) rfl)) (by decide) (rmBlank hw t nN i Tx _ n0 hnN hi V_t) eT 0 (by decide) (by decide) (by decide) (by decide) (by rw [hml]; rfl) (argsL := [(.ref t), (.int (Int32.ofNat nN)), (.int (Int32.ofNat i))]) [] (lenOf pd7 rfl) rfl rfl (Nat.le_of_eq rfl) (hb hby d20_3) ?_
  intro v T L' X hQ
  obtain ⟨rfl, N', eT⟩ := hQ
  have N := Fr.app N N'
  show Go p e below _ _ T (mkF m 6 #[.val (.ref t), .val (.int (Int32.ofNat nN)), .val (.int (Int32.ofNat i))] [(.int (own_bz Tx nN i))])
  by_cases hc6 : (own_bz Tx nN i) = (0 : Int32)
  · refine Go.of (fun _ kq => XS.ifYes X.here hx rfl (pc0 := 6) (pc' := 15) rfl (hb hby d20_6) rfl ((if0 _ _).trans (teq hc6).1) (by decide) (by decide) kq) ?_
    show Go p e below _ _ T (mkF m 15 #[.val (.ref t), .val (.int (Int32.ofNat nN)), .val (.int (Int32.ofNat i))] [])
    refine Go.of (fun _ kq => XS.iloadN X.here hx rfl (hb hby d20_15) rfl kq) ?_
    show Go p e below _ _ T (mkF m 16 #[.val (.ref t), .val (.int (Int32.ofNat nN)), .val (.int (Int32.ofNat i))] [(.int (Int32.ofNat i))])
    refine Go.retI X hx hret hlk (hb hby d20_16) (fun _ _ q _ => own_fin q (by decide) (by decide)) ?_
    try rw [eT]
    have nb : ¬ own_bl Tx nN i := fun q => by unfold own_bz at hc6; rw [if_pos q] at hc6; exact absurd hc6 (by decide)
    exact ⟨by unfold own_st; rw [if_neg nb], N, rfl⟩
  · refine Go.of (fun _ kq => XS.ifNo X.here hx rfl (hb hby d20_6) rfl ((if0 _ _).trans (feq hc6).1) kq) ?_
    show Go p e below _ _ T (mkF m 9 #[.val (.ref t), .val (.int (Int32.ofNat nN)), .val (.int (Int32.ofNat i))] [])
    refine Go.of (fun _ kq => XS.iloadN X.here hx rfl (hb hby d20_9) rfl kq) ?_
    show Go p e below _ _ T (mkF m 10 #[.val (.ref t), .val (.int (Int32.ofNat nN)), .val (.int (Int32.ofNat i))] [(.int (Int32.ofNat i))])
    refine Go.of (fun _ kq => XS.iconst X.here hx rfl (hb hby d20_10) kq) ?_
    show Go p e below _ _ T (mkF m 11 #[.val (.ref t), .val (.int (Int32.ofNat nN)), .val (.int (Int32.ofNat i))] [(.int (1 : Int32)), (.int (Int32.ofNat i))])
    refine Go.of (fun _ kq => XS.iadd X.here hx rfl (hb hby d20_11) rfl kq) ?_
    show Go p e below _ _ T (mkF m 12 #[.val (.ref t), .val (.int (Int32.ofNat nN)), .val (.int (Int32.ofNat i))] [(.int ((Int32.ofNat i) + (1 : Int32)))])
    refine Go.of (fun _ kq => XS.goto X.here hx rfl (pc0 := 12) (pc' := 16) rfl (hb hby d20_12) (by decide) (by decide) kq) ?_
    show Go p e below _ _ T (mkF m 16 #[.val (.ref t), .val (.int (Int32.ofNat nN)), .val (.int (Int32.ofNat i))] [(.int ((Int32.ofNat i) + (1 : Int32)))])
    refine Go.retI X hx hret hlk (hb hby d20_16) (fun _ _ q _ => own_fin q (by decide) (by decide)) ?_
    try rw [eT]
    have nb : own_bl Tx nN i := Decidable.of_not_not (fun q => hc6 (by unfold own_bz; rw [if_neg q]))
    exact ⟨by unfold own_st; rw [if_pos nb, ← own_succ], N, rfl⟩
theorem d14_0 : decode prog_36_method_4_code 0 = .ok (.aload_n 0, 1) := by decide +kernel
theorem d14_1 : decode prog_36_method_4_code 1 = .ok (.aload_n 1, 1) := by decide +kernel
theorem d14_2 : decode prog_36_method_4_code 2 = .ok (.invokevirtual 64, 3) := by decide +kernel
theorem d14_5 : decode prog_36_method_4_code 5 = .ok (.putfield 55, 3) := by decide +kernel
theorem d14_8 : decode prog_36_method_4_code 8 = .ok (.aload_n 0, 1) := by decide +kernel
theorem d14_9 : decode prog_36_method_4_code 9 = .ok (.aload_n 1, 1) := by decide +kernel
theorem d14_10 : decode prog_36_method_4_code 10 = .ok (.invokevirtual 66, 3) := by decide +kernel
theorem d14_13 : decode prog_36_method_4_code 13 = .ok (.putfield 27, 3) := by decide +kernel
theorem d14_16 : decode prog_36_method_4_code 16 = .ok (.aload_n 0, 1) := by decide +kernel
theorem d14_17 : decode prog_36_method_4_code 17 = .ok (.aload_n 1, 1) := by decide +kernel
theorem d14_18 : decode prog_36_method_4_code 18 = .ok (.invokevirtual 68, 3) := by decide +kernel
theorem d14_21 : decode prog_36_method_4_code 21 = .ok (.putfield 58, 3) := by decide +kernel
theorem d14_24 : decode prog_36_method_4_code 24 = .ok (.return_, 1) := by decide +kernel
theorem pn14 : plainFor (⟨"com/example/text_to_shapes/texttoshapes/idl/SourceReader", "reset", "(Lcom/example/text_to_shapes/texttoshapes/idl/SourceReader$Mark;)V"⟩ : MethodName) = true := plainFor_of_name (by first | (simp [plainName, overriddenIn]; done) | decide +kernel)
theorem ef_rmReset (m : MethodId) (x0 : Addr) (x1 : Addr) : entryFrame m #[(.ref x0), (.ref x1)] 2 = mkF m 0 #[.val (.ref x0), .val (.ref x1)] [] := by first | (simp [entryFrame, mkF, argsToLocals, Value.category]; done) | rfl
set_option maxRecDepth 65536 in
set_option maxHeartbeats 40000000 in
theorem rmReset {l : Launch} {Z : State} {a0 : Array Value} (hw : ∀ d ∈ tables_1, d.before a0 Z = true) (a b t : Addr) (n o li ls p1 p2 p3 : Int32) (h0 : Heap) (n0 : Nat) (g_a : n0 ≤ a) (ne_a_b : a ≠ b) (E_a : Exa Z h0 a "com/example/text_to_shapes/texttoshapes/idl/SourceReader") (E_b : Exa Z h0 b "com/example/text_to_shapes/texttoshapes/idl/SourceReader$Mark") (F_text_a : Fld Z h0 a "com/example/text_to_shapes/texttoshapes/idl/SourceReader" "text" "[C" (.ref t)) (F_textLength_a : Fld Z h0 a "com/example/text_to_shapes/texttoshapes/idl/SourceReader" "textLength" "I" (.int n)) (F_offset_a : Fld Z h0 a "com/example/text_to_shapes/texttoshapes/idl/SourceReader" "offset" "I" (.int o)) (F_line_a : Fld Z h0 a "com/example/text_to_shapes/texttoshapes/idl/SourceReader" "line" "I" (.int li)) (F_lineStart_a : Fld Z h0 a "com/example/text_to_shapes/texttoshapes/idl/SourceReader" "lineStart" "I" (.int ls)) (F_offset_b : Fld Z h0 b "com/example/text_to_shapes/texttoshapes/idl/SourceReader$Mark" "offset" "I" (.int p1)) (F_line_b : Fld Z h0 b "com/example/text_to_shapes/texttoshapes/idl/SourceReader$Mark" "line" "I" (.int p2)) (F_lineStart_b : Fld Z h0 b "com/example/text_to_shapes/texttoshapes/idl/SourceReader$Mark" "lineStart" "I" (.int p3)) :
    Met l Z (⟨"com/example/text_to_shapes/texttoshapes/idl/SourceReader", "reset", "(Lcom/example/text_to_shapes/texttoshapes/idl/SourceReader$Mark;)V"⟩ : MethodName) prog_36_method_4_code 2 none [] ({ frames := 1, cells := 0, slots := 0, locals := 13 } : Room) #[(.ref a), (.ref b)] h0 (fun v h L => v = none ∧ Fr n0 L ∧ Keep h0 h [a] ∧ Fld Z h a "com/example/text_to_shapes/texttoshapes/idl/SourceReader" "text" "[C" (.ref t) ∧ Fld Z h a "com/example/text_to_shapes/texttoshapes/idl/SourceReader" "textLength" "I" (.int n) ∧ Fld Z h a "com/example/text_to_shapes/texttoshapes/idl/SourceReader" "offset" "I" (.int p1) ∧ Fld Z h a "com/example/text_to_shapes/texttoshapes/idl/SourceReader" "line" "I" (.int p2) ∧ Fld Z h a "com/example/text_to_shapes/texttoshapes/idl/SourceReader" "lineStart" "I" (.int p3)) := by
  refine Met.mk pn14 ?_
  intro p e s m below meth c T hx hby hml hown hnm hret hlk hZ X eT
  refine Go.cast (ef_rmReset m a b) ?_
  have N := Fr.nil n0
  have K := Keep.refl h0 [a]
  show Go p e below _ _ T (mkF m 0 #[.val (.ref a), .val (.ref b)] [])
  refine Go.of (fun _ kq => XS.aloadN X.here hx rfl (hb hby d14_0) rfl rfl kq) ?_
  show Go p e below _ _ T (mkF m 1 #[.val (.ref a), .val (.ref b)] [(.ref a)])
  refine Go.of (fun _ kq => XS.aloadN X.here hx rfl (hb hby d14_1) rfl rfl kq) ?_
  show Go p e below _ _ T (mkF m 2 #[.val (.ref a), .val (.ref b)] [(.ref b), (.ref a)])
  refine Go.virtual (a := b) X hx hZ hown (hw _ (List.mem_of_getElem? (i := 123) rfl)) (hw _ (List.mem_of_getElem? (i := 124) rfl)) (notFace_of_selects (args := #[]) (mvT hZ (hw _ (List.mem_of_getElem? (i := 126) rfl)))) (hw _ (List.mem_of_getElem? (i := 126) rfl)) (hw _ (List.mem_of_getElem? (i := 125) rfl)) (hw _ (List.mem_of_getElem? (i := 102) rfl)) (hw _ (List.mem_of_getElem? (i := 127) rfl)) (by decide) (rmM_offset hw b p1 _ n0 F_offset_b) eT E_b 1 (by decide) (by decide) (by decide) (by decide) (by rw [hml]; rfl) (argsL := []) [(.ref a)] (lenOf pd8 rfl) rfl rfl (Nat.le_of_eq rfl) (hb hby d14_2) ?_
  intro v T L' X hQ
  obtain ⟨rfl, N', eT⟩ := hQ
  have N := Fr.app N N'
  show Go p e below _ _ T (mkF m 5 #[.val (.ref a), .val (.ref b)] [(.int p1), (.ref a)])
  refine Go.putF X hx hZ hown (hw _ (List.mem_of_getElem? (i := 128) rfl)) Via.refl eT F_offset_a E_a (Or.inl (hw _ (List.mem_of_getElem? (i := 129) rfl))) (hw _ (List.mem_of_getElem? (i := 4) rfl)) (ty := .int) (by decide) rfl rfl (hb hby d14_5) ?_
  intro T h X eT wr
  have N := Fr.snoc X N g_a
  have K := K.wr wr (Or.inl (List.mem_of_getElem? (i := 0) rfl))
  have E_a := E_a.wr wr
  have E_b := E_b.wr wr
  have F_text_a := F_text_a.other wr (Or.inr (slot_ne (Or.inr (hw _ (List.mem_of_getElem? (i := 95) rfl))) (Or.inl (hw _ (List.mem_of_getElem? (i := 129) rfl))) (by decide) (t := (.array .char)) (t' := .int) (by decide) (by decide)))
  have F_textLength_a := F_textLength_a.other wr (Or.inr (slot_ne (Or.inr (hw _ (List.mem_of_getElem? (i := 97) rfl))) (Or.inl (hw _ (List.mem_of_getElem? (i := 129) rfl))) (by decide) (t := .int) (t' := .int) (by decide) (by decide)))
  have F_offset_a := F_offset_a.same wr
  have F_line_a := F_line_a.other wr (Or.inr (slot_ne (Or.inl (hw _ (List.mem_of_getElem? (i := 86) rfl))) (Or.inl (hw _ (List.mem_of_getElem? (i := 129) rfl))) (by decide) (t := .int) (t' := .int) (by decide) (by decide)))
  have F_lineStart_a := F_lineStart_a.other wr (Or.inr (slot_ne (Or.inl (hw _ (List.mem_of_getElem? (i := 141) rfl))) (Or.inl (hw _ (List.mem_of_getElem? (i := 129) rfl))) (by decide) (t := .int) (t' := .int) (by decide) (by decide)))
  have F_offset_b := F_offset_b.other wr (Or.inl (Ne.symm ne_a_b))
  have F_line_b := F_line_b.other wr (Or.inl (Ne.symm ne_a_b))
  have F_lineStart_b := F_lineStart_b.other wr (Or.inl (Ne.symm ne_a_b))
  show Go p e below _ _ T (mkF m 8 #[.val (.ref a), .val (.ref b)] [])
  refine Go.of (fun _ kq => XS.aloadN X.here hx rfl (hb hby d14_8) rfl rfl kq) ?_
  show Go p e below _ _ T (mkF m 9 #[.val (.ref a), .val (.ref b)] [(.ref a)])
  refine Go.of (fun _ kq => XS.aloadN X.here hx rfl (hb hby d14_9) rfl rfl kq) ?_
  show Go p e below _ _ T (mkF m 10 #[.val (.ref a), .val (.ref b)] [(.ref b), (.ref a)])
  refine Go.virtual (a := b) X hx hZ hown (hw _ (List.mem_of_getElem? (i := 130) rfl)) (hw _ (List.mem_of_getElem? (i := 131) rfl)) (notFace_of_selects (args := #[]) (mvT hZ (hw _ (List.mem_of_getElem? (i := 133) rfl)))) (hw _ (List.mem_of_getElem? (i := 133) rfl)) (hw _ (List.mem_of_getElem? (i := 132) rfl)) (hw _ (List.mem_of_getElem? (i := 102) rfl)) (hw _ (List.mem_of_getElem? (i := 134) rfl)) (by decide) (rmM_line hw b p2 _ n0 F_line_b) eT E_b 1 (by decide) (by decide) (by decide) (by decide) (by rw [hml]; rfl) (argsL := []) [(.ref a)] (lenOf pd8 rfl) rfl rfl (Nat.le_of_eq rfl) (hb hby d14_10) ?_
  intro v T L' X hQ
  obtain ⟨rfl, N', eT⟩ := hQ
  have N := Fr.app N N'
  show Go p e below _ _ T (mkF m 13 #[.val (.ref a), .val (.ref b)] [(.int p2), (.ref a)])
  refine Go.putF X hx hZ hown (hw _ (List.mem_of_getElem? (i := 85) rfl)) Via.refl eT F_line_a E_a (Or.inl (hw _ (List.mem_of_getElem? (i := 86) rfl))) (hw _ (List.mem_of_getElem? (i := 4) rfl)) (ty := .int) (by decide) rfl rfl (hb hby d14_13) ?_
  intro T h X eT wr
  have N := Fr.snoc X N g_a
  have K := K.wr wr (Or.inl (List.mem_of_getElem? (i := 0) rfl))
  have E_a := E_a.wr wr
  have E_b := E_b.wr wr
  have F_text_a := F_text_a.other wr (Or.inr (slot_ne (Or.inr (hw _ (List.mem_of_getElem? (i := 95) rfl))) (Or.inl (hw _ (List.mem_of_getElem? (i := 86) rfl))) (by decide) (t := (.array .char)) (t' := .int) (by decide) (by decide)))
  have F_textLength_a := F_textLength_a.other wr (Or.inr (slot_ne (Or.inr (hw _ (List.mem_of_getElem? (i := 97) rfl))) (Or.inl (hw _ (List.mem_of_getElem? (i := 86) rfl))) (by decide) (t := .int) (t' := .int) (by decide) (by decide)))
  have F_offset_a := F_offset_a.other wr (Or.inr (slot_ne (Or.inl (hw _ (List.mem_of_getElem? (i := 129) rfl))) (Or.inl (hw _ (List.mem_of_getElem? (i := 86) rfl))) (by decide) (t := .int) (t' := .int) (by decide) (by decide)))
  have F_line_a := F_line_a.same wr
  have F_lineStart_a := F_lineStart_a.other wr (Or.inr (slot_ne (Or.inl (hw _ (List.mem_of_getElem? (i := 141) rfl))) (Or.inl (hw _ (List.mem_of_getElem? (i := 86) rfl))) (by decide) (t := .int) (t' := .int) (by decide) (by decide)))
  have F_offset_b := F_offset_b.other wr (Or.inl (Ne.symm ne_a_b))
  have F_line_b := F_line_b.other wr (Or.inl (Ne.symm ne_a_b))
  have F_lineStart_b := F_lineStart_b.other wr (Or.inl (Ne.symm ne_a_b))
  show Go p e below _ _ T (mkF m 16 #[.val (.ref a), .val (.ref b)] [])
  refine Go.of (fun _ kq => XS.aloadN X.here hx rfl (hb hby d14_16) rfl rfl kq) ?_
  show Go p e below _ _ T (mkF m 17 #[.val (.ref a), .val (.ref b)] [(.ref a)])
  refine Go.of (fun _ kq => XS.aloadN X.here hx rfl (hb hby d14_17) rfl rfl kq) ?_
  show Go p e below _ _ T (mkF m 18 #[.val (.ref a), .val (.ref b)] [(.ref b), (.ref a)])
  refine Go.virtual (a := b) X hx hZ hown (hw _ (List.mem_of_getElem? (i := 135) rfl)) (hw _ (List.mem_of_getElem? (i := 136) rfl)) (notFace_of_selects (args := #[]) (mvT hZ (hw _ (List.mem_of_getElem? (i := 138) rfl)))) (hw _ (List.mem_of_getElem? (i := 138) rfl)) (hw _ (List.mem_of_getElem? (i := 137) rfl)) (hw _ (List.mem_of_getElem? (i := 102) rfl)) (hw _ (List.mem_of_getElem? (i := 139) rfl)) (by decide) (rmM_lineStart hw b p3 _ n0 F_lineStart_b) eT E_b 1 (by decide) (by decide) (by decide) (by decide) (by rw [hml]; rfl) (argsL := []) [(.ref a)] (lenOf pd8 rfl) rfl rfl (Nat.le_of_eq rfl) (hb hby d14_18) ?_
  intro v T L' X hQ
  obtain ⟨rfl, N', eT⟩ := hQ
  have N := Fr.app N N'
  show Go p e below _ _ T (mkF m 21 #[.val (.ref a), .val (.ref b)] [(.int p3), (.ref a)])
  refine Go.putF X hx hZ hown (hw _ (List.mem_of_getElem? (i := 140) rfl)) Via.refl eT F_lineStart_a E_a (Or.inl (hw _ (List.mem_of_getElem? (i := 141) rfl))) (hw _ (List.mem_of_getElem? (i := 4) rfl)) (ty := .int) (by decide) rfl rfl (hb hby d14_21) ?_
  intro T h X eT wr
  have N := Fr.snoc X N g_a
  have K := K.wr wr (Or.inl (List.mem_of_getElem? (i := 0) rfl))
  have E_a := E_a.wr wr
  have E_b := E_b.wr wr
  have F_text_a := F_text_a.other wr (Or.inr (slot_ne (Or.inr (hw _ (List.mem_of_getElem? (i := 95) rfl))) (Or.inl (hw _ (List.mem_of_getElem? (i := 141) rfl))) (by decide) (t := (.array .char)) (t' := .int) (by decide) (by decide)))
  have F_textLength_a := F_textLength_a.other wr (Or.inr (slot_ne (Or.inr (hw _ (List.mem_of_getElem? (i := 97) rfl))) (Or.inl (hw _ (List.mem_of_getElem? (i := 141) rfl))) (by decide) (t := .int) (t' := .int) (by decide) (by decide)))
  have F_offset_a := F_offset_a.other wr (Or.inr (slot_ne (Or.inl (hw _ (List.mem_of_getElem? (i := 129) rfl))) (Or.inl (hw _ (List.mem_of_getElem? (i := 141) rfl))) (by decide) (t := .int) (t' := .int) (by decide) (by decide)))
  have F_line_a := F_line_a.other wr (Or.inr (slot_ne (Or.inl (hw _ (List.mem_of_getElem? (i := 86) rfl))) (Or.inl (hw _ (List.mem_of_getElem? (i := 141) rfl))) (by decide) (t := .int) (t' := .int) (by decide) (by decide)))
  have F_lineStart_a := F_lineStart_a.same wr
  have F_offset_b := F_offset_b.other wr (Or.inl (Ne.symm ne_a_b))
  have F_line_b := F_line_b.other wr (Or.inl (Ne.symm ne_a_b))
  have F_lineStart_b := F_lineStart_b.other wr (Or.inl (Ne.symm ne_a_b))
  show Go p e below _ _ T (mkF m 24 #[.val (.ref a), .val (.ref b)] [])
  refine Go.retV X hx hret hlk (hb hby d14_24) (fun _ _ q _ => own_fin q (by decide) (by decide)) ?_
  try rw [eT]
  exact ⟨rfl, N, K, F_text_a, F_textLength_a, F_offset_a, F_line_a, F_lineStart_a⟩
theorem d18_0 : decode prog_36_method_18_code 0 = .ok (.aload_n 0, 1) := by decide +kernel
theorem d18_1 : decode prog_36_method_18_code 1 = .ok (.getfield 55, 3) := by decide +kernel
theorem d18_4 : decode prog_36_method_18_code 4 = .ok (.istore_n 1, 1) := by decide +kernel
theorem d18_5 : decode prog_36_method_18_code 5 = .ok (.iload_n 1, 1) := by decide +kernel
theorem d18_6 : decode prog_36_method_18_code 6 = .ok (.istore_n 2, 1) := by decide +kernel
theorem d18_7 : decode prog_36_method_18_code 7 = .ok (.iload_n 2, 1) := by decide +kernel
theorem d18_8 : decode prog_36_method_18_code 8 = .ok (.aload_n 0, 1) := by decide +kernel
theorem d18_9 : decode prog_36_method_18_code 9 = .ok (.getfield 46, 3) := by decide +kernel
theorem d18_12 : decode prog_36_method_18_code 12 = .ok (.if_icmp .ge 31, 3) := by decide +kernel
theorem d18_15 : decode prog_36_method_18_code 15 = .ok (.aload_n 0, 1) := by decide +kernel
theorem d18_16 : decode prog_36_method_18_code 16 = .ok (.getfield 42, 3) := by decide +kernel
theorem d18_19 : decode prog_36_method_18_code 19 = .ok (.iload_n 2, 1) := by decide +kernel
theorem d18_20 : decode prog_36_method_18_code 20 = .ok (.caload, 1) := by decide +kernel
theorem d18_21 : decode prog_36_method_18_code 21 = .ok (.bipush 32, 2) := by decide +kernel
theorem d18_23 : decode prog_36_method_18_code 23 = .ok (.if_icmp .eq 14, 3) := by decide +kernel
theorem d18_26 : decode prog_36_method_18_code 26 = .ok (.aload_n 0, 1) := by decide +kernel
theorem d18_27 : decode prog_36_method_18_code 27 = .ok (.getfield 42, 3) := by decide +kernel
theorem d18_30 : decode prog_36_method_18_code 30 = .ok (.iload_n 2, 1) := by decide +kernel
theorem d18_31 : decode prog_36_method_18_code 31 = .ok (.caload, 1) := by decide +kernel
theorem d18_32 : decode prog_36_method_18_code 32 = .ok (.bipush 9, 2) := by decide +kernel
theorem d18_34 : decode prog_36_method_18_code 34 = .ok (.if_icmp .ne 9, 3) := by decide +kernel
theorem d18_37 : decode prog_36_method_18_code 37 = .ok (.iinc 2 1, 3) := by decide +kernel
theorem d18_40 : decode prog_36_method_18_code 40 = .ok (.goto (-33), 3) := by decide +kernel
theorem d18_43 : decode prog_36_method_18_code 43 = .ok (.aload_n 0, 1) := by decide +kernel
theorem d18_44 : decode prog_36_method_18_code 44 = .ok (.iload_n 2, 1) := by decide +kernel
theorem d18_45 : decode prog_36_method_18_code 45 = .ok (.putfield 55, 3) := by decide +kernel
theorem d18_48 : decode prog_36_method_18_code 48 = .ok (.iload_n 2, 1) := by decide +kernel
theorem d18_49 : decode prog_36_method_18_code 49 = .ok (.iload_n 1, 1) := by decide +kernel
theorem d18_50 : decode prog_36_method_18_code 50 = .ok (.if_icmp .le 7, 3) := by decide +kernel
theorem d18_53 : decode prog_36_method_18_code 53 = .ok (.iconst 1, 1) := by decide +kernel
theorem d18_54 : decode prog_36_method_18_code 54 = .ok (.goto 4, 3) := by decide +kernel
theorem d18_57 : decode prog_36_method_18_code 57 = .ok (.iconst 0, 1) := by decide +kernel
theorem d18_58 : decode prog_36_method_18_code 58 = .ok (.ireturn, 1) := by decide +kernel
theorem pn18 : plainFor (⟨"com/example/text_to_shapes/texttoshapes/idl/SourceReader", "sp", "()Z"⟩ : MethodName) = true := plainFor_of_name (by first | (simp [plainName, overriddenIn]; done) | decide +kernel)
theorem ef_rmSp (m : MethodId) (x0 : Addr) : entryFrame m #[(.ref x0)] 3 = mkF m 0 #[.val (.ref x0), .unset, .unset] [] := by first | (simp [entryFrame, mkF, argsToLocals, Value.category]; done) | rfl
set_option maxRecDepth 65536 in
set_option maxHeartbeats 40000000 in
theorem rmSp {l : Launch} {Z : State} {a0 : Array Value} (hw : ∀ d ∈ tables_1, d.before a0 Z = true) (a t : Addr) (nN sN : Nat) (li ls : Int32) (Tx : Nat → Int32) (h0 : Heap) (n0 : Nat) (g_a : n0 ≤ a) (ne_a_t : a ≠ t) (hnN : nN ≤ 4) (hsN : sN ≤ nN) (E_a : Exa Z h0 a "com/example/text_to_shapes/texttoshapes/idl/SourceReader") (F_text_a : Fld Z h0 a "com/example/text_to_shapes/texttoshapes/idl/SourceReader" "text" "[C" (.ref t)) (F_textLength_a : Fld Z h0 a "com/example/text_to_shapes/texttoshapes/idl/SourceReader" "textLength" "I" (.int (Int32.ofNat nN))) (F_offset_a : Fld Z h0 a "com/example/text_to_shapes/texttoshapes/idl/SourceReader" "offset" "I" (.int (Int32.ofNat sN))) (F_line_a : Fld Z h0 a "com/example/text_to_shapes/texttoshapes/idl/SourceReader" "line" "I" (.int li)) (F_lineStart_a : Fld Z h0 a "com/example/text_to_shapes/texttoshapes/idl/SourceReader" "lineStart" "I" (.int ls)) (V_t : AV Z h0 t .char 4 (fun j => .int (Tx j))) :
    Met l Z (⟨"com/example/text_to_shapes/texttoshapes/idl/SourceReader", "sp", "()Z"⟩ : MethodName) prog_36_method_18_code 3 (some .boolean) [] ({ frames := 0, cells := 0, slots := 0, locals := 0 } : Room) #[(.ref a)] h0 (fun v h L => v = some (.int (own_gt (own_it Tx nN 4 sN) sN)) ∧ Fr n0 L ∧ Keep h0 h [a] ∧ Fld Z h a "com/example/text_to_shapes/texttoshapes/idl/SourceReader" "text" "[C" (.ref t) ∧ Fld Z h a "com/example/text_to_shapes/texttoshapes/idl/SourceReader" "textLength" "I" (.int (Int32.ofNat nN)) ∧ Fld Z h a "com/example/text_to_shapes/texttoshapes/idl/SourceReader" "offset" "I" (.int (Int32.ofNat (own_it Tx nN 4 sN))) ∧ Fld Z h a "com/example/text_to_shapes/texttoshapes/idl/SourceReader" "line" "I" (.int li) ∧ Fld Z h a "com/example/text_to_shapes/texttoshapes/idl/SourceReader" "lineStart" "I" (.int ls)) := by
  refine Met.mk pn18 ?_
  intro p e s m below meth c T hx hby hml hown hnm hret hlk hZ X eT
  refine Go.cast (ef_rmSp m a) ?_
  have N := Fr.nil n0
  have K := Keep.refl h0 [a]
  show Go p e below _ _ T (mkF m 0 #[.val (.ref a), .unset, .unset] [])
  refine Go.of (fun _ kq => XS.aloadN X.here hx rfl (hb hby d18_0) rfl rfl kq) ?_
  show Go p e below _ _ T (mkF m 1 #[.val (.ref a), .unset, .unset] [(.ref a)])
  refine Go.getF X hx hZ hown (hw _ (List.mem_of_getElem? (i := 128) rfl)) Via.refl eT F_offset_a (hb hby d18_1) ?_
  intro T X eT
  show Go p e below _ _ T (mkF m 4 #[.val (.ref a), .unset, .unset] [(.int (Int32.ofNat sN))])
  refine Go.of (fun _ kq => XS.istoreN X.here hx rfl (hb hby d18_4) rfl (l' := #[.val (.ref a), .val (.int (Int32.ofNat sN)), .unset]) rfl kq) ?_
  show Go p e below _ _ T (mkF m 5 #[.val (.ref a), .val (.int (Int32.ofNat sN)), .unset] [])
  refine Go.of (fun _ kq => XS.iloadN X.here hx rfl (hb hby d18_5) rfl kq) ?_
  show Go p e below _ _ T (mkF m 6 #[.val (.ref a), .val (.int (Int32.ofNat sN)), .unset] [(.int (Int32.ofNat sN))])
  refine Go.of (fun _ kq => XS.istoreN X.here hx rfl (hb hby d18_6) rfl (l' := #[.val (.ref a), .val (.int (Int32.ofNat sN)), .val (.int (Int32.ofNat sN))]) rfl kq) ?_
  show Go p e below _ _ T (mkF m 7 #[.val (.ref a), .val (.int (Int32.ofNat sN)), .val (.int (Int32.ofNat sN))] [])
  refine Go.loop (α := Nat) (fun i => nN - i) (fun i locs h => Fr n0 locs ∧ Keep h0 h [a] ∧ Exa Z h a "com/example/text_to_shapes/texttoshapes/idl/SourceReader" ∧ Fld Z h a "com/example/text_to_shapes/texttoshapes/idl/SourceReader" "text" "[C" (.ref t) ∧ Fld Z h a "com/example/text_to_shapes/texttoshapes/idl/SourceReader" "textLength" "I" (.int (Int32.ofNat nN)) ∧ Fld Z h a "com/example/text_to_shapes/texttoshapes/idl/SourceReader" "offset" "I" (.int (Int32.ofNat sN)) ∧ Fld Z h a "com/example/text_to_shapes/texttoshapes/idl/SourceReader" "line" "I" (.int li) ∧ Fld Z h a "com/example/text_to_shapes/texttoshapes/idl/SourceReader" "lineStart" "I" (.int ls) ∧ AV Z h t .char 4 (fun j => .int (Tx j)) ∧ i ≤ nN ∧ ∃ k, nN ≤ i + k ∧ own_it Tx nN k i = own_it Tx nN 4 sN) (fun i => (mkF m 7 #[.val (.ref a), .val (.int (Int32.ofNat sN)), .val (.int (Int32.ofNat i))] [])) ?_ sN X eT ?_
  · intro i T locs h X eT hI ih
    obtain ⟨N, K, E_a, F_text_a, F_textLength_a, F_offset_a, F_line_a, F_lineStart_a, V_t, hin, hit⟩ := hI
    show Go p e below _ _ T (mkF m 7 #[.val (.ref a), .val (.int (Int32.ofNat sN)), .val (.int (Int32.ofNat i))] [])
    refine Go.of (fun _ kq => XS.iloadN X.here hx rfl (hb hby d18_7) rfl kq) ?_
    show Go p e below _ _ T (mkF m 8 #[.val (.ref a), .val (.int (Int32.ofNat sN)), .val (.int (Int32.ofNat i))] [(.int (Int32.ofNat i))])
    refine Go.of (fun _ kq => XS.aloadN X.here hx rfl (hb hby d18_8) rfl rfl kq) ?_
    show Go p e below _ _ T (mkF m 9 #[.val (.ref a), .val (.int (Int32.ofNat sN)), .val (.int (Int32.ofNat i))] [(.ref a), (.int (Int32.ofNat i))])
    refine Go.getF X hx hZ hown (hw _ (List.mem_of_getElem? (i := 96) rfl)) Via.refl eT F_textLength_a (hb hby d18_9) ?_
    intro T X eT
    show Go p e below _ _ T (mkF m 12 #[.val (.ref a), .val (.int (Int32.ofNat sN)), .val (.int (Int32.ofNat i))] [(.int (Int32.ofNat nN)), (.int (Int32.ofNat i))])
    by_cases hc12 : (Int32.ofNat i) < (Int32.ofNat nN)
    · refine Go.of (fun _ kq => XS.icmpNo X.here hx rfl (hb hby d18_12) rfl (tlt hc12).2.1 kq) ?_
      show Go p e below _ _ T (mkF m 15 #[.val (.ref a), .val (.int (Int32.ofNat sN)), .val (.int (Int32.ofNat i))] [])
      refine Go.of (fun _ kq => XS.aloadN X.here hx rfl (hb hby d18_15) rfl rfl kq) ?_
      show Go p e below _ _ T (mkF m 16 #[.val (.ref a), .val (.int (Int32.ofNat sN)), .val (.int (Int32.ofNat i))] [(.ref a)])
      refine Go.getF X hx hZ hown (hw _ (List.mem_of_getElem? (i := 94) rfl)) Via.refl eT F_text_a (hb hby d18_16) ?_
      intro T X eT
      show Go p e below _ _ T (mkF m 19 #[.val (.ref a), .val (.int (Int32.ofNat sN)), .val (.int (Int32.ofNat i))] [(.ref t)])
      refine Go.of (fun _ kq => XS.iloadN X.here hx rfl (hb hby d18_19) rfl kq) ?_
      show Go p e below _ _ T (mkF m 20 #[.val (.ref a), .val (.int (Int32.ofNat sN)), .val (.int (Int32.ofNat i))] [(.int (Int32.ofNat i)), (.ref t)])
      refine Go.ldC (.int (Tx i)) X hx hZ eT V_t (show Inb (Int32.ofNat i) 4 from (own_inb (show i < 4 by have := (own_ltn (i := i) (n := nN) (by omega) (by omega)).mp hc12; omega) (by decide))) (by show Value.int (Tx _) = _; rw [own_nat (by omega)]) (hb hby d18_20) ?_
      show Go p e below _ _ T (mkF m 21 #[.val (.ref a), .val (.int (Int32.ofNat sN)), .val (.int (Int32.ofNat i))] [(.int (Tx i))])
      refine Go.of (fun _ kq => XS.bipush X.here hx rfl (hb hby d18_21) kq) ?_
      show Go p e below _ _ T (mkF m 23 #[.val (.ref a), .val (.int (Int32.ofNat sN)), .val (.int (Int32.ofNat i))] [(.int (32 : Int32)), (.int (Tx i))])
      by_cases hc23 : (Tx i) = (32 : Int32)
      · refine Go.of (fun _ kq => XS.icmpYes X.here hx rfl (pc0 := 23) (pc' := 37) rfl (hb hby d18_23) rfl (teq hc23).1 (by decide) (by decide) kq) ?_
        show Go p e below _ _ T (mkF m 37 #[.val (.ref a), .val (.int (Int32.ofNat sN)), .val (.int (Int32.ofNat i))] [])
        refine Go.of (fun _ kq => XS.iinc X.here hx rfl (hb hby d18_37) rfl (l' := #[.val (.ref a), .val (.int (Int32.ofNat sN)), .val (.int ((Int32.ofNat i) + (1 : Int32)))]) rfl kq) ?_
        show Go p e below _ _ T (mkF m 40 #[.val (.ref a), .val (.int (Int32.ofNat sN)), .val (.int ((Int32.ofNat i) + (1 : Int32)))] [])
        refine Go.of (fun _ kq => XS.goto X.here hx rfl (pc0 := 40) (pc' := 7) rfl (hb hby d18_40) (by decide) (by decide) kq) ?_
        show Go p e below _ _ T (mkF m 7 #[.val (.ref a), .val (.int (Int32.ofNat sN)), .val (.int ((Int32.ofNat i) + (1 : Int32)))] [])
        rw [own_succ]
        have hbl : own_bl Tx nN i := ⟨((own_ltn (i := i) (n := nN) (by omega) (by omega)).mp hc12), Or.inl hc23⟩
        obtain ⟨k, hk1, hk2⟩ := hit
        have hlt := hbl.1
        obtain ⟨k', rfl⟩ : ∃ k', k = k' + 1 := ⟨k - 1, by omega⟩
        have hk3 : own_it Tx nN k' (i + 1) = own_it Tx nN 4 sN := by rw [← hk2]; show _ = own_it Tx nN k' (own_st Tx nN i); rw [own_st, if_pos hbl]
        exact ih (i + 1) T _ _ (by omega) X eT ⟨N, K, E_a, F_text_a, F_textLength_a, F_offset_a, F_line_a, F_lineStart_a, V_t, (by omega), ⟨k', by omega, hk3⟩⟩
      · refine Go.of (fun _ kq => XS.icmpNo X.here hx rfl (hb hby d18_23) rfl (feq hc23).1 kq) ?_
        show Go p e below _ _ T (mkF m 26 #[.val (.ref a), .val (.int (Int32.ofNat sN)), .val (.int (Int32.ofNat i))] [])
        refine Go.of (fun _ kq => XS.aloadN X.here hx rfl (hb hby d18_26) rfl rfl kq) ?_
        show Go p e below _ _ T (mkF m 27 #[.val (.ref a), .val (.int (Int32.ofNat sN)), .val (.int (Int32.ofNat i))] [(.ref a)])
        refine Go.getF X hx hZ hown (hw _ (List.mem_of_getElem? (i := 94) rfl)) Via.refl eT F_text_a (hb hby d18_27) ?_
        intro T X eT
        show Go p e below _ _ T (mkF m 30 #[.val (.ref a), .val (.int (Int32.ofNat sN)), .val (.int (Int32.ofNat i))] [(.ref t)])
        refine Go.of (fun _ kq => XS.iloadN X.here hx rfl (hb hby d18_30) rfl kq) ?_
        show Go p e below _ _ T (mkF m 31 #[.val (.ref a), .val (.int (Int32.ofNat sN)), .val (.int (Int32.ofNat i))] [(.int (Int32.ofNat i)), (.ref t)])
        refine Go.ldC (.int (Tx i)) X hx hZ eT V_t (show Inb (Int32.ofNat i) 4 from (own_inb (show i < 4 by have := (own_ltn (i := i) (n := nN) (by omega) (by omega)).mp hc12; omega) (by decide))) (by show Value.int (Tx _) = _; rw [own_nat (by omega)]) (hb hby d18_31) ?_
        show Go p e below _ _ T (mkF m 32 #[.val (.ref a), .val (.int (Int32.ofNat sN)), .val (.int (Int32.ofNat i))] [(.int (Tx i))])
        refine Go.of (fun _ kq => XS.bipush X.here hx rfl (hb hby d18_32) kq) ?_
        show Go p e below _ _ T (mkF m 34 #[.val (.ref a), .val (.int (Int32.ofNat sN)), .val (.int (Int32.ofNat i))] [(.int (9 : Int32)), (.int (Tx i))])
        by_cases hc34 : (Tx i) = (9 : Int32)
        · refine Go.of (fun _ kq => XS.icmpNo X.here hx rfl (hb hby d18_34) rfl (teq hc34).2 kq) ?_
          show Go p e below _ _ T (mkF m 37 #[.val (.ref a), .val (.int (Int32.ofNat sN)), .val (.int (Int32.ofNat i))] [])
          refine Go.of (fun _ kq => XS.iinc X.here hx rfl (hb hby d18_37) rfl (l' := #[.val (.ref a), .val (.int (Int32.ofNat sN)), .val (.int ((Int32.ofNat i) + (1 : Int32)))]) rfl kq) ?_
          show Go p e below _ _ T (mkF m 40 #[.val (.ref a), .val (.int (Int32.ofNat sN)), .val (.int ((Int32.ofNat i) + (1 : Int32)))] [])
          refine Go.of (fun _ kq => XS.goto X.here hx rfl (pc0 := 40) (pc' := 7) rfl (hb hby d18_40) (by decide) (by decide) kq) ?_
          show Go p e below _ _ T (mkF m 7 #[.val (.ref a), .val (.int (Int32.ofNat sN)), .val (.int ((Int32.ofNat i) + (1 : Int32)))] [])
          rw [own_succ]
          have hbl : own_bl Tx nN i := ⟨((own_ltn (i := i) (n := nN) (by omega) (by omega)).mp hc12), Or.inr hc34⟩
          obtain ⟨k, hk1, hk2⟩ := hit
          have hlt := hbl.1
          obtain ⟨k', rfl⟩ : ∃ k', k = k' + 1 := ⟨k - 1, by omega⟩
          have hk3 : own_it Tx nN k' (i + 1) = own_it Tx nN 4 sN := by rw [← hk2]; show _ = own_it Tx nN k' (own_st Tx nN i); rw [own_st, if_pos hbl]
          exact ih (i + 1) T _ _ (by omega) X eT ⟨N, K, E_a, F_text_a, F_textLength_a, F_offset_a, F_line_a, F_lineStart_a, V_t, (by omega), ⟨k', by omega, hk3⟩⟩
        · refine Go.of (fun _ kq => XS.icmpYes X.here hx rfl (pc0 := 34) (pc' := 43) rfl (hb hby d18_34) rfl (feq hc34).2 (by decide) (by decide) kq) ?_
          show Go p e below _ _ T (mkF m 43 #[.val (.ref a), .val (.int (Int32.ofNat sN)), .val (.int (Int32.ofNat i))] [])
          obtain ⟨k, hk1, hk2⟩ := hit
          have hend : i = own_it Tx nN 4 sN := by rw [← hk2]; exact (own_it_fix (fun q => q.2.elim hc23 hc34) k).symm
          refine Go.of (fun _ kq => XS.aloadN X.here hx rfl (hb hby d18_43) rfl rfl kq) ?_
          show Go p e below _ _ T (mkF m 44 #[.val (.ref a), .val (.int (Int32.ofNat sN)), .val (.int (Int32.ofNat i))] [(.ref a)])
          refine Go.of (fun _ kq => XS.iloadN X.here hx rfl (hb hby d18_44) rfl kq) ?_
          show Go p e below _ _ T (mkF m 45 #[.val (.ref a), .val (.int (Int32.ofNat sN)), .val (.int (Int32.ofNat i))] [(.int (Int32.ofNat i)), (.ref a)])
          refine Go.putF X hx hZ hown (hw _ (List.mem_of_getElem? (i := 128) rfl)) Via.refl eT F_offset_a E_a (Or.inl (hw _ (List.mem_of_getElem? (i := 129) rfl))) (hw _ (List.mem_of_getElem? (i := 4) rfl)) (ty := .int) (by decide) rfl rfl (hb hby d18_45) ?_
          intro T h X eT wr
          have N := Fr.snoc X N g_a
          have K := K.wr wr (Or.inl (List.mem_of_getElem? (i := 0) rfl))
          have E_a := E_a.wr wr
          have F_text_a := F_text_a.other wr (Or.inr (slot_ne (Or.inr (hw _ (List.mem_of_getElem? (i := 95) rfl))) (Or.inl (hw _ (List.mem_of_getElem? (i := 129) rfl))) (by decide) (t := (.array .char)) (t' := .int) (by decide) (by decide)))
          have F_textLength_a := F_textLength_a.other wr (Or.inr (slot_ne (Or.inr (hw _ (List.mem_of_getElem? (i := 97) rfl))) (Or.inl (hw _ (List.mem_of_getElem? (i := 129) rfl))) (by decide) (t := .int) (t' := .int) (by decide) (by decide)))
          have F_offset_a := F_offset_a.same wr
          have F_line_a := F_line_a.other wr (Or.inr (slot_ne (Or.inl (hw _ (List.mem_of_getElem? (i := 86) rfl))) (Or.inl (hw _ (List.mem_of_getElem? (i := 129) rfl))) (by decide) (t := .int) (t' := .int) (by decide) (by decide)))
          have F_lineStart_a := F_lineStart_a.other wr (Or.inr (slot_ne (Or.inl (hw _ (List.mem_of_getElem? (i := 141) rfl))) (Or.inl (hw _ (List.mem_of_getElem? (i := 129) rfl))) (by decide) (t := .int) (t' := .int) (by decide) (by decide)))
          have V_t := V_t.other wr (Ne.symm ne_a_t)
          show Go p e below _ _ T (mkF m 48 #[.val (.ref a), .val (.int (Int32.ofNat sN)), .val (.int (Int32.ofNat i))] [])
          refine Go.of (fun _ kq => XS.iloadN X.here hx rfl (hb hby d18_48) rfl kq) ?_
          show Go p e below _ _ T (mkF m 49 #[.val (.ref a), .val (.int (Int32.ofNat sN)), .val (.int (Int32.ofNat i))] [(.int (Int32.ofNat i))])
          refine Go.of (fun _ kq => XS.iloadN X.here hx rfl (hb hby d18_49) rfl kq) ?_
          show Go p e below _ _ T (mkF m 50 #[.val (.ref a), .val (.int (Int32.ofNat sN)), .val (.int (Int32.ofNat i))] [(.int (Int32.ofNat sN)), (.int (Int32.ofNat i))])
          by_cases hc50 : (Int32.ofNat sN) < (Int32.ofNat i)
          · refine Go.of (fun _ kq => XS.icmpNo X.here hx rfl (hb hby d18_50) rfl (tlt hc50).2.2.2 kq) ?_
            show Go p e below _ _ T (mkF m 53 #[.val (.ref a), .val (.int (Int32.ofNat sN)), .val (.int (Int32.ofNat i))] [])
            refine Go.of (fun _ kq => XS.iconst X.here hx rfl (hb hby d18_53) kq) ?_
            show Go p e below _ _ T (mkF m 54 #[.val (.ref a), .val (.int (Int32.ofNat sN)), .val (.int (Int32.ofNat i))] [(.int (1 : Int32))])
            refine Go.of (fun _ kq => XS.goto X.here hx rfl (pc0 := 54) (pc' := 58) rfl (hb hby d18_54) (by decide) (by decide) kq) ?_
            show Go p e below _ _ T (mkF m 58 #[.val (.ref a), .val (.int (Int32.ofNat sN)), .val (.int (Int32.ofNat i))] [(.int (1 : Int32))])
            refine Go.retN X hx hret (by simp) hlk (hb hby d18_58) (fun _ _ q _ => own_fin q (by decide) (by decide)) ?_
            try rw [eT]
            rw [hend] at F_offset_a
            exact ⟨by rw [show own_gt (own_it Tx nN 4 sN) sN = 1 by rw [← hend]; unfold own_gt; rw [if_pos ((own_ltn (by omega) (by omega)).mp hc50)]]; rfl, N, K, F_text_a, F_textLength_a, F_offset_a, F_line_a, F_lineStart_a⟩
          · refine Go.of (fun _ kq => XS.icmpYes X.here hx rfl (pc0 := 50) (pc' := 57) rfl (hb hby d18_50) rfl (flt hc50).2.2.2 (by decide) (by decide) kq) ?_
            show Go p e below _ _ T (mkF m 57 #[.val (.ref a), .val (.int (Int32.ofNat sN)), .val (.int (Int32.ofNat i))] [])
            refine Go.of (fun _ kq => XS.iconst X.here hx rfl (hb hby d18_57) kq) ?_
            show Go p e below _ _ T (mkF m 58 #[.val (.ref a), .val (.int (Int32.ofNat sN)), .val (.int (Int32.ofNat i))] [(.int (0 : Int32))])
            refine Go.retN X hx hret (by simp) hlk (hb hby d18_58) (fun _ _ q _ => own_fin q (by decide) (by decide)) ?_
            try rw [eT]
            rw [hend] at F_offset_a
            exact ⟨by rw [show own_gt (own_it Tx nN 4 sN) sN = 0 by rw [← hend]; unfold own_gt; rw [if_neg (fun q => hc50 ((own_ltn (by omega) (by omega)).mpr q))]]; rfl, N, K, F_text_a, F_textLength_a, F_offset_a, F_line_a, F_lineStart_a⟩
    · refine Go.of (fun _ kq => XS.icmpYes X.here hx rfl (pc0 := 12) (pc' := 43) rfl (hb hby d18_12) rfl (flt hc12).2.1 (by decide) (by decide) kq) ?_
      show Go p e below _ _ T (mkF m 43 #[.val (.ref a), .val (.int (Int32.ofNat sN)), .val (.int (Int32.ofNat i))] [])
      obtain ⟨k, hk1, hk2⟩ := hit
      have hend : i = own_it Tx nN 4 sN := by rw [← hk2]; exact (own_it_fix (fun q => hc12 ((own_ltn (by omega) (by omega)).mpr q.1)) k).symm
      refine Go.of (fun _ kq => XS.aloadN X.here hx rfl (hb hby d18_43) rfl rfl kq) ?_
      show Go p e below _ _ T (mkF m 44 #[.val (.ref a), .val (.int (Int32.ofNat sN)), .val (.int (Int32.ofNat i))] [(.ref a)])
      refine Go.of (fun _ kq => XS.iloadN X.here hx rfl (hb hby d18_44) rfl kq) ?_
      show Go p e below _ _ T (mkF m 45 #[.val (.ref a), .val (.int (Int32.ofNat sN)), .val (.int (Int32.ofNat i))] [(.int (Int32.ofNat i)), (.ref a)])
      refine Go.putF X hx hZ hown (hw _ (List.mem_of_getElem? (i := 128) rfl)) Via.refl eT F_offset_a E_a (Or.inl (hw _ (List.mem_of_getElem? (i := 129) rfl))) (hw _ (List.mem_of_getElem? (i := 4) rfl)) (ty := .int) (by decide) rfl rfl (hb hby d18_45) ?_
      intro T h X eT wr
      have N := Fr.snoc X N g_a
      have K := K.wr wr (Or.inl (List.mem_of_getElem? (i := 0) rfl))
      have E_a := E_a.wr wr
      have F_text_a := F_text_a.other wr (Or.inr (slot_ne (Or.inr (hw _ (List.mem_of_getElem? (i := 95) rfl))) (Or.inl (hw _ (List.mem_of_getElem? (i := 129) rfl))) (by decide) (t := (.array .char)) (t' := .int) (by decide) (by decide)))
      have F_textLength_a := F_textLength_a.other wr (Or.inr (slot_ne (Or.inr (hw _ (List.mem_of_getElem? (i := 97) rfl))) (Or.inl (hw _ (List.mem_of_getElem? (i := 129) rfl))) (by decide) (t := .int) (t' := .int) (by decide) (by decide)))
      have F_offset_a := F_offset_a.same wr
      have F_line_a := F_line_a.other wr (Or.inr (slot_ne (Or.inl (hw _ (List.mem_of_getElem? (i := 86) rfl))) (Or.inl (hw _ (List.mem_of_getElem? (i := 129) rfl))) (by decide) (t := .int) (t' := .int) (by decide) (by decide)))
      have F_lineStart_a := F_lineStart_a.other wr (Or.inr (slot_ne (Or.inl (hw _ (List.mem_of_getElem? (i := 141) rfl))) (Or.inl (hw _ (List.mem_of_getElem? (i := 129) rfl))) (by decide) (t := .int) (t' := .int) (by decide) (by decide)))
      have V_t := V_t.other wr (Ne.symm ne_a_t)
      show Go p e below _ _ T (mkF m 48 #[.val (.ref a), .val (.int (Int32.ofNat sN)), .val (.int (Int32.ofNat i))] [])
      refine Go.of (fun _ kq => XS.iloadN X.here hx rfl (hb hby d18_48) rfl kq) ?_
      show Go p e below _ _ T (mkF m 49 #[.val (.ref a), .val (.int (Int32.ofNat sN)), .val (.int (Int32.ofNat i))] [(.int (Int32.ofNat i))])
      refine Go.of (fun _ kq => XS.iloadN X.here hx rfl (hb hby d18_49) rfl kq) ?_
      show Go p e below _ _ T (mkF m 50 #[.val (.ref a), .val (.int (Int32.ofNat sN)), .val (.int (Int32.ofNat i))] [(.int (Int32.ofNat sN)), (.int (Int32.ofNat i))])
      by_cases hc50 : (Int32.ofNat sN) < (Int32.ofNat i)
      · refine Go.of (fun _ kq => XS.icmpNo X.here hx rfl (hb hby d18_50) rfl (tlt hc50).2.2.2 kq) ?_
        show Go p e below _ _ T (mkF m 53 #[.val (.ref a), .val (.int (Int32.ofNat sN)), .val (.int (Int32.ofNat i))] [])
        refine Go.of (fun _ kq => XS.iconst X.here hx rfl (hb hby d18_53) kq) ?_
        show Go p e below _ _ T (mkF m 54 #[.val (.ref a), .val (.int (Int32.ofNat sN)), .val (.int (Int32.ofNat i))] [(.int (1 : Int32))])
        refine Go.of (fun _ kq => XS.goto X.here hx rfl (pc0 := 54) (pc' := 58) rfl (hb hby d18_54) (by decide) (by decide) kq) ?_
        show Go p e below _ _ T (mkF m 58 #[.val (.ref a), .val (.int (Int32.ofNat sN)), .val (.int (Int32.ofNat i))] [(.int (1 : Int32))])
        refine Go.retN X hx hret (by simp) hlk (hb hby d18_58) (fun _ _ q _ => own_fin q (by decide) (by decide)) ?_
        try rw [eT]
        rw [hend] at F_offset_a
        exact ⟨by rw [show own_gt (own_it Tx nN 4 sN) sN = 1 by rw [← hend]; unfold own_gt; rw [if_pos ((own_ltn (by omega) (by omega)).mp hc50)]]; rfl, N, K, F_text_a, F_textLength_a, F_offset_a, F_line_a, F_lineStart_a⟩
      · refine Go.of (fun _ kq => XS.icmpYes X.here hx rfl (pc0 := 50) (pc' := 57) rfl (hb hby d18_50) rfl (flt hc50).2.2.2 (by decide) (by decide) kq) ?_
        show Go p e below _ _ T (mkF m 57 #[.val (.ref a), .val (.int (Int32.ofNat sN)), .val (.int (Int32.ofNat i))] [])
        refine Go.of (fun _ kq => XS.iconst X.here hx rfl (hb hby d18_57) kq) ?_
        show Go p e below _ _ T (mkF m 58 #[.val (.ref a), .val (.int (Int32.ofNat sN)), .val (.int (Int32.ofNat i))] [(.int (0 : Int32))])
        refine Go.retN X hx hret (by simp) hlk (hb hby d18_58) (fun _ _ q _ => own_fin q (by decide) (by decide)) ?_
        try rw [eT]
        rw [hend] at F_offset_a
        exact ⟨by rw [show own_gt (own_it Tx nN 4 sN) sN = 0 by rw [← hend]; unfold own_gt; rw [if_neg (fun q => hc50 ((own_ltn (by omega) (by omega)).mpr q))]]; rfl, N, K, F_text_a, F_textLength_a, F_offset_a, F_line_a, F_lineStart_a⟩
  · exact ⟨N, K, E_a, F_text_a, F_textLength_a, F_offset_a, F_line_a, F_lineStart_a, V_t, hsN, ⟨4, by omega, rfl⟩⟩
theorem pn0 : plainFor x = true := plainFor_of_name (by first | (simp [plainName, overriddenIn]; done) | decide +kernel)
theorem ef_rm0 (m : MethodId) (x0 : Int32) (x1 : Int32) (x2 : Int32) (x3 : Int32) (x4 : Int32) (x5 : Int32) : entryFrame m #[(.int x0), (.int x1), (.int x2), (.int x3), (.int x4), (.int x5)] maxLocals = mkF m 0 #[.val (.int x0), .val (.int x1), .val (.int x2), .val (.int x3), .val (.int x4), .val (.int x5), .unset, .unset, .unset, .unset, .unset, .unset, .unset, .unset, .unset] [] := by first | (simp [entryFrame, mkF, argsToLocals, Value.category, maxLocals]; done) | rfl
set_option maxRecDepth 65536 in
set_option maxHeartbeats 40000000 in
theorem rm0 {l : Launch} {Z : State} {a0 : Array Value} (hw : ∀ d ∈ tables_1, d.before a0 Z = true) (x1 x2 x3 x4 x5 x6 : Int32) (h0 : Heap) (n0 : Nat) (hh0 : Z.heap = h0) (Z0 : n0 ≤ h0.size) :
    MetW l Z x code maxLocals ret tables_1 room_1 #[(.int x1), (.int x2), (.int x3), (.int x4), (.int x5), (.int x6)] (fun v h L => v = some (.int 1) ∧ Fr n0 L) := by
  refine MetW.mk pn0 ?_
  intro p e m below meth c T hx hby hml hown hnm hret hlk hZ X eT hS
  rw [hh0] at eT
  have hk : 0 ≤ h0.size := Nat.zero_le _
  refine Go.cast (ef_rm0 m x1 x2 x3 x4 x5 x6) ?_
  have N := Fr.nil n0
  have K := Keep.refl h0 []
  show Go p e below _ _ T (mkF m 0 #[.val (.int x1), .val (.int x2), .val (.int x3), .val (.int x4), .val (.int x5), .val (.int x6), .unset, .unset, .unset, .unset, .unset, .unset, .unset, .unset, .unset] [])
  refine Go.of (fun _ kq => XS.iconst X.here hx rfl (hb hby at_0) kq) ?_
  show Go p e below _ _ T (mkF m 1 #[.val (.int x1), .val (.int x2), .val (.int x3), .val (.int x4), .val (.int x5), .val (.int x6), .unset, .unset, .unset, .unset, .unset, .unset, .unset, .unset, .unset] [(.int (4 : Int32))])
  refine Go.newP X hx hZ (hw _ (List.mem_of_getElem? (i := 0) rfl)) eT (hb hby at_1) (by decide) 4 (by decide) (by decide) (by decide) (by decide) ?_
  intro T h b1 X eT E ha V_b1
  have z_b1 : h0.size ≤ b1 := by rw [ha]; exact K.1
  have g_b1 : n0 ≤ b1 := Nat.le_trans Z0 z_b1
  have K := K.ext E
  have hk := Nat.le_trans hk E.1
  have V_b1 : AV Z h b1 .char 4 (fun _ => .int 0) := V_b1
  show Go p e below _ _ T (mkF m 3 #[.val (.int x1), .val (.int x2), .val (.int x3), .val (.int x4), .val (.int x5), .val (.int x6), .unset, .unset, .unset, .unset, .unset, .unset, .unset, .unset, .unset] [(.ref b1)])
  have V_b1 : AV Z h b1 .char 4 (fun j => .int ((fun _ => (0 : Int32)) j)) := V_b1
  refine Go.of (fun _ kq => XS.astore X.here hx rfl (hb hby at_3) rfl rfl (l' := #[.val (.int x1), .val (.int x2), .val (.int x3), .val (.int x4), .val (.int x5), .val (.int x6), .val (.ref b1), .unset, .unset, .unset, .unset, .unset, .unset, .unset, .unset]) rfl kq) ?_
  show Go p e below _ _ T (mkF m 5 #[.val (.int x1), .val (.int x2), .val (.int x3), .val (.int x4), .val (.int x5), .val (.int x6), .val (.ref b1), .unset, .unset, .unset, .unset, .unset, .unset, .unset, .unset] [])
  refine Go.of (fun _ kq => XS.aload X.here hx rfl (hb hby at_5) rfl rfl kq) ?_
  show Go p e below _ _ T (mkF m 7 #[.val (.int x1), .val (.int x2), .val (.int x3), .val (.int x4), .val (.int x5), .val (.int x6), .val (.ref b1), .unset, .unset, .unset, .unset, .unset, .unset, .unset, .unset] [(.ref b1)])
  refine Go.of (fun _ kq => XS.iconst X.here hx rfl (hb hby at_7) kq) ?_
  show Go p e below _ _ T (mkF m 8 #[.val (.int x1), .val (.int x2), .val (.int x3), .val (.int x4), .val (.int x5), .val (.int x6), .val (.ref b1), .unset, .unset, .unset, .unset, .unset, .unset, .unset, .unset] [(.int (0 : Int32)), (.ref b1)])
  refine Go.of (fun _ kq => XS.iloadN X.here hx rfl (hb hby at_8) rfl kq) ?_
  show Go p e below _ _ T (mkF m 9 #[.val (.int x1), .val (.int x2), .val (.int x3), .val (.int x4), .val (.int x5), .val (.int x6), .val (.ref b1), .unset, .unset, .unset, .unset, .unset, .unset, .unset, .unset] [(.int x1), (.int (0 : Int32)), (.ref b1)])
  refine Go.of (X.ldcInt hx hown (mvT hZ (hw _ (List.mem_of_getElem? (i := 1) rfl))) (g := (mkF m 9 #[.val (.int x1), .val (.int x2), .val (.int x3), .val (.int x4), .val (.int x5), .val (.int x6), .val (.ref b1), .unset, .unset, .unset, .unset, .unset, .unset, .unset, .unset] [(.int x1), (.int (0 : Int32)), (.ref b1)])) rfl (hb hby at_9)) ?_
  show Go p e below _ _ T (mkF m 11 #[.val (.int x1), .val (.int x2), .val (.int x3), .val (.int x4), .val (.int x5), .val (.int x6), .val (.ref b1), .unset, .unset, .unset, .unset, .unset, .unset, .unset, .unset] [(.int (65535 : Int32)), (.int x1), (.int (0 : Int32)), (.ref b1)])
  refine Go.of (fun _ kq => XS.iand X.here hx rfl (hb hby at_11) rfl kq) ?_
  show Go p e below _ _ T (mkF m 12 #[.val (.int x1), .val (.int x2), .val (.int x3), .val (.int x4), .val (.int x5), .val (.int x6), .val (.ref b1), .unset, .unset, .unset, .unset, .unset, .unset, .unset, .unset] [(.int (x1 &&& (65535 : Int32))), (.int (0 : Int32)), (.ref b1)])
  refine Go.of (fun _ kq => XS.i2c X.here hx rfl (hb hby at_12) rfl kq) ?_
  show Go p e below _ _ T (mkF m 13 #[.val (.int x1), .val (.int x2), .val (.int x3), .val (.int x4), .val (.int x5), .val (.int x6), .val (.ref b1), .unset, .unset, .unset, .unset, .unset, .unset, .unset, .unset] [(.int ((x1 &&& (65535 : Int32)).toUInt32.toUInt16.toUInt32.toInt32)), (.int (0 : Int32)), (.ref b1)])
  have hin : Inb (0 : Int32) 4 := ⟨by decide, by decide⟩
  refine Go.stC X hx hZ eT V_b1 hin (hb hby at_13) ?_
  intro T h X eT wr
  have N := Fr.snoc X N g_b1
  have K := K.wr wr (Or.inr z_b1)
  have hk := Nat.le_trans hk (Nat.le_of_eq wr.size.symm)
  have V_b1 : AV Z h b1 .char 4 (fun j => .int ((updI (fun _ => (0 : Int32)) 0 (nar .char ((x1 &&& (65535 : Int32)).toUInt32.toUInt16.toUInt32.toInt32))) j)) := V_b1.setI wr hin.2
  show Go p e below _ _ T (mkF m 14 #[.val (.int x1), .val (.int x2), .val (.int x3), .val (.int x4), .val (.int x5), .val (.int x6), .val (.ref b1), .unset, .unset, .unset, .unset, .unset, .unset, .unset, .unset] [])
  refine Go.of (fun _ kq => XS.aload X.here hx rfl (hb hby at_14) rfl rfl kq) ?_
  show Go p e below _ _ T (mkF m 16 #[.val (.int x1), .val (.int x2), .val (.int x3), .val (.int x4), .val (.int x5), .val (.int x6), .val (.ref b1), .unset, .unset, .unset, .unset, .unset, .unset, .unset, .unset] [(.ref b1)])
  refine Go.of (fun _ kq => XS.iconst X.here hx rfl (hb hby at_16) kq) ?_
  show Go p e below _ _ T (mkF m 17 #[.val (.int x1), .val (.int x2), .val (.int x3), .val (.int x4), .val (.int x5), .val (.int x6), .val (.ref b1), .unset, .unset, .unset, .unset, .unset, .unset, .unset, .unset] [(.int (1 : Int32)), (.ref b1)])
  refine Go.of (fun _ kq => XS.iloadN X.here hx rfl (hb hby at_17) rfl kq) ?_
  show Go p e below _ _ T (mkF m 18 #[.val (.int x1), .val (.int x2), .val (.int x3), .val (.int x4), .val (.int x5), .val (.int x6), .val (.ref b1), .unset, .unset, .unset, .unset, .unset, .unset, .unset, .unset] [(.int x1), (.int (1 : Int32)), (.ref b1)])
  refine Go.of (fun _ kq => XS.bipush X.here hx rfl (hb hby at_18) kq) ?_
  show Go p e below _ _ T (mkF m 20 #[.val (.int x1), .val (.int x2), .val (.int x3), .val (.int x4), .val (.int x5), .val (.int x6), .val (.ref b1), .unset, .unset, .unset, .unset, .unset, .unset, .unset, .unset] [(.int (16 : Int32)), (.int x1), (.int (1 : Int32)), (.ref b1)])
  refine Go.of (fun _ kq => XS.iushr X.here hx rfl (hb hby at_20) rfl kq) ?_
  show Go p e below _ _ T (mkF m 21 #[.val (.int x1), .val (.int x2), .val (.int x3), .val (.int x4), .val (.int x5), .val (.int x6), .val (.ref b1), .unset, .unset, .unset, .unset, .unset, .unset, .unset, .unset] [(.int ((x1.toUInt32 >>> ((16 : Int32) &&& 31).toUInt32).toInt32)), (.int (1 : Int32)), (.ref b1)])
  refine Go.of (fun _ kq => XS.i2c X.here hx rfl (hb hby at_21) rfl kq) ?_
  show Go p e below _ _ T (mkF m 22 #[.val (.int x1), .val (.int x2), .val (.int x3), .val (.int x4), .val (.int x5), .val (.int x6), .val (.ref b1), .unset, .unset, .unset, .unset, .unset, .unset, .unset, .unset] [(.int (((x1.toUInt32 >>> ((16 : Int32) &&& 31).toUInt32).toInt32).toUInt32.toUInt16.toUInt32.toInt32)), (.int (1 : Int32)), (.ref b1)])
  have hin : Inb (1 : Int32) 4 := ⟨by decide, by decide⟩
  refine Go.stC X hx hZ eT V_b1 hin (hb hby at_22) ?_
  intro T h X eT wr
  have N := Fr.snoc X N g_b1
  have K := K.wr wr (Or.inr z_b1)
  have hk := Nat.le_trans hk (Nat.le_of_eq wr.size.symm)
  have V_b1 : AV Z h b1 .char 4 (fun j => .int ((updI (updI (fun _ => (0 : Int32)) 0 (nar .char ((x1 &&& (65535 : Int32)).toUInt32.toUInt16.toUInt32.toInt32))) 1 (nar .char (((x1.toUInt32 >>> ((16 : Int32) &&& 31).toUInt32).toInt32).toUInt32.toUInt16.toUInt32.toInt32))) j)) := V_b1.setI wr hin.2
  show Go p e below _ _ T (mkF m 23 #[.val (.int x1), .val (.int x2), .val (.int x3), .val (.int x4), .val (.int x5), .val (.int x6), .val (.ref b1), .unset, .unset, .unset, .unset, .unset, .unset, .unset, .unset] [])
  refine Go.of (fun _ kq => XS.aload X.here hx rfl (hb hby at_23) rfl rfl kq) ?_
  show Go p e below _ _ T (mkF m 25 #[.val (.int x1), .val (.int x2), .val (.int x3), .val (.int x4), .val (.int x5), .val (.int x6), .val (.ref b1), .unset, .unset, .unset, .unset, .unset, .unset, .unset, .unset] [(.ref b1)])
  refine Go.of (fun _ kq => XS.iconst X.here hx rfl (hb hby at_25) kq) ?_
  show Go p e below _ _ T (mkF m 26 #[.val (.int x1), .val (.int x2), .val (.int x3), .val (.int x4), .val (.int x5), .val (.int x6), .val (.ref b1), .unset, .unset, .unset, .unset, .unset, .unset, .unset, .unset] [(.int (2 : Int32)), (.ref b1)])
  refine Go.of (fun _ kq => XS.iloadN X.here hx rfl (hb hby at_26) rfl kq) ?_
  show Go p e below _ _ T (mkF m 27 #[.val (.int x1), .val (.int x2), .val (.int x3), .val (.int x4), .val (.int x5), .val (.int x6), .val (.ref b1), .unset, .unset, .unset, .unset, .unset, .unset, .unset, .unset] [(.int x2), (.int (2 : Int32)), (.ref b1)])
  refine Go.of (X.ldcInt hx hown (mvT hZ (hw _ (List.mem_of_getElem? (i := 1) rfl))) (g := (mkF m 27 #[.val (.int x1), .val (.int x2), .val (.int x3), .val (.int x4), .val (.int x5), .val (.int x6), .val (.ref b1), .unset, .unset, .unset, .unset, .unset, .unset, .unset, .unset] [(.int x2), (.int (2 : Int32)), (.ref b1)])) rfl (hb hby at_27)) ?_
  show Go p e below _ _ T (mkF m 29 #[.val (.int x1), .val (.int x2), .val (.int x3), .val (.int x4), .val (.int x5), .val (.int x6), .val (.ref b1), .unset, .unset, .unset, .unset, .unset, .unset, .unset, .unset] [(.int (65535 : Int32)), (.int x2), (.int (2 : Int32)), (.ref b1)])
  refine Go.of (fun _ kq => XS.iand X.here hx rfl (hb hby at_29) rfl kq) ?_
  show Go p e below _ _ T (mkF m 30 #[.val (.int x1), .val (.int x2), .val (.int x3), .val (.int x4), .val (.int x5), .val (.int x6), .val (.ref b1), .unset, .unset, .unset, .unset, .unset, .unset, .unset, .unset] [(.int (x2 &&& (65535 : Int32))), (.int (2 : Int32)), (.ref b1)])
  refine Go.of (fun _ kq => XS.i2c X.here hx rfl (hb hby at_30) rfl kq) ?_
  show Go p e below _ _ T (mkF m 31 #[.val (.int x1), .val (.int x2), .val (.int x3), .val (.int x4), .val (.int x5), .val (.int x6), .val (.ref b1), .unset, .unset, .unset, .unset, .unset, .unset, .unset, .unset] [(.int ((x2 &&& (65535 : Int32)).toUInt32.toUInt16.toUInt32.toInt32)), (.int (2 : Int32)), (.ref b1)])
  have hin : Inb (2 : Int32) 4 := ⟨by decide, by decide⟩
  refine Go.stC X hx hZ eT V_b1 hin (hb hby at_31) ?_
  intro T h X eT wr
  have N := Fr.snoc X N g_b1
  have K := K.wr wr (Or.inr z_b1)
  have hk := Nat.le_trans hk (Nat.le_of_eq wr.size.symm)
  have V_b1 : AV Z h b1 .char 4 (fun j => .int ((updI (updI (updI (fun _ => (0 : Int32)) 0 (nar .char ((x1 &&& (65535 : Int32)).toUInt32.toUInt16.toUInt32.toInt32))) 1 (nar .char (((x1.toUInt32 >>> ((16 : Int32) &&& 31).toUInt32).toInt32).toUInt32.toUInt16.toUInt32.toInt32))) 2 (nar .char ((x2 &&& (65535 : Int32)).toUInt32.toUInt16.toUInt32.toInt32))) j)) := V_b1.setI wr hin.2
  show Go p e below _ _ T (mkF m 32 #[.val (.int x1), .val (.int x2), .val (.int x3), .val (.int x4), .val (.int x5), .val (.int x6), .val (.ref b1), .unset, .unset, .unset, .unset, .unset, .unset, .unset, .unset] [])
  refine Go.of (fun _ kq => XS.aload X.here hx rfl (hb hby at_32) rfl rfl kq) ?_
  show Go p e below _ _ T (mkF m 34 #[.val (.int x1), .val (.int x2), .val (.int x3), .val (.int x4), .val (.int x5), .val (.int x6), .val (.ref b1), .unset, .unset, .unset, .unset, .unset, .unset, .unset, .unset] [(.ref b1)])
  refine Go.of (fun _ kq => XS.iconst X.here hx rfl (hb hby at_34) kq) ?_
  show Go p e below _ _ T (mkF m 35 #[.val (.int x1), .val (.int x2), .val (.int x3), .val (.int x4), .val (.int x5), .val (.int x6), .val (.ref b1), .unset, .unset, .unset, .unset, .unset, .unset, .unset, .unset] [(.int (3 : Int32)), (.ref b1)])
  refine Go.of (fun _ kq => XS.iloadN X.here hx rfl (hb hby at_35) rfl kq) ?_
  show Go p e below _ _ T (mkF m 36 #[.val (.int x1), .val (.int x2), .val (.int x3), .val (.int x4), .val (.int x5), .val (.int x6), .val (.ref b1), .unset, .unset, .unset, .unset, .unset, .unset, .unset, .unset] [(.int x2), (.int (3 : Int32)), (.ref b1)])
  refine Go.of (fun _ kq => XS.bipush X.here hx rfl (hb hby at_36) kq) ?_
  show Go p e below _ _ T (mkF m 38 #[.val (.int x1), .val (.int x2), .val (.int x3), .val (.int x4), .val (.int x5), .val (.int x6), .val (.ref b1), .unset, .unset, .unset, .unset, .unset, .unset, .unset, .unset] [(.int (16 : Int32)), (.int x2), (.int (3 : Int32)), (.ref b1)])
  refine Go.of (fun _ kq => XS.iushr X.here hx rfl (hb hby at_38) rfl kq) ?_
  show Go p e below _ _ T (mkF m 39 #[.val (.int x1), .val (.int x2), .val (.int x3), .val (.int x4), .val (.int x5), .val (.int x6), .val (.ref b1), .unset, .unset, .unset, .unset, .unset, .unset, .unset, .unset] [(.int ((x2.toUInt32 >>> ((16 : Int32) &&& 31).toUInt32).toInt32)), (.int (3 : Int32)), (.ref b1)])
  refine Go.of (fun _ kq => XS.i2c X.here hx rfl (hb hby at_39) rfl kq) ?_
  show Go p e below _ _ T (mkF m 40 #[.val (.int x1), .val (.int x2), .val (.int x3), .val (.int x4), .val (.int x5), .val (.int x6), .val (.ref b1), .unset, .unset, .unset, .unset, .unset, .unset, .unset, .unset] [(.int (((x2.toUInt32 >>> ((16 : Int32) &&& 31).toUInt32).toInt32).toUInt32.toUInt16.toUInt32.toInt32)), (.int (3 : Int32)), (.ref b1)])
  have hin : Inb (3 : Int32) 4 := ⟨by decide, by decide⟩
  refine Go.stC X hx hZ eT V_b1 hin (hb hby at_40) ?_
  intro T h X eT wr
  have N := Fr.snoc X N g_b1
  have K := K.wr wr (Or.inr z_b1)
  have hk := Nat.le_trans hk (Nat.le_of_eq wr.size.symm)
  have V_b1 : AV Z h b1 .char 4 (fun j => .int ((updI (updI (updI (updI (fun _ => (0 : Int32)) 0 (nar .char ((x1 &&& (65535 : Int32)).toUInt32.toUInt16.toUInt32.toInt32))) 1 (nar .char (((x1.toUInt32 >>> ((16 : Int32) &&& 31).toUInt32).toInt32).toUInt32.toUInt16.toUInt32.toInt32))) 2 (nar .char ((x2 &&& (65535 : Int32)).toUInt32.toUInt16.toUInt32.toInt32))) 3 (nar .char (((x2.toUInt32 >>> ((16 : Int32) &&& 31).toUInt32).toInt32).toUInt32.toUInt16.toUInt32.toInt32))) j)) := V_b1.setI wr hin.2
  show Go p e below _ _ T (mkF m 41 #[.val (.int x1), .val (.int x2), .val (.int x3), .val (.int x4), .val (.int x5), .val (.int x6), .val (.ref b1), .unset, .unset, .unset, .unset, .unset, .unset, .unset, .unset] [])
  obtain ⟨Tx, hTx⟩ : ∃ z : Nat → Int32, z = (updI (updI (updI (updI (fun _ => (0 : Int32)) 0 (nar .char ((x1 &&& (65535 : Int32)).toUInt32.toUInt16.toUInt32.toInt32))) 1 (nar .char (((x1.toUInt32 >>> ((16 : Int32) &&& 31).toUInt32).toInt32).toUInt32.toUInt16.toUInt32.toInt32))) 2 (nar .char ((x2 &&& (65535 : Int32)).toUInt32.toUInt16.toUInt32.toInt32))) 3 (nar .char (((x2.toUInt32 >>> ((16 : Int32) &&& 31).toUInt32).toInt32).toUInt32.toUInt16.toUInt32.toInt32))) := ⟨_, rfl⟩
  rw [← hTx] at V_b1
  refine Go.of (fun _ kq => XS.iloadN X.here hx rfl (hb hby at_41) rfl kq) ?_
  show Go p e below _ _ T (mkF m 42 #[.val (.int x1), .val (.int x2), .val (.int x3), .val (.int x4), .val (.int x5), .val (.int x6), .val (.ref b1), .unset, .unset, .unset, .unset, .unset, .unset, .unset, .unset] [(.int x3)])
  refine Go.of (X.ldcInt hx hown (mvT hZ (hw _ (List.mem_of_getElem? (i := 2) rfl))) (g := (mkF m 42 #[.val (.int x1), .val (.int x2), .val (.int x3), .val (.int x4), .val (.int x5), .val (.int x6), .val (.ref b1), .unset, .unset, .unset, .unset, .unset, .unset, .unset, .unset] [(.int x3)])) rfl (hb hby at_42)) ?_
  show Go p e below _ _ T (mkF m 44 #[.val (.int x1), .val (.int x2), .val (.int x3), .val (.int x4), .val (.int x5), .val (.int x6), .val (.ref b1), .unset, .unset, .unset, .unset, .unset, .unset, .unset, .unset] [(.int (2147483647 : Int32)), (.int x3)])
  refine Go.of (fun _ kq => XS.iand X.here hx rfl (hb hby at_44) rfl kq) ?_
  show Go p e below _ _ T (mkF m 45 #[.val (.int x1), .val (.int x2), .val (.int x3), .val (.int x4), .val (.int x5), .val (.int x6), .val (.ref b1), .unset, .unset, .unset, .unset, .unset, .unset, .unset, .unset] [(.int (x3 &&& (2147483647 : Int32)))])
  refine Go.of (fun _ kq => XS.iconst X.here hx rfl (hb hby at_45) kq) ?_
  show Go p e below _ _ T (mkF m 46 #[.val (.int x1), .val (.int x2), .val (.int x3), .val (.int x4), .val (.int x5), .val (.int x6), .val (.ref b1), .unset, .unset, .unset, .unset, .unset, .unset, .unset, .unset] [(.int (5 : Int32)), (.int (x3 &&& (2147483647 : Int32)))])
  refine Go.of (fun _ kq => RoadKit.iremM X hx rfl (hb hby at_46) rfl (by decide) kq) ?_
  show Go p e below _ _ T (mkF m 47 #[.val (.int x1), .val (.int x2), .val (.int x3), .val (.int x4), .val (.int x5), .val (.int x6), .val (.ref b1), .unset, .unset, .unset, .unset, .unset, .unset, .unset, .unset] [(.int ((x3 &&& (2147483647 : Int32)) % (5 : Int32)))])
  refine Go.of (fun _ kq => XS.istore X.here hx rfl (hb hby at_47) rfl (l' := #[.val (.int x1), .val (.int x2), .val (.int x3), .val (.int x4), .val (.int x5), .val (.int x6), .val (.ref b1), .val (.int ((x3 &&& (2147483647 : Int32)) % (5 : Int32))), .unset, .unset, .unset, .unset, .unset, .unset, .unset]) rfl kq) ?_
  show Go p e below _ _ T (mkF m 49 #[.val (.int x1), .val (.int x2), .val (.int x3), .val (.int x4), .val (.int x5), .val (.int x6), .val (.ref b1), .val (.int ((x3 &&& (2147483647 : Int32)) % (5 : Int32))), .unset, .unset, .unset, .unset, .unset, .unset, .unset] [])
  have hbn := own_rem (x := x3) (y := 5) (by decide)
  obtain ⟨n, h_n⟩ : ∃ z : Int32, z = ((x3 &&& (2147483647 : Int32)) % (5 : Int32)) := ⟨_, rfl⟩
  rw [← h_n]
  rw [← h_n, show (5 : Int32).toInt = 5 by decide] at hbn
  have hn1 := own_inc hbn.1 (by omega)
  refine Go.of (fun _ kq => XS.iloadN X.here hx rfl (hb hby at_49) rfl kq) ?_
  show Go p e below _ _ T (mkF m 50 #[.val (.int x1), .val (.int x2), .val (.int x3), .val (.int x4), .val (.int x5), .val (.int x6), .val (.ref b1), .val (.int n), .unset, .unset, .unset, .unset, .unset, .unset, .unset] [(.int x4)])
  refine Go.of (X.ldcInt hx hown (mvT hZ (hw _ (List.mem_of_getElem? (i := 2) rfl))) (g := (mkF m 50 #[.val (.int x1), .val (.int x2), .val (.int x3), .val (.int x4), .val (.int x5), .val (.int x6), .val (.ref b1), .val (.int n), .unset, .unset, .unset, .unset, .unset, .unset, .unset] [(.int x4)])) rfl (hb hby at_50)) ?_
  show Go p e below _ _ T (mkF m 52 #[.val (.int x1), .val (.int x2), .val (.int x3), .val (.int x4), .val (.int x5), .val (.int x6), .val (.ref b1), .val (.int n), .unset, .unset, .unset, .unset, .unset, .unset, .unset] [(.int (2147483647 : Int32)), (.int x4)])
  refine Go.of (fun _ kq => XS.iand X.here hx rfl (hb hby at_52) rfl kq) ?_
  show Go p e below _ _ T (mkF m 53 #[.val (.int x1), .val (.int x2), .val (.int x3), .val (.int x4), .val (.int x5), .val (.int x6), .val (.ref b1), .val (.int n), .unset, .unset, .unset, .unset, .unset, .unset, .unset] [(.int (x4 &&& (2147483647 : Int32)))])
  refine Go.of (fun _ kq => XS.iload X.here hx rfl (hb hby at_53) rfl kq) ?_
  show Go p e below _ _ T (mkF m 55 #[.val (.int x1), .val (.int x2), .val (.int x3), .val (.int x4), .val (.int x5), .val (.int x6), .val (.ref b1), .val (.int n), .unset, .unset, .unset, .unset, .unset, .unset, .unset] [(.int n), (.int (x4 &&& (2147483647 : Int32)))])
  refine Go.of (fun _ kq => XS.iconst X.here hx rfl (hb hby at_55) kq) ?_
  show Go p e below _ _ T (mkF m 56 #[.val (.int x1), .val (.int x2), .val (.int x3), .val (.int x4), .val (.int x5), .val (.int x6), .val (.ref b1), .val (.int n), .unset, .unset, .unset, .unset, .unset, .unset, .unset] [(.int (1 : Int32)), (.int n), (.int (x4 &&& (2147483647 : Int32)))])
  refine Go.of (fun _ kq => XS.iadd X.here hx rfl (hb hby at_56) rfl kq) ?_
  show Go p e below _ _ T (mkF m 57 #[.val (.int x1), .val (.int x2), .val (.int x3), .val (.int x4), .val (.int x5), .val (.int x6), .val (.ref b1), .val (.int n), .unset, .unset, .unset, .unset, .unset, .unset, .unset] [(.int (n + (1 : Int32))), (.int (x4 &&& (2147483647 : Int32)))])
  refine Go.of (fun _ kq => RoadKit.iremM X hx rfl (hb hby at_57) rfl (own_nz (by omega)) kq) ?_
  show Go p e below _ _ T (mkF m 58 #[.val (.int x1), .val (.int x2), .val (.int x3), .val (.int x4), .val (.int x5), .val (.int x6), .val (.ref b1), .val (.int n), .unset, .unset, .unset, .unset, .unset, .unset, .unset] [(.int ((x4 &&& (2147483647 : Int32)) % (n + (1 : Int32))))])
  refine Go.of (fun _ kq => XS.istore X.here hx rfl (hb hby at_58) rfl (l' := #[.val (.int x1), .val (.int x2), .val (.int x3), .val (.int x4), .val (.int x5), .val (.int x6), .val (.ref b1), .val (.int n), .val (.int ((x4 &&& (2147483647 : Int32)) % (n + (1 : Int32)))), .unset, .unset, .unset, .unset, .unset, .unset]) rfl kq) ?_
  show Go p e below _ _ T (mkF m 60 #[.val (.int x1), .val (.int x2), .val (.int x3), .val (.int x4), .val (.int x5), .val (.int x6), .val (.ref b1), .val (.int n), .val (.int ((x4 &&& (2147483647 : Int32)) % (n + (1 : Int32)))), .unset, .unset, .unset, .unset, .unset, .unset] [])
  have hco := own_rem (x := x4) (y := n + (1 : Int32)) (by omega)
  obtain ⟨sv, h_s⟩ : ∃ z : Int32, z = ((x4 &&& (2147483647 : Int32)) % (n + (1 : Int32))) := ⟨_, rfl⟩
  rw [← h_s]
  rw [← h_s] at hco
  obtain ⟨nN, enN, hnNi⟩ := own_of hbn.1
  obtain ⟨sN, esN, hsNi⟩ := own_of hco.1
  have hnN : nN ≤ 4 := by omega
  have hsN : sN ≤ nN := by omega
  have hen := own_it_le (Tx := Tx) 4 sN hsN
  rw [enN, esN]
  show Go p e below _ _ T (mkF m 60 #[.val (.int x1), .val (.int x2), .val (.int x3), .val (.int x4), .val (.int x5), .val (.int x6), .val (.ref b1), .val (.int (Int32.ofNat nN)), .val (.int (Int32.ofNat sN)), .unset, .unset, .unset, .unset, .unset, .unset] [])
  refine Go.newO X hx hZ hown (hw _ (List.mem_of_getElem? (i := 3) rfl)) (hw _ (List.mem_of_getElem? (i := 4) rfl)) (hw _ (List.mem_of_getElem? (i := 5) rfl)) eT (hb hby at_60) (by decide) (by decide) ?_
  intro T h b60 X eT E ha E_b60 D_b60
  have ne_b1_b60 : b1 ≠ b60 := by rw [ha]; exact Nat.ne_of_lt V_b1.lt
  have z_b60 : h0.size ≤ b60 := by rw [ha]; exact K.1
  have g_b60 : n0 ≤ b60 := Nat.le_trans Z0 z_b60
  have K := K.ext E
  have hk := Nat.le_trans hk E.1
  have V_b1 := V_b1.ext E
  have F_line_b60 : Fld Z h b60 "com/example/text_to_shapes/texttoshapes/idl/SourceReader" "line" "I" (.int (0 : Int32)) := D_b60 (Or.inl (hw _ (List.mem_of_getElem? (i := 86) rfl))) (ty := .int) (by decide)
  have F_documentationBounds_b60 : Fld Z h b60 "com/example/text_to_shapes/texttoshapes/idl/SourceReader" "documentationBounds" "[I" .null := D_b60 (Or.inl (hw _ (List.mem_of_getElem? (i := 89) rfl))) (ty := (.array .int)) (by decide)
  have F_countedLineStart_b60 : Fld Z h b60 "com/example/text_to_shapes/texttoshapes/idl/SourceReader" "countedLineStart" "I" (.int (0 : Int32)) := D_b60 (Or.inl (hw _ (List.mem_of_getElem? (i := 91) rfl))) (ty := .int) (by decide)
  have F_path_b60 : Fld Z h b60 "com/example/text_to_shapes/texttoshapes/idl/SourceReader" "path" "Ljava/lang/String;" .null := D_b60 (Or.inr (hw _ (List.mem_of_getElem? (i := 93) rfl))) (ty := (.object "java/lang/String")) (by decide)
  have F_text_b60 : Fld Z h b60 "com/example/text_to_shapes/texttoshapes/idl/SourceReader" "text" "[C" .null := D_b60 (Or.inr (hw _ (List.mem_of_getElem? (i := 95) rfl))) (ty := (.array .char)) (by decide)
  have F_textLength_b60 : Fld Z h b60 "com/example/text_to_shapes/texttoshapes/idl/SourceReader" "textLength" "I" (.int (0 : Int32)) := D_b60 (Or.inr (hw _ (List.mem_of_getElem? (i := 97) rfl))) (ty := .int) (by decide)
  have F_names_b60 : Fld Z h b60 "com/example/text_to_shapes/texttoshapes/idl/SourceReader" "names" "Lcom/example/text_to_shapes/texttoshapes/idl/Names;" .null := D_b60 (Or.inr (hw _ (List.mem_of_getElem? (i := 99) rfl))) (ty := (.object "com/example/text_to_shapes/texttoshapes/idl/Names")) (by decide)
  have F_offset_b60 : Fld Z h b60 "com/example/text_to_shapes/texttoshapes/idl/SourceReader" "offset" "I" (.int (0 : Int32)) := D_b60 (Or.inl (hw _ (List.mem_of_getElem? (i := 129) rfl))) (ty := .int) (by decide)
  have F_lineStart_b60 : Fld Z h b60 "com/example/text_to_shapes/texttoshapes/idl/SourceReader" "lineStart" "I" (.int (0 : Int32)) := D_b60 (Or.inl (hw _ (List.mem_of_getElem? (i := 141) rfl))) (ty := .int) (by decide)
  show Go p e below _ _ T (mkF m 63 #[.val (.int x1), .val (.int x2), .val (.int x3), .val (.int x4), .val (.int x5), .val (.int x6), .val (.ref b1), .val (.int (Int32.ofNat nN)), .val (.int (Int32.ofNat sN)), .unset, .unset, .unset, .unset, .unset, .unset] [(.ref b60)])
  refine Go.of (fun _ kq => XS.dup X.here hx rfl (hb hby at_63) rfl rfl kq) ?_
  show Go p e below _ _ T (mkF m 64 #[.val (.int x1), .val (.int x2), .val (.int x3), .val (.int x4), .val (.int x5), .val (.int x6), .val (.ref b1), .val (.int (Int32.ofNat nN)), .val (.int (Int32.ofNat sN)), .unset, .unset, .unset, .unset, .unset, .unset] [(.ref b60), (.ref b60)])
  refine Go.ldcS X hx hZ hown (hw _ (List.mem_of_getElem? (i := 6) rfl)) (own_wS hw) eT hS hk (hb hby at_64) 4 (by decide) (by decide) (by decide) (by decide) ?_
  intro b64 T h k1 X eT E hS hk1 hZ hown
  have K := K.ext E
  have hk := hk1
  have V_b1 := V_b1.ext E
  have F_line_b60 := F_line_b60.ext E
  have F_documentationBounds_b60 := F_documentationBounds_b60.ext E
  have F_countedLineStart_b60 := F_countedLineStart_b60.ext E
  have F_path_b60 := F_path_b60.ext E
  have F_text_b60 := F_text_b60.ext E
  have F_textLength_b60 := F_textLength_b60.ext E
  have F_names_b60 := F_names_b60.ext E
  have F_offset_b60 := F_offset_b60.ext E
  have F_lineStart_b60 := F_lineStart_b60.ext E
  have E_b60 := E_b60.ext E
  show Go p e below _ _ T (mkF m 66 #[.val (.int x1), .val (.int x2), .val (.int x3), .val (.int x4), .val (.int x5), .val (.int x6), .val (.ref b1), .val (.int (Int32.ofNat nN)), .val (.int (Int32.ofNat sN)), .unset, .unset, .unset, .unset, .unset, .unset] [(.ref b64), (.ref b60), (.ref b60)])
  refine Go.of (fun _ kq => XS.aload X.here hx rfl (hb hby at_66) rfl rfl kq) ?_
  show Go p e below _ _ T (mkF m 68 #[.val (.int x1), .val (.int x2), .val (.int x3), .val (.int x4), .val (.int x5), .val (.int x6), .val (.ref b1), .val (.int (Int32.ofNat nN)), .val (.int (Int32.ofNat sN)), .unset, .unset, .unset, .unset, .unset, .unset] [(.ref b1), (.ref b64), (.ref b60), (.ref b60)])
  refine Go.of (fun _ kq => XS.iload X.here hx rfl (hb hby at_68) rfl kq) ?_
  show Go p e below _ _ T (mkF m 70 #[.val (.int x1), .val (.int x2), .val (.int x3), .val (.int x4), .val (.int x5), .val (.int x6), .val (.ref b1), .val (.int (Int32.ofNat nN)), .val (.int (Int32.ofNat sN)), .unset, .unset, .unset, .unset, .unset, .unset] [(.int (Int32.ofNat nN)), (.ref b1), (.ref b64), (.ref b60), (.ref b60)])
  refine Go.newO X hx hZ hown (hw _ (List.mem_of_getElem? (i := 14) rfl)) (hw _ (List.mem_of_getElem? (i := 15) rfl)) (hw _ (List.mem_of_getElem? (i := 16) rfl)) eT (hb hby at_70) (by decide) (by decide) ?_
  intro T h b70 X eT E ha E_b70 D_b70
  have ne_b1_b70 : b1 ≠ b70 := by rw [ha]; exact Nat.ne_of_lt V_b1.lt
  have ne_b60_b70 : b60 ≠ b70 := by rw [ha]; exact Nat.ne_of_lt F_line_b60.lt
  have z_b70 : h0.size ≤ b70 := by rw [ha]; exact K.1
  have g_b70 : n0 ≤ b70 := Nat.le_trans Z0 z_b70
  have K := K.ext E
  have hk := Nat.le_trans hk E.1
  have V_b1 := V_b1.ext E
  have F_line_b60 := F_line_b60.ext E
  have F_documentationBounds_b60 := F_documentationBounds_b60.ext E
  have F_countedLineStart_b60 := F_countedLineStart_b60.ext E
  have F_path_b60 := F_path_b60.ext E
  have F_text_b60 := F_text_b60.ext E
  have F_textLength_b60 := F_textLength_b60.ext E
  have F_names_b60 := F_names_b60.ext E
  have F_offset_b60 := F_offset_b60.ext E
  have F_lineStart_b60 := F_lineStart_b60.ext E
  have E_b60 := E_b60.ext E
  have F_names_b70 : Fld Z h b70 "com/example/text_to_shapes/texttoshapes/idl/Names" "names" "Ljava/util/Map;" .null := D_b70 (Or.inr (hw _ (List.mem_of_getElem? (i := 59) rfl))) (ty := (.object "java/util/Map")) (by decide)
  have F_probe_b70 : Fld Z h b70 "com/example/text_to_shapes/texttoshapes/idl/Names" "probe" "Lcom/example/text_to_shapes/texttoshapes/idl/Names$Name;" .null := D_b70 (Or.inr (hw _ (List.mem_of_getElem? (i := 80) rfl))) (ty := (.object "com/example/text_to_shapes/texttoshapes/idl/Names$Name")) (by decide)
  show Go p e below _ _ T (mkF m 73 #[.val (.int x1), .val (.int x2), .val (.int x3), .val (.int x4), .val (.int x5), .val (.int x6), .val (.ref b1), .val (.int (Int32.ofNat nN)), .val (.int (Int32.ofNat sN)), .unset, .unset, .unset, .unset, .unset, .unset] [(.ref b70), (.int (Int32.ofNat nN)), (.ref b1), (.ref b64), (.ref b60), (.ref b60)])
  refine Go.of (fun _ kq => XS.dup X.here hx rfl (hb hby at_73) rfl rfl kq) ?_
  show Go p e below _ _ T (mkF m 74 #[.val (.int x1), .val (.int x2), .val (.int x3), .val (.int x4), .val (.int x5), .val (.int x6), .val (.ref b1), .val (.int (Int32.ofNat nN)), .val (.int (Int32.ofNat sN)), .unset, .unset, .unset, .unset, .unset, .unset] [(.ref b70), (.ref b70), (.int (Int32.ofNat nN)), (.ref b1), (.ref b64), (.ref b60), (.ref b60)])
  refine Go.special (a := b70) X hx hZ hown rfl (hw _ (List.mem_of_getElem? (i := 17) rfl)) (hw _ (List.mem_of_getElem? (i := 18) rfl)) (hw _ (List.mem_of_getElem? (i := 16) rfl)) (hw _ (List.mem_of_getElem? (i := 19) rfl)) (by decide) (rmNames hw b70 _ n0 (Nat.le_trans Z0 K.1) g_b70 E_b70 F_names_b70 F_probe_b70) eT 6 (by decide) (by decide) (by decide) (by decide) (by rw [hml]; rfl) (argsL := []) [(.ref b70), (.int (Int32.ofNat nN)), (.ref b1), (.ref b64), (.ref b60), (.ref b60)] (lenOf pd1 rfl) rfl rfl (Nat.le_of_eq rfl) (hb hby at_74) ?_
  intro v T L' X hQ
  obtain ⟨h, eT⟩ : ∃ z, T.heap = z := ⟨_, rfl⟩
  rw [eT] at hQ
  obtain ⟨rfl, N', K'⟩ := hQ
  have N := Fr.app N N'
  have K := K.trans K' (own_all1 (Or.inr z_b70))
  have hk := Nat.le_trans hk K'.1
  have V_b1 := V_b1.keep K' (own_ni1 ne_b1_b70)
  have F_line_b60 := F_line_b60.keep K' (own_ni1 ne_b60_b70)
  have F_documentationBounds_b60 := F_documentationBounds_b60.keep K' (own_ni1 ne_b60_b70)
  have F_countedLineStart_b60 := F_countedLineStart_b60.keep K' (own_ni1 ne_b60_b70)
  have F_path_b60 := F_path_b60.keep K' (own_ni1 ne_b60_b70)
  have F_text_b60 := F_text_b60.keep K' (own_ni1 ne_b60_b70)
  have F_textLength_b60 := F_textLength_b60.keep K' (own_ni1 ne_b60_b70)
  have F_names_b60 := F_names_b60.keep K' (own_ni1 ne_b60_b70)
  have F_offset_b60 := F_offset_b60.keep K' (own_ni1 ne_b60_b70)
  have F_lineStart_b60 := F_lineStart_b60.keep K' (own_ni1 ne_b60_b70)
  have E_b60 := E_b60.keep K'
  have E_b70 := E_b70.keep K'
  show Go p e below _ _ T (mkF m 77 #[.val (.int x1), .val (.int x2), .val (.int x3), .val (.int x4), .val (.int x5), .val (.int x6), .val (.ref b1), .val (.int (Int32.ofNat nN)), .val (.int (Int32.ofNat sN)), .unset, .unset, .unset, .unset, .unset, .unset] [(.ref b70), (.int (Int32.ofNat nN)), (.ref b1), (.ref b64), (.ref b60), (.ref b60)])
  refine Go.special (a := b60) X hx hZ hown rfl (hw _ (List.mem_of_getElem? (i := 81) rfl)) (hw _ (List.mem_of_getElem? (i := 82) rfl)) (hw _ (List.mem_of_getElem? (i := 5) rfl)) (hw _ (List.mem_of_getElem? (i := 83) rfl)) (by decide) (rmSR hw b60 b64 b1 (Int32.ofNat nN) b70 _ n0 (Nat.le_trans Z0 K.1) g_b60 E_b60 F_line_b60 F_documentationBounds_b60 F_countedLineStart_b60 F_path_b60 F_text_b60 F_textLength_b60 F_names_b60 F_offset_b60 F_lineStart_b60) eT 1 (by decide) (by decide) (by decide) (by decide) (by rw [hml]; rfl) (argsL := [(.ref b64), (.ref b1), (.int (Int32.ofNat nN)), (.ref b70)]) [(.ref b60)] (lenOf pd9 rfl) rfl rfl (Nat.le_of_eq rfl) (hb hby at_77) ?_
  intro v T L' X hQ
  obtain ⟨h, eT⟩ : ∃ z, T.heap = z := ⟨_, rfl⟩
  rw [eT] at hQ
  obtain ⟨rfl, N', K', F_text_b60, F_textLength_b60, F_offset_b60, F_line_b60, F_lineStart_b60⟩ := hQ
  have N := Fr.app N N'
  have K := K.trans K' (own_all1 (Or.inr z_b60))
  have hk := Nat.le_trans hk K'.1
  have V_b1 := V_b1.keep K' (own_ni1 ne_b1_b60)
  have E_b60 := E_b60.keep K'
  have E_b70 := E_b70.keep K'
  show Go p e below _ _ T (mkF m 80 #[.val (.int x1), .val (.int x2), .val (.int x3), .val (.int x4), .val (.int x5), .val (.int x6), .val (.ref b1), .val (.int (Int32.ofNat nN)), .val (.int (Int32.ofNat sN)), .unset, .unset, .unset, .unset, .unset, .unset] [(.ref b60)])
  refine Go.of (fun _ kq => XS.astore X.here hx rfl (hb hby at_80) rfl rfl (l' := #[.val (.int x1), .val (.int x2), .val (.int x3), .val (.int x4), .val (.int x5), .val (.int x6), .val (.ref b1), .val (.int (Int32.ofNat nN)), .val (.int (Int32.ofNat sN)), .val (.ref b60), .unset, .unset, .unset, .unset, .unset]) rfl kq) ?_
  show Go p e below _ _ T (mkF m 82 #[.val (.int x1), .val (.int x2), .val (.int x3), .val (.int x4), .val (.int x5), .val (.int x6), .val (.ref b1), .val (.int (Int32.ofNat nN)), .val (.int (Int32.ofNat sN)), .val (.ref b60), .unset, .unset, .unset, .unset, .unset] [])
  refine Go.of (fun _ kq => XS.aload X.here hx rfl (hb hby at_82) rfl rfl kq) ?_
  show Go p e below _ _ T (mkF m 84 #[.val (.int x1), .val (.int x2), .val (.int x3), .val (.int x4), .val (.int x5), .val (.int x6), .val (.ref b1), .val (.int (Int32.ofNat nN)), .val (.int (Int32.ofNat sN)), .val (.ref b60), .unset, .unset, .unset, .unset, .unset] [(.ref b60)])
  refine Go.newO X hx hZ hown (hw _ (List.mem_of_getElem? (i := 100) rfl)) (hw _ (List.mem_of_getElem? (i := 101) rfl)) (hw _ (List.mem_of_getElem? (i := 102) rfl)) eT (hb hby at_84) (by decide) (by decide) ?_
  intro T h b84 X eT E ha E_b84 D_b84
  have ne_b1_b84 : b1 ≠ b84 := by rw [ha]; exact Nat.ne_of_lt V_b1.lt
  have ne_b60_b84 : b60 ≠ b84 := by rw [ha]; exact Nat.ne_of_lt E_b60.lt
  have ne_b70_b84 : b70 ≠ b84 := by rw [ha]; exact Nat.ne_of_lt E_b70.lt
  have z_b84 : h0.size ≤ b84 := by rw [ha]; exact K.1
  have g_b84 : n0 ≤ b84 := Nat.le_trans Z0 z_b84
  have K := K.ext E
  have hk := Nat.le_trans hk E.1
  have V_b1 := V_b1.ext E
  have E_b60 := E_b60.ext E
  have E_b70 := E_b70.ext E
  have F_text_b60 := F_text_b60.ext E
  have F_textLength_b60 := F_textLength_b60.ext E
  have F_offset_b60 := F_offset_b60.ext E
  have F_line_b60 := F_line_b60.ext E
  have F_lineStart_b60 := F_lineStart_b60.ext E
  have F_offset_b84 : Fld Z h b84 "com/example/text_to_shapes/texttoshapes/idl/SourceReader$Mark" "offset" "I" (.int (0 : Int32)) := D_b84 (Or.inr (hw _ (List.mem_of_getElem? (i := 113) rfl))) (ty := .int) (by decide)
  have F_line_b84 : Fld Z h b84 "com/example/text_to_shapes/texttoshapes/idl/SourceReader$Mark" "line" "I" (.int (0 : Int32)) := D_b84 (Or.inr (hw _ (List.mem_of_getElem? (i := 115) rfl))) (ty := .int) (by decide)
  have F_lineStart_b84 : Fld Z h b84 "com/example/text_to_shapes/texttoshapes/idl/SourceReader$Mark" "lineStart" "I" (.int (0 : Int32)) := D_b84 (Or.inr (hw _ (List.mem_of_getElem? (i := 117) rfl))) (ty := .int) (by decide)
  show Go p e below _ _ T (mkF m 87 #[.val (.int x1), .val (.int x2), .val (.int x3), .val (.int x4), .val (.int x5), .val (.int x6), .val (.ref b1), .val (.int (Int32.ofNat nN)), .val (.int (Int32.ofNat sN)), .val (.ref b60), .unset, .unset, .unset, .unset, .unset] [(.ref b84), (.ref b60)])
  refine Go.of (fun _ kq => XS.dup X.here hx rfl (hb hby at_87) rfl rfl kq) ?_
  show Go p e below _ _ T (mkF m 88 #[.val (.int x1), .val (.int x2), .val (.int x3), .val (.int x4), .val (.int x5), .val (.int x6), .val (.ref b1), .val (.int (Int32.ofNat nN)), .val (.int (Int32.ofNat sN)), .val (.ref b60), .unset, .unset, .unset, .unset, .unset] [(.ref b84), (.ref b84), (.ref b60)])
  refine Go.of (fun _ kq => XS.iload X.here hx rfl (hb hby at_88) rfl kq) ?_
  show Go p e below _ _ T (mkF m 90 #[.val (.int x1), .val (.int x2), .val (.int x3), .val (.int x4), .val (.int x5), .val (.int x6), .val (.ref b1), .val (.int (Int32.ofNat nN)), .val (.int (Int32.ofNat sN)), .val (.ref b60), .unset, .unset, .unset, .unset, .unset] [(.int (Int32.ofNat sN)), (.ref b84), (.ref b84), (.ref b60)])
  refine Go.of (fun _ kq => XS.iload X.here hx rfl (hb hby at_90) rfl kq) ?_
  show Go p e below _ _ T (mkF m 92 #[.val (.int x1), .val (.int x2), .val (.int x3), .val (.int x4), .val (.int x5), .val (.int x6), .val (.ref b1), .val (.int (Int32.ofNat nN)), .val (.int (Int32.ofNat sN)), .val (.ref b60), .unset, .unset, .unset, .unset, .unset] [(.int x5), (.int (Int32.ofNat sN)), (.ref b84), (.ref b84), (.ref b60)])
  refine Go.of (fun _ kq => XS.iload X.here hx rfl (hb hby at_92) rfl kq) ?_
  show Go p e below _ _ T (mkF m 94 #[.val (.int x1), .val (.int x2), .val (.int x3), .val (.int x4), .val (.int x5), .val (.int x6), .val (.ref b1), .val (.int (Int32.ofNat nN)), .val (.int (Int32.ofNat sN)), .val (.ref b60), .unset, .unset, .unset, .unset, .unset] [(.int x6), (.int x5), (.int (Int32.ofNat sN)), (.ref b84), (.ref b84), (.ref b60)])
  refine Go.special (a := b84) X hx hZ hown rfl (hw _ (List.mem_of_getElem? (i := 103) rfl)) (hw _ (List.mem_of_getElem? (i := 104) rfl)) (hw _ (List.mem_of_getElem? (i := 102) rfl)) (hw _ (List.mem_of_getElem? (i := 105) rfl)) (by decide) (rmMkI hw b84 (Int32.ofNat sN) x5 x6 _ n0 (Nat.le_trans Z0 K.1) g_b84 E_b84 F_offset_b84 F_line_b84 F_lineStart_b84) eT 2 (by decide) (by decide) (by decide) (by decide) (by rw [hml]; rfl) (argsL := [(.int (Int32.ofNat sN)), (.int x5), (.int x6)]) [(.ref b84), (.ref b60)] (lenOf pd6 rfl) rfl rfl (Nat.le_of_eq rfl) (hb hby at_94) ?_
  intro v T L' X hQ
  obtain ⟨h, eT⟩ : ∃ z, T.heap = z := ⟨_, rfl⟩
  rw [eT] at hQ
  obtain ⟨rfl, N', K', F_offset_b84, F_line_b84, F_lineStart_b84⟩ := hQ
  have N := Fr.app N N'
  have K := K.trans K' (own_all1 (Or.inr z_b84))
  have hk := Nat.le_trans hk K'.1
  have V_b1 := V_b1.keep K' (own_ni1 ne_b1_b84)
  have E_b60 := E_b60.keep K'
  have E_b70 := E_b70.keep K'
  have F_text_b60 := F_text_b60.keep K' (own_ni1 ne_b60_b84)
  have F_textLength_b60 := F_textLength_b60.keep K' (own_ni1 ne_b60_b84)
  have F_offset_b60 := F_offset_b60.keep K' (own_ni1 ne_b60_b84)
  have F_line_b60 := F_line_b60.keep K' (own_ni1 ne_b60_b84)
  have F_lineStart_b60 := F_lineStart_b60.keep K' (own_ni1 ne_b60_b84)
  have E_b84 := E_b84.keep K'
  show Go p e below _ _ T (mkF m 97 #[.val (.int x1), .val (.int x2), .val (.int x3), .val (.int x4), .val (.int x5), .val (.int x6), .val (.ref b1), .val (.int (Int32.ofNat nN)), .val (.int (Int32.ofNat sN)), .val (.ref b60), .unset, .unset, .unset, .unset, .unset] [(.ref b84), (.ref b60)])
  refine Go.virtual (a := b60) X hx hZ hown (hw _ (List.mem_of_getElem? (i := 118) rfl)) (hw _ (List.mem_of_getElem? (i := 119) rfl)) (notFace_of_selects (args := #[]) (mvT hZ (hw _ (List.mem_of_getElem? (i := 121) rfl)))) (hw _ (List.mem_of_getElem? (i := 121) rfl)) (hw _ (List.mem_of_getElem? (i := 120) rfl)) (hw _ (List.mem_of_getElem? (i := 5) rfl)) (hw _ (List.mem_of_getElem? (i := 122) rfl)) (by decide) (rmReset hw b60 b84 b1 (Int32.ofNat nN) 0 1 0 (Int32.ofNat sN) x5 x6 _ n0 g_b60 ne_b60_b84 E_b60 E_b84 F_text_b60 F_textLength_b60 F_offset_b60 F_line_b60 F_lineStart_b60 F_offset_b84 F_line_b84 F_lineStart_b84) eT E_b60 0 (by decide) (by decide) (by decide) (by decide) (by rw [hml]; rfl) (argsL := [(.ref b84)]) [] (lenOf pd10 rfl) rfl rfl (Nat.le_of_eq rfl) (hb hby at_97) ?_
  intro v T L' X hQ
  obtain ⟨h, eT⟩ : ∃ z, T.heap = z := ⟨_, rfl⟩
  rw [eT] at hQ
  obtain ⟨rfl, N', K', F_text_b60, F_textLength_b60, F_offset_b60, F_line_b60, F_lineStart_b60⟩ := hQ
  have N := Fr.app N N'
  have K := K.trans K' (own_all1 (Or.inr z_b60))
  have hk := Nat.le_trans hk K'.1
  have V_b1 := V_b1.keep K' (own_ni1 ne_b1_b60)
  have E_b60 := E_b60.keep K'
  have E_b70 := E_b70.keep K'
  have E_b84 := E_b84.keep K'
  have F_offset_b84 := F_offset_b84.keep K' (own_ni1 (Ne.symm ne_b60_b84))
  have F_line_b84 := F_line_b84.keep K' (own_ni1 (Ne.symm ne_b60_b84))
  have F_lineStart_b84 := F_lineStart_b84.keep K' (own_ni1 (Ne.symm ne_b60_b84))
  show Go p e below _ _ T (mkF m 100 #[.val (.int x1), .val (.int x2), .val (.int x3), .val (.int x4), .val (.int x5), .val (.int x6), .val (.ref b1), .val (.int (Int32.ofNat nN)), .val (.int (Int32.ofNat sN)), .val (.ref b60), .unset, .unset, .unset, .unset, .unset] [])
  refine Go.of (fun _ kq => XS.aload X.here hx rfl (hb hby at_100) rfl rfl kq) ?_
  show Go p e below _ _ T (mkF m 102 #[.val (.int x1), .val (.int x2), .val (.int x3), .val (.int x4), .val (.int x5), .val (.int x6), .val (.ref b1), .val (.int (Int32.ofNat nN)), .val (.int (Int32.ofNat sN)), .val (.ref b60), .unset, .unset, .unset, .unset, .unset] [(.ref b60)])
  refine Go.virtual (a := b60) X hx hZ hown (hw _ (List.mem_of_getElem? (i := 142) rfl)) (hw _ (List.mem_of_getElem? (i := 143) rfl)) (notFace_of_selects (args := #[]) (mvT hZ (hw _ (List.mem_of_getElem? (i := 145) rfl)))) (hw _ (List.mem_of_getElem? (i := 145) rfl)) (hw _ (List.mem_of_getElem? (i := 144) rfl)) (hw _ (List.mem_of_getElem? (i := 5) rfl)) (hw _ (List.mem_of_getElem? (i := 146) rfl)) (by decide) (rmSp hw b60 b1 nN sN x5 x6 Tx _ n0 g_b60 (Ne.symm ne_b1_b60) hnN hsN E_b60 F_text_b60 F_textLength_b60 F_offset_b60 F_line_b60 F_lineStart_b60 V_b1) eT E_b60 0 (by decide) (by decide) (by decide) (by decide) (by rw [hml]; rfl) (argsL := []) [] (lenOf pd11 rfl) rfl rfl (Nat.le_of_eq rfl) (hb hby at_102) ?_
  intro v T L' X hQ
  obtain ⟨h, eT⟩ : ∃ z, T.heap = z := ⟨_, rfl⟩
  rw [eT] at hQ
  obtain ⟨rfl, N', K', F_text_b60, F_textLength_b60, F_offset_b60, F_line_b60, F_lineStart_b60⟩ := hQ
  have N := Fr.app N N'
  have K := K.trans K' (own_all1 (Or.inr z_b60))
  have hk := Nat.le_trans hk K'.1
  have V_b1 := V_b1.keep K' (own_ni1 ne_b1_b60)
  have E_b60 := E_b60.keep K'
  have E_b70 := E_b70.keep K'
  have E_b84 := E_b84.keep K'
  have F_offset_b84 := F_offset_b84.keep K' (own_ni1 (Ne.symm ne_b60_b84))
  have F_line_b84 := F_line_b84.keep K' (own_ni1 (Ne.symm ne_b60_b84))
  have F_lineStart_b84 := F_lineStart_b84.keep K' (own_ni1 (Ne.symm ne_b60_b84))
  show Go p e below _ _ T (mkF m 105 #[.val (.int x1), .val (.int x2), .val (.int x3), .val (.int x4), .val (.int x5), .val (.int x6), .val (.ref b1), .val (.int (Int32.ofNat nN)), .val (.int (Int32.ofNat sN)), .val (.ref b60), .unset, .unset, .unset, .unset, .unset] [(.int (own_gt (own_it Tx nN 4 sN) sN))])
  refine Go.of (fun _ kq => XS.istore X.here hx rfl (hb hby at_105) rfl (l' := #[.val (.int x1), .val (.int x2), .val (.int x3), .val (.int x4), .val (.int x5), .val (.int x6), .val (.ref b1), .val (.int (Int32.ofNat nN)), .val (.int (Int32.ofNat sN)), .val (.ref b60), .val (.int (own_gt (own_it Tx nN 4 sN) sN)), .unset, .unset, .unset, .unset]) rfl kq) ?_
  show Go p e below _ _ T (mkF m 107 #[.val (.int x1), .val (.int x2), .val (.int x3), .val (.int x4), .val (.int x5), .val (.int x6), .val (.ref b1), .val (.int (Int32.ofNat nN)), .val (.int (Int32.ofNat sN)), .val (.ref b60), .val (.int (own_gt (own_it Tx nN 4 sN) sN)), .unset, .unset, .unset, .unset] [])
  refine Go.of (fun _ kq => XS.aload X.here hx rfl (hb hby at_107) rfl rfl kq) ?_
  show Go p e below _ _ T (mkF m 109 #[.val (.int x1), .val (.int x2), .val (.int x3), .val (.int x4), .val (.int x5), .val (.int x6), .val (.ref b1), .val (.int (Int32.ofNat nN)), .val (.int (Int32.ofNat sN)), .val (.ref b60), .val (.int (own_gt (own_it Tx nN 4 sN) sN)), .unset, .unset, .unset, .unset] [(.ref b60)])
  refine Go.virtual (a := b60) X hx hZ hown (hw _ (List.mem_of_getElem? (i := 147) rfl)) (hw _ (List.mem_of_getElem? (i := 148) rfl)) (notFace_of_selects (args := #[]) (mvT hZ (hw _ (List.mem_of_getElem? (i := 150) rfl)))) (hw _ (List.mem_of_getElem? (i := 150) rfl)) (hw _ (List.mem_of_getElem? (i := 149) rfl)) (hw _ (List.mem_of_getElem? (i := 5) rfl)) (hw _ (List.mem_of_getElem? (i := 151) rfl)) (by decide) (rmMark hw b60 (Int32.ofNat (own_it Tx nN 4 sN)) x5 x6 _ n0 (Nat.le_trans Z0 K.1) F_offset_b60 F_line_b60 F_lineStart_b60) eT E_b60 0 (by decide) (by decide) (by decide) (by decide) (by rw [hml]; rfl) (argsL := []) [] (lenOf pd12 rfl) rfl rfl (Nat.le_of_eq rfl) (hb hby at_109) ?_
  intro v T L' X hQ
  obtain ⟨h, eT⟩ : ∃ z, T.heap = z := ⟨_, rfl⟩
  rw [eT] at hQ
  obtain ⟨m1, rfl, N', K', zm1, E_m1, F_offset_m1, F_line_m1, F_lineStart_m1⟩ := hQ
  have N := Fr.app N N'
  have hsm1 := Fld.lt F_offset_b60
  have hvm1 := AV.lt V_b1
  have K := K.trans K' (own_all0 )
  have hk := Nat.le_trans hk K'.1
  have V_b1 := V_b1.keep K' (own_ni0)
  have E_b60 := E_b60.keep K'
  have E_b70 := E_b70.keep K'
  have E_b84 := E_b84.keep K'
  have F_offset_b84 := F_offset_b84.keep K' (own_ni0)
  have F_line_b84 := F_line_b84.keep K' (own_ni0)
  have F_lineStart_b84 := F_lineStart_b84.keep K' (own_ni0)
  have F_text_b60 := F_text_b60.keep K' (own_ni0)
  have F_textLength_b60 := F_textLength_b60.keep K' (own_ni0)
  have F_offset_b60 := F_offset_b60.keep K' (own_ni0)
  have F_line_b60 := F_line_b60.keep K' (own_ni0)
  have F_lineStart_b60 := F_lineStart_b60.keep K' (own_ni0)
  show Go p e below _ _ T (mkF m 112 #[.val (.int x1), .val (.int x2), .val (.int x3), .val (.int x4), .val (.int x5), .val (.int x6), .val (.ref b1), .val (.int (Int32.ofNat nN)), .val (.int (Int32.ofNat sN)), .val (.ref b60), .val (.int (own_gt (own_it Tx nN 4 sN) sN)), .unset, .unset, .unset, .unset] [(.ref m1)])
  refine Go.of (fun _ kq => XS.astore X.here hx rfl (hb hby at_112) rfl rfl (l' := #[.val (.int x1), .val (.int x2), .val (.int x3), .val (.int x4), .val (.int x5), .val (.int x6), .val (.ref b1), .val (.int (Int32.ofNat nN)), .val (.int (Int32.ofNat sN)), .val (.ref b60), .val (.int (own_gt (own_it Tx nN 4 sN) sN)), .val (.ref m1), .unset, .unset, .unset]) rfl kq) ?_
  show Go p e below _ _ T (mkF m 114 #[.val (.int x1), .val (.int x2), .val (.int x3), .val (.int x4), .val (.int x5), .val (.int x6), .val (.ref b1), .val (.int (Int32.ofNat nN)), .val (.int (Int32.ofNat sN)), .val (.ref b60), .val (.int (own_gt (own_it Tx nN 4 sN) sN)), .val (.ref m1), .unset, .unset, .unset] [])
  refine Go.of (fun _ kq => XS.aload X.here hx rfl (hb hby at_114) rfl rfl kq) ?_
  show Go p e below _ _ T (mkF m 116 #[.val (.int x1), .val (.int x2), .val (.int x3), .val (.int x4), .val (.int x5), .val (.int x6), .val (.ref b1), .val (.int (Int32.ofNat nN)), .val (.int (Int32.ofNat sN)), .val (.ref b60), .val (.int (own_gt (own_it Tx nN 4 sN) sN)), .val (.ref m1), .unset, .unset, .unset] [(.ref b60)])
  refine Go.virtual (a := b60) X hx hZ hown (hw _ (List.mem_of_getElem? (i := 142) rfl)) (hw _ (List.mem_of_getElem? (i := 143) rfl)) (notFace_of_selects (args := #[]) (mvT hZ (hw _ (List.mem_of_getElem? (i := 145) rfl)))) (hw _ (List.mem_of_getElem? (i := 145) rfl)) (hw _ (List.mem_of_getElem? (i := 144) rfl)) (hw _ (List.mem_of_getElem? (i := 5) rfl)) (hw _ (List.mem_of_getElem? (i := 146) rfl)) (by decide) (rmSp hw b60 b1 nN (own_it Tx nN 4 sN) x5 x6 Tx _ n0 g_b60 (Ne.symm ne_b1_b60) hnN hen.2 E_b60 F_text_b60 F_textLength_b60 F_offset_b60 F_line_b60 F_lineStart_b60 V_b1) eT E_b60 0 (by decide) (by decide) (by decide) (by decide) (by rw [hml]; rfl) (argsL := []) [] (lenOf pd11 rfl) rfl rfl (Nat.le_of_eq rfl) (hb hby at_116) ?_
  intro v T L' X hQ
  obtain ⟨h, eT⟩ : ∃ z, T.heap = z := ⟨_, rfl⟩
  rw [eT] at hQ
  obtain ⟨rfl, N', K', F_text_b60, F_textLength_b60, F_offset_b60, F_line_b60, F_lineStart_b60⟩ := hQ
  have N := Fr.app N N'
  have K := K.trans K' (own_all1 (Or.inr z_b60))
  have hk := Nat.le_trans hk K'.1
  have V_b1 := V_b1.keep K' (own_ni1 ne_b1_b60)
  have E_b60 := E_b60.keep K'
  have E_b70 := E_b70.keep K'
  have E_b84 := E_b84.keep K'
  have F_offset_b84 := F_offset_b84.keep K' (own_ni1 (Ne.symm ne_b60_b84))
  have F_line_b84 := F_line_b84.keep K' (own_ni1 (Ne.symm ne_b60_b84))
  have F_lineStart_b84 := F_lineStart_b84.keep K' (own_ni1 (Ne.symm ne_b60_b84))
  have E_m1 := E_m1.keep K'
  have F_offset_m1 := F_offset_m1.keep K' (own_ni1 (Ne.symm (Nat.ne_of_lt (Nat.lt_of_lt_of_le hsm1 zm1))))
  have F_line_m1 := F_line_m1.keep K' (own_ni1 (Ne.symm (Nat.ne_of_lt (Nat.lt_of_lt_of_le hsm1 zm1))))
  have F_lineStart_m1 := F_lineStart_m1.keep K' (own_ni1 (Ne.symm (Nat.ne_of_lt (Nat.lt_of_lt_of_le hsm1 zm1))))
  have hfix := own_it_fix (own_it_end (Tx := Tx) (n := nN) 4 sN (by omega)) 4
  rw [hfix] at F_offset_b60
  rw [hfix, show own_gt (own_it Tx nN 4 sN) (own_it Tx nN 4 sN) = (0 : Int32) by unfold own_gt; rw [if_neg (Nat.lt_irrefl _)]]
  show Go p e below _ _ T (mkF m 119 #[.val (.int x1), .val (.int x2), .val (.int x3), .val (.int x4), .val (.int x5), .val (.int x6), .val (.ref b1), .val (.int (Int32.ofNat nN)), .val (.int (Int32.ofNat sN)), .val (.ref b60), .val (.int (own_gt (own_it Tx nN 4 sN) sN)), .val (.ref m1), .unset, .unset, .unset] [(.int (0 : Int32))])
  refine Go.of (fun _ kq => XS.istore X.here hx rfl (hb hby at_119) rfl (l' := #[.val (.int x1), .val (.int x2), .val (.int x3), .val (.int x4), .val (.int x5), .val (.int x6), .val (.ref b1), .val (.int (Int32.ofNat nN)), .val (.int (Int32.ofNat sN)), .val (.ref b60), .val (.int (own_gt (own_it Tx nN 4 sN) sN)), .val (.ref m1), .val (.int (0 : Int32)), .unset, .unset]) rfl kq) ?_
  show Go p e below _ _ T (mkF m 121 #[.val (.int x1), .val (.int x2), .val (.int x3), .val (.int x4), .val (.int x5), .val (.int x6), .val (.ref b1), .val (.int (Int32.ofNat nN)), .val (.int (Int32.ofNat sN)), .val (.ref b60), .val (.int (own_gt (own_it Tx nN 4 sN) sN)), .val (.ref m1), .val (.int (0 : Int32)), .unset, .unset] [])
  refine Go.of (fun _ kq => XS.aload X.here hx rfl (hb hby at_121) rfl rfl kq) ?_
  show Go p e below _ _ T (mkF m 123 #[.val (.int x1), .val (.int x2), .val (.int x3), .val (.int x4), .val (.int x5), .val (.int x6), .val (.ref b1), .val (.int (Int32.ofNat nN)), .val (.int (Int32.ofNat sN)), .val (.ref b60), .val (.int (own_gt (own_it Tx nN 4 sN) sN)), .val (.ref m1), .val (.int (0 : Int32)), .unset, .unset] [(.ref b60)])
  refine Go.virtual (a := b60) X hx hZ hown (hw _ (List.mem_of_getElem? (i := 147) rfl)) (hw _ (List.mem_of_getElem? (i := 148) rfl)) (notFace_of_selects (args := #[]) (mvT hZ (hw _ (List.mem_of_getElem? (i := 150) rfl)))) (hw _ (List.mem_of_getElem? (i := 150) rfl)) (hw _ (List.mem_of_getElem? (i := 149) rfl)) (hw _ (List.mem_of_getElem? (i := 5) rfl)) (hw _ (List.mem_of_getElem? (i := 151) rfl)) (by decide) (rmMark hw b60 (Int32.ofNat (own_it Tx nN 4 sN)) x5 x6 _ n0 (Nat.le_trans Z0 K.1) F_offset_b60 F_line_b60 F_lineStart_b60) eT E_b60 0 (by decide) (by decide) (by decide) (by decide) (by rw [hml]; rfl) (argsL := []) [] (lenOf pd12 rfl) rfl rfl (Nat.le_of_eq rfl) (hb hby at_123) ?_
  intro v T L' X hQ
  obtain ⟨h, eT⟩ : ∃ z, T.heap = z := ⟨_, rfl⟩
  rw [eT] at hQ
  obtain ⟨m2, rfl, N', K', zm2, E_m2, F_offset_m2, F_line_m2, F_lineStart_m2⟩ := hQ
  have N := Fr.app N N'
  have hsm2 := Fld.lt F_offset_b60
  have hvm2 := AV.lt V_b1
  have hm1 := Exa.lt E_m1
  have K := K.trans K' (own_all0 )
  have hk := Nat.le_trans hk K'.1
  have V_b1 := V_b1.keep K' (own_ni0)
  have E_b60 := E_b60.keep K'
  have E_b70 := E_b70.keep K'
  have E_b84 := E_b84.keep K'
  have F_offset_b84 := F_offset_b84.keep K' (own_ni0)
  have F_line_b84 := F_line_b84.keep K' (own_ni0)
  have F_lineStart_b84 := F_lineStart_b84.keep K' (own_ni0)
  have E_m1 := E_m1.keep K'
  have F_offset_m1 := F_offset_m1.keep K' (own_ni0)
  have F_line_m1 := F_line_m1.keep K' (own_ni0)
  have F_lineStart_m1 := F_lineStart_m1.keep K' (own_ni0)
  have F_text_b60 := F_text_b60.keep K' (own_ni0)
  have F_textLength_b60 := F_textLength_b60.keep K' (own_ni0)
  have F_offset_b60 := F_offset_b60.keep K' (own_ni0)
  have F_line_b60 := F_line_b60.keep K' (own_ni0)
  have F_lineStart_b60 := F_lineStart_b60.keep K' (own_ni0)
  show Go p e below _ _ T (mkF m 126 #[.val (.int x1), .val (.int x2), .val (.int x3), .val (.int x4), .val (.int x5), .val (.int x6), .val (.ref b1), .val (.int (Int32.ofNat nN)), .val (.int (Int32.ofNat sN)), .val (.ref b60), .val (.int (own_gt (own_it Tx nN 4 sN) sN)), .val (.ref m1), .val (.int (0 : Int32)), .unset, .unset] [(.ref m2)])
  refine Go.of (fun _ kq => XS.astore X.here hx rfl (hb hby at_126) rfl rfl (l' := #[.val (.int x1), .val (.int x2), .val (.int x3), .val (.int x4), .val (.int x5), .val (.int x6), .val (.ref b1), .val (.int (Int32.ofNat nN)), .val (.int (Int32.ofNat sN)), .val (.ref b60), .val (.int (own_gt (own_it Tx nN 4 sN) sN)), .val (.ref m1), .val (.int (0 : Int32)), .val (.ref m2), .unset]) rfl kq) ?_
  show Go p e below _ _ T (mkF m 128 #[.val (.int x1), .val (.int x2), .val (.int x3), .val (.int x4), .val (.int x5), .val (.int x6), .val (.ref b1), .val (.int (Int32.ofNat nN)), .val (.int (Int32.ofNat sN)), .val (.ref b60), .val (.int (own_gt (own_it Tx nN 4 sN) sN)), .val (.ref m1), .val (.int (0 : Int32)), .val (.ref m2), .unset] [])
  refine Go.of (fun _ kq => XS.iload X.here hx rfl (hb hby at_128) rfl kq) ?_
  show Go p e below _ _ T (mkF m 130 #[.val (.int x1), .val (.int x2), .val (.int x3), .val (.int x4), .val (.int x5), .val (.int x6), .val (.ref b1), .val (.int (Int32.ofNat nN)), .val (.int (Int32.ofNat sN)), .val (.ref b60), .val (.int (own_gt (own_it Tx nN 4 sN) sN)), .val (.ref m1), .val (.int (0 : Int32)), .val (.ref m2), .unset] [(.int (Int32.ofNat sN))])
  refine Go.of (fun _ kq => XS.istore X.here hx rfl (hb hby at_130) rfl (l' := #[.val (.int x1), .val (.int x2), .val (.int x3), .val (.int x4), .val (.int x5), .val (.int x6), .val (.ref b1), .val (.int (Int32.ofNat nN)), .val (.int (Int32.ofNat sN)), .val (.ref b60), .val (.int (own_gt (own_it Tx nN 4 sN) sN)), .val (.ref m1), .val (.int (0 : Int32)), .val (.ref m2), .val (.int (Int32.ofNat sN))]) rfl kq) ?_
  show Go p e below _ _ T (mkF m 132 #[.val (.int x1), .val (.int x2), .val (.int x3), .val (.int x4), .val (.int x5), .val (.int x6), .val (.ref b1), .val (.int (Int32.ofNat nN)), .val (.int (Int32.ofNat sN)), .val (.ref b60), .val (.int (own_gt (own_it Tx nN 4 sN) sN)), .val (.ref m1), .val (.int (0 : Int32)), .val (.ref m2), .val (.int (Int32.ofNat sN))] [])
  refine Go.of (fun _ kq => XS.aload X.here hx rfl (hb hby at_132) rfl rfl kq) ?_
  show Go p e below _ _ T (mkF m 134 #[.val (.int x1), .val (.int x2), .val (.int x3), .val (.int x4), .val (.int x5), .val (.int x6), .val (.ref b1), .val (.int (Int32.ofNat nN)), .val (.int (Int32.ofNat sN)), .val (.ref b60), .val (.int (own_gt (own_it Tx nN 4 sN) sN)), .val (.ref m1), .val (.int (0 : Int32)), .val (.ref m2), .val (.int (Int32.ofNat sN))] [(.ref b1)])
  refine Go.of (fun _ kq => XS.iload X.here hx rfl (hb hby at_134) rfl kq) ?_
  show Go p e below _ _ T (mkF m 136 #[.val (.int x1), .val (.int x2), .val (.int x3), .val (.int x4), .val (.int x5), .val (.int x6), .val (.ref b1), .val (.int (Int32.ofNat nN)), .val (.int (Int32.ofNat sN)), .val (.ref b60), .val (.int (own_gt (own_it Tx nN 4 sN) sN)), .val (.ref m1), .val (.int (0 : Int32)), .val (.ref m2), .val (.int (Int32.ofNat sN))] [(.int (Int32.ofNat nN)), (.ref b1)])
  refine Go.of (fun _ kq => XS.iload X.here hx rfl (hb hby at_136) rfl kq) ?_
  show Go p e below _ _ T (mkF m 138 #[.val (.int x1), .val (.int x2), .val (.int x3), .val (.int x4), .val (.int x5), .val (.int x6), .val (.ref b1), .val (.int (Int32.ofNat nN)), .val (.int (Int32.ofNat sN)), .val (.ref b60), .val (.int (own_gt (own_it Tx nN 4 sN) sN)), .val (.ref m1), .val (.int (0 : Int32)), .val (.ref m2), .val (.int (Int32.ofNat sN))] [(.int (Int32.ofNat sN)), (.int (Int32.ofNat nN)), (.ref b1)])
  refine Go.static X hx hZ hown (hw _ (List.mem_of_getElem? (i := 154) rfl)) (hw _ (List.mem_of_getElem? (i := 155) rfl)) (hw _ (List.mem_of_getElem? (i := 156) rfl)) (hw _ (List.mem_of_getElem? (i := 157) rfl)) (by decide) (rmStep hw b1 nN sN Tx _ n0 hnN hsN V_b1) eT 0 (by decide) (by decide) (by decide) (by decide) (by rw [hml]; rfl) (argsL := [(.ref b1), (.int (Int32.ofNat nN)), (.int (Int32.ofNat sN))]) [] (lenOf pd13 rfl) rfl rfl (Nat.le_of_eq rfl) (hb hby at_138) ?_
  intro v T L' X hQ
  obtain ⟨rfl, N', eT⟩ := hQ
  have N := Fr.app N N'
  show Go p e below _ _ T (mkF m 141 #[.val (.int x1), .val (.int x2), .val (.int x3), .val (.int x4), .val (.int x5), .val (.int x6), .val (.ref b1), .val (.int (Int32.ofNat nN)), .val (.int (Int32.ofNat sN)), .val (.ref b60), .val (.int (own_gt (own_it Tx nN 4 sN) sN)), .val (.ref m1), .val (.int (0 : Int32)), .val (.ref m2), .val (.int (Int32.ofNat sN))] [(.int (Int32.ofNat (own_st Tx nN sN)))])
  refine Go.of (fun _ kq => XS.istore X.here hx rfl (hb hby at_141) rfl (l' := #[.val (.int x1), .val (.int x2), .val (.int x3), .val (.int x4), .val (.int x5), .val (.int x6), .val (.ref b1), .val (.int (Int32.ofNat nN)), .val (.int (Int32.ofNat sN)), .val (.ref b60), .val (.int (own_gt (own_it Tx nN 4 sN) sN)), .val (.ref m1), .val (.int (0 : Int32)), .val (.ref m2), .val (.int (Int32.ofNat (own_st Tx nN sN)))]) rfl kq) ?_
  show Go p e below _ _ T (mkF m 143 #[.val (.int x1), .val (.int x2), .val (.int x3), .val (.int x4), .val (.int x5), .val (.int x6), .val (.ref b1), .val (.int (Int32.ofNat nN)), .val (.int (Int32.ofNat sN)), .val (.ref b60), .val (.int (own_gt (own_it Tx nN 4 sN) sN)), .val (.ref m1), .val (.int (0 : Int32)), .val (.ref m2), .val (.int (Int32.ofNat (own_st Tx nN sN)))] [])
  refine Go.of (fun _ kq => XS.aload X.here hx rfl (hb hby at_143) rfl rfl kq) ?_
  show Go p e below _ _ T (mkF m 145 #[.val (.int x1), .val (.int x2), .val (.int x3), .val (.int x4), .val (.int x5), .val (.int x6), .val (.ref b1), .val (.int (Int32.ofNat nN)), .val (.int (Int32.ofNat sN)), .val (.ref b60), .val (.int (own_gt (own_it Tx nN 4 sN) sN)), .val (.ref m1), .val (.int (0 : Int32)), .val (.ref m2), .val (.int (Int32.ofNat (own_st Tx nN sN)))] [(.ref b1)])
  refine Go.of (fun _ kq => XS.iload X.here hx rfl (hb hby at_145) rfl kq) ?_
  show Go p e below _ _ T (mkF m 147 #[.val (.int x1), .val (.int x2), .val (.int x3), .val (.int x4), .val (.int x5), .val (.int x6), .val (.ref b1), .val (.int (Int32.ofNat nN)), .val (.int (Int32.ofNat sN)), .val (.ref b60), .val (.int (own_gt (own_it Tx nN 4 sN) sN)), .val (.ref m1), .val (.int (0 : Int32)), .val (.ref m2), .val (.int (Int32.ofNat (own_st Tx nN sN)))] [(.int (Int32.ofNat nN)), (.ref b1)])
  refine Go.of (fun _ kq => XS.iload X.here hx rfl (hb hby at_147) rfl kq) ?_
  show Go p e below _ _ T (mkF m 149 #[.val (.int x1), .val (.int x2), .val (.int x3), .val (.int x4), .val (.int x5), .val (.int x6), .val (.ref b1), .val (.int (Int32.ofNat nN)), .val (.int (Int32.ofNat sN)), .val (.ref b60), .val (.int (own_gt (own_it Tx nN 4 sN) sN)), .val (.ref m1), .val (.int (0 : Int32)), .val (.ref m2), .val (.int (Int32.ofNat (own_st Tx nN sN)))] [(.int (Int32.ofNat (own_st Tx nN sN))), (.int (Int32.ofNat nN)), (.ref b1)])
  refine Go.static X hx hZ hown (hw _ (List.mem_of_getElem? (i := 154) rfl)) (hw _ (List.mem_of_getElem? (i := 155) rfl)) (hw _ (List.mem_of_getElem? (i := 156) rfl)) (hw _ (List.mem_of_getElem? (i := 157) rfl)) (by decide) (rmStep hw b1 nN (own_st Tx nN sN) Tx _ n0 hnN (own_st_le hsN) V_b1) eT 0 (by decide) (by decide) (by decide) (by decide) (by rw [hml]; rfl) (argsL := [(.ref b1), (.int (Int32.ofNat nN)), (.int (Int32.ofNat (own_st Tx nN sN)))]) [] (lenOf pd13 rfl) rfl rfl (Nat.le_of_eq rfl) (hb hby at_149) ?_
  intro v T L' X hQ
  obtain ⟨rfl, N', eT⟩ := hQ
  have N := Fr.app N N'
  show Go p e below _ _ T (mkF m 152 #[.val (.int x1), .val (.int x2), .val (.int x3), .val (.int x4), .val (.int x5), .val (.int x6), .val (.ref b1), .val (.int (Int32.ofNat nN)), .val (.int (Int32.ofNat sN)), .val (.ref b60), .val (.int (own_gt (own_it Tx nN 4 sN) sN)), .val (.ref m1), .val (.int (0 : Int32)), .val (.ref m2), .val (.int (Int32.ofNat (own_st Tx nN sN)))] [(.int (Int32.ofNat (own_st Tx nN (own_st Tx nN sN))))])
  refine Go.of (fun _ kq => XS.istore X.here hx rfl (hb hby at_152) rfl (l' := #[.val (.int x1), .val (.int x2), .val (.int x3), .val (.int x4), .val (.int x5), .val (.int x6), .val (.ref b1), .val (.int (Int32.ofNat nN)), .val (.int (Int32.ofNat sN)), .val (.ref b60), .val (.int (own_gt (own_it Tx nN 4 sN) sN)), .val (.ref m1), .val (.int (0 : Int32)), .val (.ref m2), .val (.int (Int32.ofNat (own_st Tx nN (own_st Tx nN sN))))]) rfl kq) ?_
  show Go p e below _ _ T (mkF m 154 #[.val (.int x1), .val (.int x2), .val (.int x3), .val (.int x4), .val (.int x5), .val (.int x6), .val (.ref b1), .val (.int (Int32.ofNat nN)), .val (.int (Int32.ofNat sN)), .val (.ref b60), .val (.int (own_gt (own_it Tx nN 4 sN) sN)), .val (.ref m1), .val (.int (0 : Int32)), .val (.ref m2), .val (.int (Int32.ofNat (own_st Tx nN (own_st Tx nN sN))))] [])
  refine Go.of (fun _ kq => XS.aload X.here hx rfl (hb hby at_154) rfl rfl kq) ?_
  show Go p e below _ _ T (mkF m 156 #[.val (.int x1), .val (.int x2), .val (.int x3), .val (.int x4), .val (.int x5), .val (.int x6), .val (.ref b1), .val (.int (Int32.ofNat nN)), .val (.int (Int32.ofNat sN)), .val (.ref b60), .val (.int (own_gt (own_it Tx nN 4 sN) sN)), .val (.ref m1), .val (.int (0 : Int32)), .val (.ref m2), .val (.int (Int32.ofNat (own_st Tx nN (own_st Tx nN sN))))] [(.ref b1)])
  refine Go.of (fun _ kq => XS.iload X.here hx rfl (hb hby at_156) rfl kq) ?_
  show Go p e below _ _ T (mkF m 158 #[.val (.int x1), .val (.int x2), .val (.int x3), .val (.int x4), .val (.int x5), .val (.int x6), .val (.ref b1), .val (.int (Int32.ofNat nN)), .val (.int (Int32.ofNat sN)), .val (.ref b60), .val (.int (own_gt (own_it Tx nN 4 sN) sN)), .val (.ref m1), .val (.int (0 : Int32)), .val (.ref m2), .val (.int (Int32.ofNat (own_st Tx nN (own_st Tx nN sN))))] [(.int (Int32.ofNat nN)), (.ref b1)])
  refine Go.of (fun _ kq => XS.iload X.here hx rfl (hb hby at_158) rfl kq) ?_
  show Go p e below _ _ T (mkF m 160 #[.val (.int x1), .val (.int x2), .val (.int x3), .val (.int x4), .val (.int x5), .val (.int x6), .val (.ref b1), .val (.int (Int32.ofNat nN)), .val (.int (Int32.ofNat sN)), .val (.ref b60), .val (.int (own_gt (own_it Tx nN 4 sN) sN)), .val (.ref m1), .val (.int (0 : Int32)), .val (.ref m2), .val (.int (Int32.ofNat (own_st Tx nN (own_st Tx nN sN))))] [(.int (Int32.ofNat (own_st Tx nN (own_st Tx nN sN)))), (.int (Int32.ofNat nN)), (.ref b1)])
  refine Go.static X hx hZ hown (hw _ (List.mem_of_getElem? (i := 154) rfl)) (hw _ (List.mem_of_getElem? (i := 155) rfl)) (hw _ (List.mem_of_getElem? (i := 156) rfl)) (hw _ (List.mem_of_getElem? (i := 157) rfl)) (by decide) (rmStep hw b1 nN (own_st Tx nN (own_st Tx nN sN)) Tx _ n0 hnN (own_st_le (own_st_le hsN)) V_b1) eT 0 (by decide) (by decide) (by decide) (by decide) (by rw [hml]; rfl) (argsL := [(.ref b1), (.int (Int32.ofNat nN)), (.int (Int32.ofNat (own_st Tx nN (own_st Tx nN sN))))]) [] (lenOf pd13 rfl) rfl rfl (Nat.le_of_eq rfl) (hb hby at_160) ?_
  intro v T L' X hQ
  obtain ⟨rfl, N', eT⟩ := hQ
  have N := Fr.app N N'
  show Go p e below _ _ T (mkF m 163 #[.val (.int x1), .val (.int x2), .val (.int x3), .val (.int x4), .val (.int x5), .val (.int x6), .val (.ref b1), .val (.int (Int32.ofNat nN)), .val (.int (Int32.ofNat sN)), .val (.ref b60), .val (.int (own_gt (own_it Tx nN 4 sN) sN)), .val (.ref m1), .val (.int (0 : Int32)), .val (.ref m2), .val (.int (Int32.ofNat (own_st Tx nN (own_st Tx nN sN))))] [(.int (Int32.ofNat (own_st Tx nN (own_st Tx nN (own_st Tx nN sN)))))])
  refine Go.of (fun _ kq => XS.istore X.here hx rfl (hb hby at_163) rfl (l' := #[.val (.int x1), .val (.int x2), .val (.int x3), .val (.int x4), .val (.int x5), .val (.int x6), .val (.ref b1), .val (.int (Int32.ofNat nN)), .val (.int (Int32.ofNat sN)), .val (.ref b60), .val (.int (own_gt (own_it Tx nN 4 sN) sN)), .val (.ref m1), .val (.int (0 : Int32)), .val (.ref m2), .val (.int (Int32.ofNat (own_st Tx nN (own_st Tx nN (own_st Tx nN sN)))))]) rfl kq) ?_
  show Go p e below _ _ T (mkF m 165 #[.val (.int x1), .val (.int x2), .val (.int x3), .val (.int x4), .val (.int x5), .val (.int x6), .val (.ref b1), .val (.int (Int32.ofNat nN)), .val (.int (Int32.ofNat sN)), .val (.ref b60), .val (.int (own_gt (own_it Tx nN 4 sN) sN)), .val (.ref m1), .val (.int (0 : Int32)), .val (.ref m2), .val (.int (Int32.ofNat (own_st Tx nN (own_st Tx nN (own_st Tx nN sN)))))] [])
  refine Go.of (fun _ kq => XS.aload X.here hx rfl (hb hby at_165) rfl rfl kq) ?_
  show Go p e below _ _ T (mkF m 167 #[.val (.int x1), .val (.int x2), .val (.int x3), .val (.int x4), .val (.int x5), .val (.int x6), .val (.ref b1), .val (.int (Int32.ofNat nN)), .val (.int (Int32.ofNat sN)), .val (.ref b60), .val (.int (own_gt (own_it Tx nN 4 sN) sN)), .val (.ref m1), .val (.int (0 : Int32)), .val (.ref m2), .val (.int (Int32.ofNat (own_st Tx nN (own_st Tx nN (own_st Tx nN sN)))))] [(.ref b1)])
  refine Go.of (fun _ kq => XS.iload X.here hx rfl (hb hby at_167) rfl kq) ?_
  show Go p e below _ _ T (mkF m 169 #[.val (.int x1), .val (.int x2), .val (.int x3), .val (.int x4), .val (.int x5), .val (.int x6), .val (.ref b1), .val (.int (Int32.ofNat nN)), .val (.int (Int32.ofNat sN)), .val (.ref b60), .val (.int (own_gt (own_it Tx nN 4 sN) sN)), .val (.ref m1), .val (.int (0 : Int32)), .val (.ref m2), .val (.int (Int32.ofNat (own_st Tx nN (own_st Tx nN (own_st Tx nN sN)))))] [(.int (Int32.ofNat nN)), (.ref b1)])
  refine Go.of (fun _ kq => XS.iload X.here hx rfl (hb hby at_169) rfl kq) ?_
  show Go p e below _ _ T (mkF m 171 #[.val (.int x1), .val (.int x2), .val (.int x3), .val (.int x4), .val (.int x5), .val (.int x6), .val (.ref b1), .val (.int (Int32.ofNat nN)), .val (.int (Int32.ofNat sN)), .val (.ref b60), .val (.int (own_gt (own_it Tx nN 4 sN) sN)), .val (.ref m1), .val (.int (0 : Int32)), .val (.ref m2), .val (.int (Int32.ofNat (own_st Tx nN (own_st Tx nN (own_st Tx nN sN)))))] [(.int (Int32.ofNat (own_st Tx nN (own_st Tx nN (own_st Tx nN sN))))), (.int (Int32.ofNat nN)), (.ref b1)])
  refine Go.static X hx hZ hown (hw _ (List.mem_of_getElem? (i := 154) rfl)) (hw _ (List.mem_of_getElem? (i := 155) rfl)) (hw _ (List.mem_of_getElem? (i := 156) rfl)) (hw _ (List.mem_of_getElem? (i := 157) rfl)) (by decide) (rmStep hw b1 nN (own_st Tx nN (own_st Tx nN (own_st Tx nN sN))) Tx _ n0 hnN (own_st_le (own_st_le (own_st_le hsN))) V_b1) eT 0 (by decide) (by decide) (by decide) (by decide) (by rw [hml]; rfl) (argsL := [(.ref b1), (.int (Int32.ofNat nN)), (.int (Int32.ofNat (own_st Tx nN (own_st Tx nN (own_st Tx nN sN)))))]) [] (lenOf pd13 rfl) rfl rfl (Nat.le_of_eq rfl) (hb hby at_171) ?_
  intro v T L' X hQ
  obtain ⟨rfl, N', eT⟩ := hQ
  have N := Fr.app N N'
  show Go p e below _ _ T (mkF m 174 #[.val (.int x1), .val (.int x2), .val (.int x3), .val (.int x4), .val (.int x5), .val (.int x6), .val (.ref b1), .val (.int (Int32.ofNat nN)), .val (.int (Int32.ofNat sN)), .val (.ref b60), .val (.int (own_gt (own_it Tx nN 4 sN) sN)), .val (.ref m1), .val (.int (0 : Int32)), .val (.ref m2), .val (.int (Int32.ofNat (own_st Tx nN (own_st Tx nN (own_st Tx nN sN)))))] [(.int (Int32.ofNat (own_st Tx nN (own_st Tx nN (own_st Tx nN (own_st Tx nN sN))))))])
  refine Go.of (fun _ kq => XS.istore X.here hx rfl (hb hby at_174) rfl (l' := #[.val (.int x1), .val (.int x2), .val (.int x3), .val (.int x4), .val (.int x5), .val (.int x6), .val (.ref b1), .val (.int (Int32.ofNat nN)), .val (.int (Int32.ofNat sN)), .val (.ref b60), .val (.int (own_gt (own_it Tx nN 4 sN) sN)), .val (.ref m1), .val (.int (0 : Int32)), .val (.ref m2), .val (.int (Int32.ofNat (own_st Tx nN (own_st Tx nN (own_st Tx nN (own_st Tx nN sN))))))]) rfl kq) ?_
  show Go p e below _ _ T (mkF m 176 #[.val (.int x1), .val (.int x2), .val (.int x3), .val (.int x4), .val (.int x5), .val (.int x6), .val (.ref b1), .val (.int (Int32.ofNat nN)), .val (.int (Int32.ofNat sN)), .val (.ref b60), .val (.int (own_gt (own_it Tx nN 4 sN) sN)), .val (.ref m1), .val (.int (0 : Int32)), .val (.ref m2), .val (.int (Int32.ofNat (own_st Tx nN (own_st Tx nN (own_st Tx nN (own_st Tx nN sN))))))] [])
  have he4 : own_st Tx nN (own_st Tx nN (own_st Tx nN (own_st Tx nN sN))) = (own_it Tx nN 4 sN) := rfl
  rw [he4]
  show Go p e below _ _ T (mkF m 176 #[.val (.int x1), .val (.int x2), .val (.int x3), .val (.int x4), .val (.int x5), .val (.int x6), .val (.ref b1), .val (.int (Int32.ofNat nN)), .val (.int (Int32.ofNat sN)), .val (.ref b60), .val (.int (own_gt (own_it Tx nN 4 sN) sN)), .val (.ref m1), .val (.int (0 : Int32)), .val (.ref m2), .val (.int (Int32.ofNat (own_it Tx nN 4 sN)))] [])
  refine Go.of (fun _ kq => XS.iload X.here hx rfl (hb hby at_176) rfl kq) ?_
  show Go p e below _ _ T (mkF m 178 #[.val (.int x1), .val (.int x2), .val (.int x3), .val (.int x4), .val (.int x5), .val (.int x6), .val (.ref b1), .val (.int (Int32.ofNat nN)), .val (.int (Int32.ofNat sN)), .val (.ref b60), .val (.int (own_gt (own_it Tx nN 4 sN) sN)), .val (.ref m1), .val (.int (0 : Int32)), .val (.ref m2), .val (.int (Int32.ofNat (own_it Tx nN 4 sN)))] [(.int (own_gt (own_it Tx nN 4 sN) sN))])
  refine Go.of (fun _ kq => XS.iload X.here hx rfl (hb hby at_178) rfl kq) ?_
  show Go p e below _ _ T (mkF m 180 #[.val (.int x1), .val (.int x2), .val (.int x3), .val (.int x4), .val (.int x5), .val (.int x6), .val (.ref b1), .val (.int (Int32.ofNat nN)), .val (.int (Int32.ofNat sN)), .val (.ref b60), .val (.int (own_gt (own_it Tx nN 4 sN) sN)), .val (.ref m1), .val (.int (0 : Int32)), .val (.ref m2), .val (.int (Int32.ofNat (own_it Tx nN 4 sN)))] [(.int (Int32.ofNat (own_it Tx nN 4 sN))), (.int (own_gt (own_it Tx nN 4 sN) sN))])
  refine Go.of (fun _ kq => XS.iload X.here hx rfl (hb hby at_180) rfl kq) ?_
  show Go p e below _ _ T (mkF m 182 #[.val (.int x1), .val (.int x2), .val (.int x3), .val (.int x4), .val (.int x5), .val (.int x6), .val (.ref b1), .val (.int (Int32.ofNat nN)), .val (.int (Int32.ofNat sN)), .val (.ref b60), .val (.int (own_gt (own_it Tx nN 4 sN) sN)), .val (.ref m1), .val (.int (0 : Int32)), .val (.ref m2), .val (.int (Int32.ofNat (own_it Tx nN 4 sN)))] [(.int (Int32.ofNat sN)), (.int (Int32.ofNat (own_it Tx nN 4 sN))), (.int (own_gt (own_it Tx nN 4 sN) sN))])
  by_cases hc182 : (Int32.ofNat sN) < (Int32.ofNat (own_it Tx nN 4 sN))
  · refine Go.of (fun _ kq => XS.icmpNo X.here hx rfl (hb hby at_182) rfl (tlt hc182).2.2.2 kq) ?_
    show Go p e below _ _ T (mkF m 185 #[.val (.int x1), .val (.int x2), .val (.int x3), .val (.int x4), .val (.int x5), .val (.int x6), .val (.ref b1), .val (.int (Int32.ofNat nN)), .val (.int (Int32.ofNat sN)), .val (.ref b60), .val (.int (own_gt (own_it Tx nN 4 sN) sN)), .val (.ref m1), .val (.int (0 : Int32)), .val (.ref m2), .val (.int (Int32.ofNat (own_it Tx nN 4 sN)))] [(.int (own_gt (own_it Tx nN 4 sN) sN))])
    refine Go.of (fun _ kq => XS.iconst X.here hx rfl (hb hby at_185) kq) ?_
    show Go p e below _ _ T (mkF m 186 #[.val (.int x1), .val (.int x2), .val (.int x3), .val (.int x4), .val (.int x5), .val (.int x6), .val (.ref b1), .val (.int (Int32.ofNat nN)), .val (.int (Int32.ofNat sN)), .val (.ref b60), .val (.int (own_gt (own_it Tx nN 4 sN) sN)), .val (.ref m1), .val (.int (0 : Int32)), .val (.ref m2), .val (.int (Int32.ofNat (own_it Tx nN 4 sN)))] [(.int (1 : Int32)), (.int (own_gt (own_it Tx nN 4 sN) sN))])
    refine Go.of (fun _ kq => XS.goto X.here hx rfl (pc0 := 186) (pc' := 190) rfl (hb hby at_186) (by decide) (by decide) kq) ?_
    show Go p e below _ _ T (mkF m 190 #[.val (.int x1), .val (.int x2), .val (.int x3), .val (.int x4), .val (.int x5), .val (.int x6), .val (.ref b1), .val (.int (Int32.ofNat nN)), .val (.int (Int32.ofNat sN)), .val (.ref b60), .val (.int (own_gt (own_it Tx nN 4 sN) sN)), .val (.ref m1), .val (.int (0 : Int32)), .val (.ref m2), .val (.int (Int32.ofNat (own_it Tx nN 4 sN)))] [(.int (1 : Int32)), (.int (own_gt (own_it Tx nN 4 sN) sN))])
    refine Go.of (fun _ kq => XS.icmpNo X.here hx rfl (hb hby at_190) rfl (teq (by unfold own_gt; rw [if_pos ((own_ltn (by omega) (by omega)).mp hc182)])).2 kq) ?_
    show Go p e below _ _ T (mkF m 193 #[.val (.int x1), .val (.int x2), .val (.int x3), .val (.int x4), .val (.int x5), .val (.int x6), .val (.ref b1), .val (.int (Int32.ofNat nN)), .val (.int (Int32.ofNat sN)), .val (.ref b60), .val (.int (own_gt (own_it Tx nN 4 sN) sN)), .val (.ref m1), .val (.int (0 : Int32)), .val (.ref m2), .val (.int (Int32.ofNat (own_it Tx nN 4 sN)))] [])
    refine Go.of (fun _ kq => XS.aload X.here hx rfl (hb hby at_193) rfl rfl kq) ?_
    show Go p e below _ _ T (mkF m 195 #[.val (.int x1), .val (.int x2), .val (.int x3), .val (.int x4), .val (.int x5), .val (.int x6), .val (.ref b1), .val (.int (Int32.ofNat nN)), .val (.int (Int32.ofNat sN)), .val (.ref b60), .val (.int (own_gt (own_it Tx nN 4 sN) sN)), .val (.ref m1), .val (.int (0 : Int32)), .val (.ref m2), .val (.int (Int32.ofNat (own_it Tx nN 4 sN)))] [(.ref m1)])
    refine Go.virtual (a := m1) X hx hZ hown (hw _ (List.mem_of_getElem? (i := 161) rfl)) (hw _ (List.mem_of_getElem? (i := 124) rfl)) (notFace_of_selects (args := #[]) (mvT hZ (hw _ (List.mem_of_getElem? (i := 126) rfl)))) (hw _ (List.mem_of_getElem? (i := 126) rfl)) (hw _ (List.mem_of_getElem? (i := 125) rfl)) (hw _ (List.mem_of_getElem? (i := 102) rfl)) (hw _ (List.mem_of_getElem? (i := 127) rfl)) (by decide) (rmM_offset hw m1 (Int32.ofNat (own_it Tx nN 4 sN)) _ n0 F_offset_m1) eT E_m1 0 (by decide) (by decide) (by decide) (by decide) (by rw [hml]; rfl) (argsL := []) [] (lenOf pd8 rfl) rfl rfl (Nat.le_of_eq rfl) (hb hby at_195) ?_
    intro v T L' X hQ
    obtain ⟨rfl, N', eT⟩ := hQ
    have N := Fr.app N N'
    show Go p e below _ _ T (mkF m 198 #[.val (.int x1), .val (.int x2), .val (.int x3), .val (.int x4), .val (.int x5), .val (.int x6), .val (.ref b1), .val (.int (Int32.ofNat nN)), .val (.int (Int32.ofNat sN)), .val (.ref b60), .val (.int (own_gt (own_it Tx nN 4 sN) sN)), .val (.ref m1), .val (.int (0 : Int32)), .val (.ref m2), .val (.int (Int32.ofNat (own_it Tx nN 4 sN)))] [(.int (Int32.ofNat (own_it Tx nN 4 sN)))])
    refine Go.of (fun _ kq => XS.iload X.here hx rfl (hb hby at_198) rfl kq) ?_
    show Go p e below _ _ T (mkF m 200 #[.val (.int x1), .val (.int x2), .val (.int x3), .val (.int x4), .val (.int x5), .val (.int x6), .val (.ref b1), .val (.int (Int32.ofNat nN)), .val (.int (Int32.ofNat sN)), .val (.ref b60), .val (.int (own_gt (own_it Tx nN 4 sN) sN)), .val (.ref m1), .val (.int (0 : Int32)), .val (.ref m2), .val (.int (Int32.ofNat (own_it Tx nN 4 sN)))] [(.int (Int32.ofNat (own_it Tx nN 4 sN))), (.int (Int32.ofNat (own_it Tx nN 4 sN)))])
    refine Go.of (fun _ kq => XS.icmpNo X.here hx rfl (hb hby at_200) rfl (teq (rfl)).2 kq) ?_
    show Go p e below _ _ T (mkF m 203 #[.val (.int x1), .val (.int x2), .val (.int x3), .val (.int x4), .val (.int x5), .val (.int x6), .val (.ref b1), .val (.int (Int32.ofNat nN)), .val (.int (Int32.ofNat sN)), .val (.ref b60), .val (.int (own_gt (own_it Tx nN 4 sN) sN)), .val (.ref m1), .val (.int (0 : Int32)), .val (.ref m2), .val (.int (Int32.ofNat (own_it Tx nN 4 sN)))] [])
    refine Go.of (fun _ kq => XS.aload X.here hx rfl (hb hby at_203) rfl rfl kq) ?_
    show Go p e below _ _ T (mkF m 205 #[.val (.int x1), .val (.int x2), .val (.int x3), .val (.int x4), .val (.int x5), .val (.int x6), .val (.ref b1), .val (.int (Int32.ofNat nN)), .val (.int (Int32.ofNat sN)), .val (.ref b60), .val (.int (own_gt (own_it Tx nN 4 sN) sN)), .val (.ref m1), .val (.int (0 : Int32)), .val (.ref m2), .val (.int (Int32.ofNat (own_it Tx nN 4 sN)))] [(.ref m1)])
    refine Go.virtual (a := m1) X hx hZ hown (hw _ (List.mem_of_getElem? (i := 162) rfl)) (hw _ (List.mem_of_getElem? (i := 131) rfl)) (notFace_of_selects (args := #[]) (mvT hZ (hw _ (List.mem_of_getElem? (i := 133) rfl)))) (hw _ (List.mem_of_getElem? (i := 133) rfl)) (hw _ (List.mem_of_getElem? (i := 132) rfl)) (hw _ (List.mem_of_getElem? (i := 102) rfl)) (hw _ (List.mem_of_getElem? (i := 134) rfl)) (by decide) (rmM_line hw m1 x5 _ n0 F_line_m1) eT E_m1 0 (by decide) (by decide) (by decide) (by decide) (by rw [hml]; rfl) (argsL := []) [] (lenOf pd8 rfl) rfl rfl (Nat.le_of_eq rfl) (hb hby at_205) ?_
    intro v T L' X hQ
    obtain ⟨rfl, N', eT⟩ := hQ
    have N := Fr.app N N'
    show Go p e below _ _ T (mkF m 208 #[.val (.int x1), .val (.int x2), .val (.int x3), .val (.int x4), .val (.int x5), .val (.int x6), .val (.ref b1), .val (.int (Int32.ofNat nN)), .val (.int (Int32.ofNat sN)), .val (.ref b60), .val (.int (own_gt (own_it Tx nN 4 sN) sN)), .val (.ref m1), .val (.int (0 : Int32)), .val (.ref m2), .val (.int (Int32.ofNat (own_it Tx nN 4 sN)))] [(.int x5)])
    refine Go.of (fun _ kq => XS.iload X.here hx rfl (hb hby at_208) rfl kq) ?_
    show Go p e below _ _ T (mkF m 210 #[.val (.int x1), .val (.int x2), .val (.int x3), .val (.int x4), .val (.int x5), .val (.int x6), .val (.ref b1), .val (.int (Int32.ofNat nN)), .val (.int (Int32.ofNat sN)), .val (.ref b60), .val (.int (own_gt (own_it Tx nN 4 sN) sN)), .val (.ref m1), .val (.int (0 : Int32)), .val (.ref m2), .val (.int (Int32.ofNat (own_it Tx nN 4 sN)))] [(.int x5), (.int x5)])
    refine Go.of (fun _ kq => XS.icmpNo X.here hx rfl (hb hby at_210) rfl (teq (rfl)).2 kq) ?_
    show Go p e below _ _ T (mkF m 213 #[.val (.int x1), .val (.int x2), .val (.int x3), .val (.int x4), .val (.int x5), .val (.int x6), .val (.ref b1), .val (.int (Int32.ofNat nN)), .val (.int (Int32.ofNat sN)), .val (.ref b60), .val (.int (own_gt (own_it Tx nN 4 sN) sN)), .val (.ref m1), .val (.int (0 : Int32)), .val (.ref m2), .val (.int (Int32.ofNat (own_it Tx nN 4 sN)))] [])
    refine Go.of (fun _ kq => XS.aload X.here hx rfl (hb hby at_213) rfl rfl kq) ?_
    show Go p e below _ _ T (mkF m 215 #[.val (.int x1), .val (.int x2), .val (.int x3), .val (.int x4), .val (.int x5), .val (.int x6), .val (.ref b1), .val (.int (Int32.ofNat nN)), .val (.int (Int32.ofNat sN)), .val (.ref b60), .val (.int (own_gt (own_it Tx nN 4 sN) sN)), .val (.ref m1), .val (.int (0 : Int32)), .val (.ref m2), .val (.int (Int32.ofNat (own_it Tx nN 4 sN)))] [(.ref m1)])
    refine Go.virtual (a := m1) X hx hZ hown (hw _ (List.mem_of_getElem? (i := 163) rfl)) (hw _ (List.mem_of_getElem? (i := 136) rfl)) (notFace_of_selects (args := #[]) (mvT hZ (hw _ (List.mem_of_getElem? (i := 138) rfl)))) (hw _ (List.mem_of_getElem? (i := 138) rfl)) (hw _ (List.mem_of_getElem? (i := 137) rfl)) (hw _ (List.mem_of_getElem? (i := 102) rfl)) (hw _ (List.mem_of_getElem? (i := 139) rfl)) (by decide) (rmM_lineStart hw m1 x6 _ n0 F_lineStart_m1) eT E_m1 0 (by decide) (by decide) (by decide) (by decide) (by rw [hml]; rfl) (argsL := []) [] (lenOf pd8 rfl) rfl rfl (Nat.le_of_eq rfl) (hb hby at_215) ?_
    intro v T L' X hQ
    obtain ⟨rfl, N', eT⟩ := hQ
    have N := Fr.app N N'
    show Go p e below _ _ T (mkF m 218 #[.val (.int x1), .val (.int x2), .val (.int x3), .val (.int x4), .val (.int x5), .val (.int x6), .val (.ref b1), .val (.int (Int32.ofNat nN)), .val (.int (Int32.ofNat sN)), .val (.ref b60), .val (.int (own_gt (own_it Tx nN 4 sN) sN)), .val (.ref m1), .val (.int (0 : Int32)), .val (.ref m2), .val (.int (Int32.ofNat (own_it Tx nN 4 sN)))] [(.int x6)])
    refine Go.of (fun _ kq => XS.iload X.here hx rfl (hb hby at_218) rfl kq) ?_
    show Go p e below _ _ T (mkF m 220 #[.val (.int x1), .val (.int x2), .val (.int x3), .val (.int x4), .val (.int x5), .val (.int x6), .val (.ref b1), .val (.int (Int32.ofNat nN)), .val (.int (Int32.ofNat sN)), .val (.ref b60), .val (.int (own_gt (own_it Tx nN 4 sN) sN)), .val (.ref m1), .val (.int (0 : Int32)), .val (.ref m2), .val (.int (Int32.ofNat (own_it Tx nN 4 sN)))] [(.int x6), (.int x6)])
    refine Go.of (fun _ kq => XS.icmpNo X.here hx rfl (hb hby at_220) rfl (teq (rfl)).2 kq) ?_
    show Go p e below _ _ T (mkF m 223 #[.val (.int x1), .val (.int x2), .val (.int x3), .val (.int x4), .val (.int x5), .val (.int x6), .val (.ref b1), .val (.int (Int32.ofNat nN)), .val (.int (Int32.ofNat sN)), .val (.ref b60), .val (.int (own_gt (own_it Tx nN 4 sN) sN)), .val (.ref m1), .val (.int (0 : Int32)), .val (.ref m2), .val (.int (Int32.ofNat (own_it Tx nN 4 sN)))] [])
    refine Go.of (fun _ kq => XS.iload X.here hx rfl (hb hby at_223) rfl kq) ?_
    show Go p e below _ _ T (mkF m 225 #[.val (.int x1), .val (.int x2), .val (.int x3), .val (.int x4), .val (.int x5), .val (.int x6), .val (.ref b1), .val (.int (Int32.ofNat nN)), .val (.int (Int32.ofNat sN)), .val (.ref b60), .val (.int (own_gt (own_it Tx nN 4 sN) sN)), .val (.ref m1), .val (.int (0 : Int32)), .val (.ref m2), .val (.int (Int32.ofNat (own_it Tx nN 4 sN)))] [(.int (0 : Int32))])
    refine Go.of (fun _ kq => XS.ifNo X.here hx rfl (hb hby at_225) rfl ((if0 _ _).trans (teq (by decide)).2) kq) ?_
    show Go p e below _ _ T (mkF m 228 #[.val (.int x1), .val (.int x2), .val (.int x3), .val (.int x4), .val (.int x5), .val (.int x6), .val (.ref b1), .val (.int (Int32.ofNat nN)), .val (.int (Int32.ofNat sN)), .val (.ref b60), .val (.int (own_gt (own_it Tx nN 4 sN) sN)), .val (.ref m1), .val (.int (0 : Int32)), .val (.ref m2), .val (.int (Int32.ofNat (own_it Tx nN 4 sN)))] [])
    refine Go.of (fun _ kq => XS.aload X.here hx rfl (hb hby at_228) rfl rfl kq) ?_
    show Go p e below _ _ T (mkF m 230 #[.val (.int x1), .val (.int x2), .val (.int x3), .val (.int x4), .val (.int x5), .val (.int x6), .val (.ref b1), .val (.int (Int32.ofNat nN)), .val (.int (Int32.ofNat sN)), .val (.ref b60), .val (.int (own_gt (own_it Tx nN 4 sN) sN)), .val (.ref m1), .val (.int (0 : Int32)), .val (.ref m2), .val (.int (Int32.ofNat (own_it Tx nN 4 sN)))] [(.ref m2)])
    refine Go.virtual (a := m2) X hx hZ hown (hw _ (List.mem_of_getElem? (i := 161) rfl)) (hw _ (List.mem_of_getElem? (i := 124) rfl)) (notFace_of_selects (args := #[]) (mvT hZ (hw _ (List.mem_of_getElem? (i := 126) rfl)))) (hw _ (List.mem_of_getElem? (i := 126) rfl)) (hw _ (List.mem_of_getElem? (i := 125) rfl)) (hw _ (List.mem_of_getElem? (i := 102) rfl)) (hw _ (List.mem_of_getElem? (i := 127) rfl)) (by decide) (rmM_offset hw m2 (Int32.ofNat (own_it Tx nN 4 sN)) _ n0 F_offset_m2) eT E_m2 0 (by decide) (by decide) (by decide) (by decide) (by rw [hml]; rfl) (argsL := []) [] (lenOf pd8 rfl) rfl rfl (Nat.le_of_eq rfl) (hb hby at_230) ?_
    intro v T L' X hQ
    obtain ⟨rfl, N', eT⟩ := hQ
    have N := Fr.app N N'
    show Go p e below _ _ T (mkF m 233 #[.val (.int x1), .val (.int x2), .val (.int x3), .val (.int x4), .val (.int x5), .val (.int x6), .val (.ref b1), .val (.int (Int32.ofNat nN)), .val (.int (Int32.ofNat sN)), .val (.ref b60), .val (.int (own_gt (own_it Tx nN 4 sN) sN)), .val (.ref m1), .val (.int (0 : Int32)), .val (.ref m2), .val (.int (Int32.ofNat (own_it Tx nN 4 sN)))] [(.int (Int32.ofNat (own_it Tx nN 4 sN)))])
    refine Go.of (fun _ kq => XS.iload X.here hx rfl (hb hby at_233) rfl kq) ?_
    show Go p e below _ _ T (mkF m 235 #[.val (.int x1), .val (.int x2), .val (.int x3), .val (.int x4), .val (.int x5), .val (.int x6), .val (.ref b1), .val (.int (Int32.ofNat nN)), .val (.int (Int32.ofNat sN)), .val (.ref b60), .val (.int (own_gt (own_it Tx nN 4 sN) sN)), .val (.ref m1), .val (.int (0 : Int32)), .val (.ref m2), .val (.int (Int32.ofNat (own_it Tx nN 4 sN)))] [(.int (Int32.ofNat (own_it Tx nN 4 sN))), (.int (Int32.ofNat (own_it Tx nN 4 sN)))])
    refine Go.of (fun _ kq => XS.icmpNo X.here hx rfl (hb hby at_235) rfl (teq (rfl)).2 kq) ?_
    show Go p e below _ _ T (mkF m 238 #[.val (.int x1), .val (.int x2), .val (.int x3), .val (.int x4), .val (.int x5), .val (.int x6), .val (.ref b1), .val (.int (Int32.ofNat nN)), .val (.int (Int32.ofNat sN)), .val (.ref b60), .val (.int (own_gt (own_it Tx nN 4 sN) sN)), .val (.ref m1), .val (.int (0 : Int32)), .val (.ref m2), .val (.int (Int32.ofNat (own_it Tx nN 4 sN)))] [])
    refine Go.of (fun _ kq => XS.aload X.here hx rfl (hb hby at_238) rfl rfl kq) ?_
    show Go p e below _ _ T (mkF m 240 #[.val (.int x1), .val (.int x2), .val (.int x3), .val (.int x4), .val (.int x5), .val (.int x6), .val (.ref b1), .val (.int (Int32.ofNat nN)), .val (.int (Int32.ofNat sN)), .val (.ref b60), .val (.int (own_gt (own_it Tx nN 4 sN) sN)), .val (.ref m1), .val (.int (0 : Int32)), .val (.ref m2), .val (.int (Int32.ofNat (own_it Tx nN 4 sN)))] [(.ref m2)])
    refine Go.virtual (a := m2) X hx hZ hown (hw _ (List.mem_of_getElem? (i := 162) rfl)) (hw _ (List.mem_of_getElem? (i := 131) rfl)) (notFace_of_selects (args := #[]) (mvT hZ (hw _ (List.mem_of_getElem? (i := 133) rfl)))) (hw _ (List.mem_of_getElem? (i := 133) rfl)) (hw _ (List.mem_of_getElem? (i := 132) rfl)) (hw _ (List.mem_of_getElem? (i := 102) rfl)) (hw _ (List.mem_of_getElem? (i := 134) rfl)) (by decide) (rmM_line hw m2 x5 _ n0 F_line_m2) eT E_m2 0 (by decide) (by decide) (by decide) (by decide) (by rw [hml]; rfl) (argsL := []) [] (lenOf pd8 rfl) rfl rfl (Nat.le_of_eq rfl) (hb hby at_240) ?_
    intro v T L' X hQ
    obtain ⟨rfl, N', eT⟩ := hQ
    have N := Fr.app N N'
    show Go p e below _ _ T (mkF m 243 #[.val (.int x1), .val (.int x2), .val (.int x3), .val (.int x4), .val (.int x5), .val (.int x6), .val (.ref b1), .val (.int (Int32.ofNat nN)), .val (.int (Int32.ofNat sN)), .val (.ref b60), .val (.int (own_gt (own_it Tx nN 4 sN) sN)), .val (.ref m1), .val (.int (0 : Int32)), .val (.ref m2), .val (.int (Int32.ofNat (own_it Tx nN 4 sN)))] [(.int x5)])
    refine Go.of (fun _ kq => XS.iload X.here hx rfl (hb hby at_243) rfl kq) ?_
    show Go p e below _ _ T (mkF m 245 #[.val (.int x1), .val (.int x2), .val (.int x3), .val (.int x4), .val (.int x5), .val (.int x6), .val (.ref b1), .val (.int (Int32.ofNat nN)), .val (.int (Int32.ofNat sN)), .val (.ref b60), .val (.int (own_gt (own_it Tx nN 4 sN) sN)), .val (.ref m1), .val (.int (0 : Int32)), .val (.ref m2), .val (.int (Int32.ofNat (own_it Tx nN 4 sN)))] [(.int x5), (.int x5)])
    refine Go.of (fun _ kq => XS.icmpNo X.here hx rfl (hb hby at_245) rfl (teq (rfl)).2 kq) ?_
    show Go p e below _ _ T (mkF m 248 #[.val (.int x1), .val (.int x2), .val (.int x3), .val (.int x4), .val (.int x5), .val (.int x6), .val (.ref b1), .val (.int (Int32.ofNat nN)), .val (.int (Int32.ofNat sN)), .val (.ref b60), .val (.int (own_gt (own_it Tx nN 4 sN) sN)), .val (.ref m1), .val (.int (0 : Int32)), .val (.ref m2), .val (.int (Int32.ofNat (own_it Tx nN 4 sN)))] [])
    refine Go.of (fun _ kq => XS.aload X.here hx rfl (hb hby at_248) rfl rfl kq) ?_
    show Go p e below _ _ T (mkF m 250 #[.val (.int x1), .val (.int x2), .val (.int x3), .val (.int x4), .val (.int x5), .val (.int x6), .val (.ref b1), .val (.int (Int32.ofNat nN)), .val (.int (Int32.ofNat sN)), .val (.ref b60), .val (.int (own_gt (own_it Tx nN 4 sN) sN)), .val (.ref m1), .val (.int (0 : Int32)), .val (.ref m2), .val (.int (Int32.ofNat (own_it Tx nN 4 sN)))] [(.ref m2)])
    refine Go.virtual (a := m2) X hx hZ hown (hw _ (List.mem_of_getElem? (i := 163) rfl)) (hw _ (List.mem_of_getElem? (i := 136) rfl)) (notFace_of_selects (args := #[]) (mvT hZ (hw _ (List.mem_of_getElem? (i := 138) rfl)))) (hw _ (List.mem_of_getElem? (i := 138) rfl)) (hw _ (List.mem_of_getElem? (i := 137) rfl)) (hw _ (List.mem_of_getElem? (i := 102) rfl)) (hw _ (List.mem_of_getElem? (i := 139) rfl)) (by decide) (rmM_lineStart hw m2 x6 _ n0 F_lineStart_m2) eT E_m2 0 (by decide) (by decide) (by decide) (by decide) (by rw [hml]; rfl) (argsL := []) [] (lenOf pd8 rfl) rfl rfl (Nat.le_of_eq rfl) (hb hby at_250) ?_
    intro v T L' X hQ
    obtain ⟨rfl, N', eT⟩ := hQ
    have N := Fr.app N N'
    show Go p e below _ _ T (mkF m 253 #[.val (.int x1), .val (.int x2), .val (.int x3), .val (.int x4), .val (.int x5), .val (.int x6), .val (.ref b1), .val (.int (Int32.ofNat nN)), .val (.int (Int32.ofNat sN)), .val (.ref b60), .val (.int (own_gt (own_it Tx nN 4 sN) sN)), .val (.ref m1), .val (.int (0 : Int32)), .val (.ref m2), .val (.int (Int32.ofNat (own_it Tx nN 4 sN)))] [(.int x6)])
    refine Go.of (fun _ kq => XS.iload X.here hx rfl (hb hby at_253) rfl kq) ?_
    show Go p e below _ _ T (mkF m 255 #[.val (.int x1), .val (.int x2), .val (.int x3), .val (.int x4), .val (.int x5), .val (.int x6), .val (.ref b1), .val (.int (Int32.ofNat nN)), .val (.int (Int32.ofNat sN)), .val (.ref b60), .val (.int (own_gt (own_it Tx nN 4 sN) sN)), .val (.ref m1), .val (.int (0 : Int32)), .val (.ref m2), .val (.int (Int32.ofNat (own_it Tx nN 4 sN)))] [(.int x6), (.int x6)])
    refine Go.of (fun _ kq => XS.icmpNo X.here hx rfl (hb hby at_255) rfl (teq (rfl)).2 kq) ?_
    show Go p e below _ _ T (mkF m 258 #[.val (.int x1), .val (.int x2), .val (.int x3), .val (.int x4), .val (.int x5), .val (.int x6), .val (.ref b1), .val (.int (Int32.ofNat nN)), .val (.int (Int32.ofNat sN)), .val (.ref b60), .val (.int (own_gt (own_it Tx nN 4 sN) sN)), .val (.ref m1), .val (.int (0 : Int32)), .val (.ref m2), .val (.int (Int32.ofNat (own_it Tx nN 4 sN)))] [])
    refine Go.of (fun _ kq => XS.iconst X.here hx rfl (hb hby at_258) kq) ?_
    show Go p e below _ _ T (mkF m 259 #[.val (.int x1), .val (.int x2), .val (.int x3), .val (.int x4), .val (.int x5), .val (.int x6), .val (.ref b1), .val (.int (Int32.ofNat nN)), .val (.int (Int32.ofNat sN)), .val (.ref b60), .val (.int (own_gt (own_it Tx nN 4 sN) sN)), .val (.ref m1), .val (.int (0 : Int32)), .val (.ref m2), .val (.int (Int32.ofNat (own_it Tx nN 4 sN)))] [(.int (1 : Int32))])
    refine Go.of (fun _ kq => XS.goto X.here hx rfl (pc0 := 259) (pc' := 263) rfl (hb hby at_259) (by decide) (by decide) kq) ?_
    show Go p e below _ _ T (mkF m 263 #[.val (.int x1), .val (.int x2), .val (.int x3), .val (.int x4), .val (.int x5), .val (.int x6), .val (.ref b1), .val (.int (Int32.ofNat nN)), .val (.int (Int32.ofNat sN)), .val (.ref b60), .val (.int (own_gt (own_it Tx nN 4 sN) sN)), .val (.ref m1), .val (.int (0 : Int32)), .val (.ref m2), .val (.int (Int32.ofNat (own_it Tx nN 4 sN)))] [(.int (1 : Int32))])
    refine Go.retN X hx hret (by simp) hlk (hb hby at_263) (fun _ _ q e_ => own_finW hS (by rw [e_, eT]; exact hk) q (by decide) (by decide)) ?_
    try rw [eT]
    exact ⟨rfl, N⟩
  · refine Go.of (fun _ kq => XS.icmpYes X.here hx rfl (pc0 := 182) (pc' := 189) rfl (hb hby at_182) rfl (flt hc182).2.2.2 (by decide) (by decide) kq) ?_
    show Go p e below _ _ T (mkF m 189 #[.val (.int x1), .val (.int x2), .val (.int x3), .val (.int x4), .val (.int x5), .val (.int x6), .val (.ref b1), .val (.int (Int32.ofNat nN)), .val (.int (Int32.ofNat sN)), .val (.ref b60), .val (.int (own_gt (own_it Tx nN 4 sN) sN)), .val (.ref m1), .val (.int (0 : Int32)), .val (.ref m2), .val (.int (Int32.ofNat (own_it Tx nN 4 sN)))] [(.int (own_gt (own_it Tx nN 4 sN) sN))])
    refine Go.of (fun _ kq => XS.iconst X.here hx rfl (hb hby at_189) kq) ?_
    show Go p e below _ _ T (mkF m 190 #[.val (.int x1), .val (.int x2), .val (.int x3), .val (.int x4), .val (.int x5), .val (.int x6), .val (.ref b1), .val (.int (Int32.ofNat nN)), .val (.int (Int32.ofNat sN)), .val (.ref b60), .val (.int (own_gt (own_it Tx nN 4 sN) sN)), .val (.ref m1), .val (.int (0 : Int32)), .val (.ref m2), .val (.int (Int32.ofNat (own_it Tx nN 4 sN)))] [(.int (0 : Int32)), (.int (own_gt (own_it Tx nN 4 sN) sN))])
    refine Go.of (fun _ kq => XS.icmpNo X.here hx rfl (hb hby at_190) rfl (teq (by unfold own_gt; rw [if_neg (fun q => hc182 ((own_ltn (by omega) (by omega)).mpr q))])).2 kq) ?_
    show Go p e below _ _ T (mkF m 193 #[.val (.int x1), .val (.int x2), .val (.int x3), .val (.int x4), .val (.int x5), .val (.int x6), .val (.ref b1), .val (.int (Int32.ofNat nN)), .val (.int (Int32.ofNat sN)), .val (.ref b60), .val (.int (own_gt (own_it Tx nN 4 sN) sN)), .val (.ref m1), .val (.int (0 : Int32)), .val (.ref m2), .val (.int (Int32.ofNat (own_it Tx nN 4 sN)))] [])
    refine Go.of (fun _ kq => XS.aload X.here hx rfl (hb hby at_193) rfl rfl kq) ?_
    show Go p e below _ _ T (mkF m 195 #[.val (.int x1), .val (.int x2), .val (.int x3), .val (.int x4), .val (.int x5), .val (.int x6), .val (.ref b1), .val (.int (Int32.ofNat nN)), .val (.int (Int32.ofNat sN)), .val (.ref b60), .val (.int (own_gt (own_it Tx nN 4 sN) sN)), .val (.ref m1), .val (.int (0 : Int32)), .val (.ref m2), .val (.int (Int32.ofNat (own_it Tx nN 4 sN)))] [(.ref m1)])
    refine Go.virtual (a := m1) X hx hZ hown (hw _ (List.mem_of_getElem? (i := 161) rfl)) (hw _ (List.mem_of_getElem? (i := 124) rfl)) (notFace_of_selects (args := #[]) (mvT hZ (hw _ (List.mem_of_getElem? (i := 126) rfl)))) (hw _ (List.mem_of_getElem? (i := 126) rfl)) (hw _ (List.mem_of_getElem? (i := 125) rfl)) (hw _ (List.mem_of_getElem? (i := 102) rfl)) (hw _ (List.mem_of_getElem? (i := 127) rfl)) (by decide) (rmM_offset hw m1 (Int32.ofNat (own_it Tx nN 4 sN)) _ n0 F_offset_m1) eT E_m1 0 (by decide) (by decide) (by decide) (by decide) (by rw [hml]; rfl) (argsL := []) [] (lenOf pd8 rfl) rfl rfl (Nat.le_of_eq rfl) (hb hby at_195) ?_
    intro v T L' X hQ
    obtain ⟨rfl, N', eT⟩ := hQ
    have N := Fr.app N N'
    show Go p e below _ _ T (mkF m 198 #[.val (.int x1), .val (.int x2), .val (.int x3), .val (.int x4), .val (.int x5), .val (.int x6), .val (.ref b1), .val (.int (Int32.ofNat nN)), .val (.int (Int32.ofNat sN)), .val (.ref b60), .val (.int (own_gt (own_it Tx nN 4 sN) sN)), .val (.ref m1), .val (.int (0 : Int32)), .val (.ref m2), .val (.int (Int32.ofNat (own_it Tx nN 4 sN)))] [(.int (Int32.ofNat (own_it Tx nN 4 sN)))])
    refine Go.of (fun _ kq => XS.iload X.here hx rfl (hb hby at_198) rfl kq) ?_
    show Go p e below _ _ T (mkF m 200 #[.val (.int x1), .val (.int x2), .val (.int x3), .val (.int x4), .val (.int x5), .val (.int x6), .val (.ref b1), .val (.int (Int32.ofNat nN)), .val (.int (Int32.ofNat sN)), .val (.ref b60), .val (.int (own_gt (own_it Tx nN 4 sN) sN)), .val (.ref m1), .val (.int (0 : Int32)), .val (.ref m2), .val (.int (Int32.ofNat (own_it Tx nN 4 sN)))] [(.int (Int32.ofNat (own_it Tx nN 4 sN))), (.int (Int32.ofNat (own_it Tx nN 4 sN)))])
    refine Go.of (fun _ kq => XS.icmpNo X.here hx rfl (hb hby at_200) rfl (teq (rfl)).2 kq) ?_
    show Go p e below _ _ T (mkF m 203 #[.val (.int x1), .val (.int x2), .val (.int x3), .val (.int x4), .val (.int x5), .val (.int x6), .val (.ref b1), .val (.int (Int32.ofNat nN)), .val (.int (Int32.ofNat sN)), .val (.ref b60), .val (.int (own_gt (own_it Tx nN 4 sN) sN)), .val (.ref m1), .val (.int (0 : Int32)), .val (.ref m2), .val (.int (Int32.ofNat (own_it Tx nN 4 sN)))] [])
    refine Go.of (fun _ kq => XS.aload X.here hx rfl (hb hby at_203) rfl rfl kq) ?_
    show Go p e below _ _ T (mkF m 205 #[.val (.int x1), .val (.int x2), .val (.int x3), .val (.int x4), .val (.int x5), .val (.int x6), .val (.ref b1), .val (.int (Int32.ofNat nN)), .val (.int (Int32.ofNat sN)), .val (.ref b60), .val (.int (own_gt (own_it Tx nN 4 sN) sN)), .val (.ref m1), .val (.int (0 : Int32)), .val (.ref m2), .val (.int (Int32.ofNat (own_it Tx nN 4 sN)))] [(.ref m1)])
    refine Go.virtual (a := m1) X hx hZ hown (hw _ (List.mem_of_getElem? (i := 162) rfl)) (hw _ (List.mem_of_getElem? (i := 131) rfl)) (notFace_of_selects (args := #[]) (mvT hZ (hw _ (List.mem_of_getElem? (i := 133) rfl)))) (hw _ (List.mem_of_getElem? (i := 133) rfl)) (hw _ (List.mem_of_getElem? (i := 132) rfl)) (hw _ (List.mem_of_getElem? (i := 102) rfl)) (hw _ (List.mem_of_getElem? (i := 134) rfl)) (by decide) (rmM_line hw m1 x5 _ n0 F_line_m1) eT E_m1 0 (by decide) (by decide) (by decide) (by decide) (by rw [hml]; rfl) (argsL := []) [] (lenOf pd8 rfl) rfl rfl (Nat.le_of_eq rfl) (hb hby at_205) ?_
    intro v T L' X hQ
    obtain ⟨rfl, N', eT⟩ := hQ
    have N := Fr.app N N'
    show Go p e below _ _ T (mkF m 208 #[.val (.int x1), .val (.int x2), .val (.int x3), .val (.int x4), .val (.int x5), .val (.int x6), .val (.ref b1), .val (.int (Int32.ofNat nN)), .val (.int (Int32.ofNat sN)), .val (.ref b60), .val (.int (own_gt (own_it Tx nN 4 sN) sN)), .val (.ref m1), .val (.int (0 : Int32)), .val (.ref m2), .val (.int (Int32.ofNat (own_it Tx nN 4 sN)))] [(.int x5)])
    refine Go.of (fun _ kq => XS.iload X.here hx rfl (hb hby at_208) rfl kq) ?_
    show Go p e below _ _ T (mkF m 210 #[.val (.int x1), .val (.int x2), .val (.int x3), .val (.int x4), .val (.int x5), .val (.int x6), .val (.ref b1), .val (.int (Int32.ofNat nN)), .val (.int (Int32.ofNat sN)), .val (.ref b60), .val (.int (own_gt (own_it Tx nN 4 sN) sN)), .val (.ref m1), .val (.int (0 : Int32)), .val (.ref m2), .val (.int (Int32.ofNat (own_it Tx nN 4 sN)))] [(.int x5), (.int x5)])
    refine Go.of (fun _ kq => XS.icmpNo X.here hx rfl (hb hby at_210) rfl (teq (rfl)).2 kq) ?_
    show Go p e below _ _ T (mkF m 213 #[.val (.int x1), .val (.int x2), .val (.int x3), .val (.int x4), .val (.int x5), .val (.int x6), .val (.ref b1), .val (.int (Int32.ofNat nN)), .val (.int (Int32.ofNat sN)), .val (.ref b60), .val (.int (own_gt (own_it Tx nN 4 sN) sN)), .val (.ref m1), .val (.int (0 : Int32)), .val (.ref m2), .val (.int (Int32.ofNat (own_it Tx nN 4 sN)))] [])
    refine Go.of (fun _ kq => XS.aload X.here hx rfl (hb hby at_213) rfl rfl kq) ?_
    show Go p e below _ _ T (mkF m 215 #[.val (.int x1), .val (.int x2), .val (.int x3), .val (.int x4), .val (.int x5), .val (.int x6), .val (.ref b1), .val (.int (Int32.ofNat nN)), .val (.int (Int32.ofNat sN)), .val (.ref b60), .val (.int (own_gt (own_it Tx nN 4 sN) sN)), .val (.ref m1), .val (.int (0 : Int32)), .val (.ref m2), .val (.int (Int32.ofNat (own_it Tx nN 4 sN)))] [(.ref m1)])
    refine Go.virtual (a := m1) X hx hZ hown (hw _ (List.mem_of_getElem? (i := 163) rfl)) (hw _ (List.mem_of_getElem? (i := 136) rfl)) (notFace_of_selects (args := #[]) (mvT hZ (hw _ (List.mem_of_getElem? (i := 138) rfl)))) (hw _ (List.mem_of_getElem? (i := 138) rfl)) (hw _ (List.mem_of_getElem? (i := 137) rfl)) (hw _ (List.mem_of_getElem? (i := 102) rfl)) (hw _ (List.mem_of_getElem? (i := 139) rfl)) (by decide) (rmM_lineStart hw m1 x6 _ n0 F_lineStart_m1) eT E_m1 0 (by decide) (by decide) (by decide) (by decide) (by rw [hml]; rfl) (argsL := []) [] (lenOf pd8 rfl) rfl rfl (Nat.le_of_eq rfl) (hb hby at_215) ?_
    intro v T L' X hQ
    obtain ⟨rfl, N', eT⟩ := hQ
    have N := Fr.app N N'
    show Go p e below _ _ T (mkF m 218 #[.val (.int x1), .val (.int x2), .val (.int x3), .val (.int x4), .val (.int x5), .val (.int x6), .val (.ref b1), .val (.int (Int32.ofNat nN)), .val (.int (Int32.ofNat sN)), .val (.ref b60), .val (.int (own_gt (own_it Tx nN 4 sN) sN)), .val (.ref m1), .val (.int (0 : Int32)), .val (.ref m2), .val (.int (Int32.ofNat (own_it Tx nN 4 sN)))] [(.int x6)])
    refine Go.of (fun _ kq => XS.iload X.here hx rfl (hb hby at_218) rfl kq) ?_
    show Go p e below _ _ T (mkF m 220 #[.val (.int x1), .val (.int x2), .val (.int x3), .val (.int x4), .val (.int x5), .val (.int x6), .val (.ref b1), .val (.int (Int32.ofNat nN)), .val (.int (Int32.ofNat sN)), .val (.ref b60), .val (.int (own_gt (own_it Tx nN 4 sN) sN)), .val (.ref m1), .val (.int (0 : Int32)), .val (.ref m2), .val (.int (Int32.ofNat (own_it Tx nN 4 sN)))] [(.int x6), (.int x6)])
    refine Go.of (fun _ kq => XS.icmpNo X.here hx rfl (hb hby at_220) rfl (teq (rfl)).2 kq) ?_
    show Go p e below _ _ T (mkF m 223 #[.val (.int x1), .val (.int x2), .val (.int x3), .val (.int x4), .val (.int x5), .val (.int x6), .val (.ref b1), .val (.int (Int32.ofNat nN)), .val (.int (Int32.ofNat sN)), .val (.ref b60), .val (.int (own_gt (own_it Tx nN 4 sN) sN)), .val (.ref m1), .val (.int (0 : Int32)), .val (.ref m2), .val (.int (Int32.ofNat (own_it Tx nN 4 sN)))] [])
    refine Go.of (fun _ kq => XS.iload X.here hx rfl (hb hby at_223) rfl kq) ?_
    show Go p e below _ _ T (mkF m 225 #[.val (.int x1), .val (.int x2), .val (.int x3), .val (.int x4), .val (.int x5), .val (.int x6), .val (.ref b1), .val (.int (Int32.ofNat nN)), .val (.int (Int32.ofNat sN)), .val (.ref b60), .val (.int (own_gt (own_it Tx nN 4 sN) sN)), .val (.ref m1), .val (.int (0 : Int32)), .val (.ref m2), .val (.int (Int32.ofNat (own_it Tx nN 4 sN)))] [(.int (0 : Int32))])
    refine Go.of (fun _ kq => XS.ifNo X.here hx rfl (hb hby at_225) rfl ((if0 _ _).trans (teq (by decide)).2) kq) ?_
    show Go p e below _ _ T (mkF m 228 #[.val (.int x1), .val (.int x2), .val (.int x3), .val (.int x4), .val (.int x5), .val (.int x6), .val (.ref b1), .val (.int (Int32.ofNat nN)), .val (.int (Int32.ofNat sN)), .val (.ref b60), .val (.int (own_gt (own_it Tx nN 4 sN) sN)), .val (.ref m1), .val (.int (0 : Int32)), .val (.ref m2), .val (.int (Int32.ofNat (own_it Tx nN 4 sN)))] [])
    refine Go.of (fun _ kq => XS.aload X.here hx rfl (hb hby at_228) rfl rfl kq) ?_
    show Go p e below _ _ T (mkF m 230 #[.val (.int x1), .val (.int x2), .val (.int x3), .val (.int x4), .val (.int x5), .val (.int x6), .val (.ref b1), .val (.int (Int32.ofNat nN)), .val (.int (Int32.ofNat sN)), .val (.ref b60), .val (.int (own_gt (own_it Tx nN 4 sN) sN)), .val (.ref m1), .val (.int (0 : Int32)), .val (.ref m2), .val (.int (Int32.ofNat (own_it Tx nN 4 sN)))] [(.ref m2)])
    refine Go.virtual (a := m2) X hx hZ hown (hw _ (List.mem_of_getElem? (i := 161) rfl)) (hw _ (List.mem_of_getElem? (i := 124) rfl)) (notFace_of_selects (args := #[]) (mvT hZ (hw _ (List.mem_of_getElem? (i := 126) rfl)))) (hw _ (List.mem_of_getElem? (i := 126) rfl)) (hw _ (List.mem_of_getElem? (i := 125) rfl)) (hw _ (List.mem_of_getElem? (i := 102) rfl)) (hw _ (List.mem_of_getElem? (i := 127) rfl)) (by decide) (rmM_offset hw m2 (Int32.ofNat (own_it Tx nN 4 sN)) _ n0 F_offset_m2) eT E_m2 0 (by decide) (by decide) (by decide) (by decide) (by rw [hml]; rfl) (argsL := []) [] (lenOf pd8 rfl) rfl rfl (Nat.le_of_eq rfl) (hb hby at_230) ?_
    intro v T L' X hQ
    obtain ⟨rfl, N', eT⟩ := hQ
    have N := Fr.app N N'
    show Go p e below _ _ T (mkF m 233 #[.val (.int x1), .val (.int x2), .val (.int x3), .val (.int x4), .val (.int x5), .val (.int x6), .val (.ref b1), .val (.int (Int32.ofNat nN)), .val (.int (Int32.ofNat sN)), .val (.ref b60), .val (.int (own_gt (own_it Tx nN 4 sN) sN)), .val (.ref m1), .val (.int (0 : Int32)), .val (.ref m2), .val (.int (Int32.ofNat (own_it Tx nN 4 sN)))] [(.int (Int32.ofNat (own_it Tx nN 4 sN)))])
    refine Go.of (fun _ kq => XS.iload X.here hx rfl (hb hby at_233) rfl kq) ?_
    show Go p e below _ _ T (mkF m 235 #[.val (.int x1), .val (.int x2), .val (.int x3), .val (.int x4), .val (.int x5), .val (.int x6), .val (.ref b1), .val (.int (Int32.ofNat nN)), .val (.int (Int32.ofNat sN)), .val (.ref b60), .val (.int (own_gt (own_it Tx nN 4 sN) sN)), .val (.ref m1), .val (.int (0 : Int32)), .val (.ref m2), .val (.int (Int32.ofNat (own_it Tx nN 4 sN)))] [(.int (Int32.ofNat (own_it Tx nN 4 sN))), (.int (Int32.ofNat (own_it Tx nN 4 sN)))])
    refine Go.of (fun _ kq => XS.icmpNo X.here hx rfl (hb hby at_235) rfl (teq (rfl)).2 kq) ?_
    show Go p e below _ _ T (mkF m 238 #[.val (.int x1), .val (.int x2), .val (.int x3), .val (.int x4), .val (.int x5), .val (.int x6), .val (.ref b1), .val (.int (Int32.ofNat nN)), .val (.int (Int32.ofNat sN)), .val (.ref b60), .val (.int (own_gt (own_it Tx nN 4 sN) sN)), .val (.ref m1), .val (.int (0 : Int32)), .val (.ref m2), .val (.int (Int32.ofNat (own_it Tx nN 4 sN)))] [])
    refine Go.of (fun _ kq => XS.aload X.here hx rfl (hb hby at_238) rfl rfl kq) ?_
    show Go p e below _ _ T (mkF m 240 #[.val (.int x1), .val (.int x2), .val (.int x3), .val (.int x4), .val (.int x5), .val (.int x6), .val (.ref b1), .val (.int (Int32.ofNat nN)), .val (.int (Int32.ofNat sN)), .val (.ref b60), .val (.int (own_gt (own_it Tx nN 4 sN) sN)), .val (.ref m1), .val (.int (0 : Int32)), .val (.ref m2), .val (.int (Int32.ofNat (own_it Tx nN 4 sN)))] [(.ref m2)])
    refine Go.virtual (a := m2) X hx hZ hown (hw _ (List.mem_of_getElem? (i := 162) rfl)) (hw _ (List.mem_of_getElem? (i := 131) rfl)) (notFace_of_selects (args := #[]) (mvT hZ (hw _ (List.mem_of_getElem? (i := 133) rfl)))) (hw _ (List.mem_of_getElem? (i := 133) rfl)) (hw _ (List.mem_of_getElem? (i := 132) rfl)) (hw _ (List.mem_of_getElem? (i := 102) rfl)) (hw _ (List.mem_of_getElem? (i := 134) rfl)) (by decide) (rmM_line hw m2 x5 _ n0 F_line_m2) eT E_m2 0 (by decide) (by decide) (by decide) (by decide) (by rw [hml]; rfl) (argsL := []) [] (lenOf pd8 rfl) rfl rfl (Nat.le_of_eq rfl) (hb hby at_240) ?_
    intro v T L' X hQ
    obtain ⟨rfl, N', eT⟩ := hQ
    have N := Fr.app N N'
    show Go p e below _ _ T (mkF m 243 #[.val (.int x1), .val (.int x2), .val (.int x3), .val (.int x4), .val (.int x5), .val (.int x6), .val (.ref b1), .val (.int (Int32.ofNat nN)), .val (.int (Int32.ofNat sN)), .val (.ref b60), .val (.int (own_gt (own_it Tx nN 4 sN) sN)), .val (.ref m1), .val (.int (0 : Int32)), .val (.ref m2), .val (.int (Int32.ofNat (own_it Tx nN 4 sN)))] [(.int x5)])
    refine Go.of (fun _ kq => XS.iload X.here hx rfl (hb hby at_243) rfl kq) ?_
    show Go p e below _ _ T (mkF m 245 #[.val (.int x1), .val (.int x2), .val (.int x3), .val (.int x4), .val (.int x5), .val (.int x6), .val (.ref b1), .val (.int (Int32.ofNat nN)), .val (.int (Int32.ofNat sN)), .val (.ref b60), .val (.int (own_gt (own_it Tx nN 4 sN) sN)), .val (.ref m1), .val (.int (0 : Int32)), .val (.ref m2), .val (.int (Int32.ofNat (own_it Tx nN 4 sN)))] [(.int x5), (.int x5)])
    refine Go.of (fun _ kq => XS.icmpNo X.here hx rfl (hb hby at_245) rfl (teq (rfl)).2 kq) ?_
    show Go p e below _ _ T (mkF m 248 #[.val (.int x1), .val (.int x2), .val (.int x3), .val (.int x4), .val (.int x5), .val (.int x6), .val (.ref b1), .val (.int (Int32.ofNat nN)), .val (.int (Int32.ofNat sN)), .val (.ref b60), .val (.int (own_gt (own_it Tx nN 4 sN) sN)), .val (.ref m1), .val (.int (0 : Int32)), .val (.ref m2), .val (.int (Int32.ofNat (own_it Tx nN 4 sN)))] [])
    refine Go.of (fun _ kq => XS.aload X.here hx rfl (hb hby at_248) rfl rfl kq) ?_
    show Go p e below _ _ T (mkF m 250 #[.val (.int x1), .val (.int x2), .val (.int x3), .val (.int x4), .val (.int x5), .val (.int x6), .val (.ref b1), .val (.int (Int32.ofNat nN)), .val (.int (Int32.ofNat sN)), .val (.ref b60), .val (.int (own_gt (own_it Tx nN 4 sN) sN)), .val (.ref m1), .val (.int (0 : Int32)), .val (.ref m2), .val (.int (Int32.ofNat (own_it Tx nN 4 sN)))] [(.ref m2)])
    refine Go.virtual (a := m2) X hx hZ hown (hw _ (List.mem_of_getElem? (i := 163) rfl)) (hw _ (List.mem_of_getElem? (i := 136) rfl)) (notFace_of_selects (args := #[]) (mvT hZ (hw _ (List.mem_of_getElem? (i := 138) rfl)))) (hw _ (List.mem_of_getElem? (i := 138) rfl)) (hw _ (List.mem_of_getElem? (i := 137) rfl)) (hw _ (List.mem_of_getElem? (i := 102) rfl)) (hw _ (List.mem_of_getElem? (i := 139) rfl)) (by decide) (rmM_lineStart hw m2 x6 _ n0 F_lineStart_m2) eT E_m2 0 (by decide) (by decide) (by decide) (by decide) (by rw [hml]; rfl) (argsL := []) [] (lenOf pd8 rfl) rfl rfl (Nat.le_of_eq rfl) (hb hby at_250) ?_
    intro v T L' X hQ
    obtain ⟨rfl, N', eT⟩ := hQ
    have N := Fr.app N N'
    show Go p e below _ _ T (mkF m 253 #[.val (.int x1), .val (.int x2), .val (.int x3), .val (.int x4), .val (.int x5), .val (.int x6), .val (.ref b1), .val (.int (Int32.ofNat nN)), .val (.int (Int32.ofNat sN)), .val (.ref b60), .val (.int (own_gt (own_it Tx nN 4 sN) sN)), .val (.ref m1), .val (.int (0 : Int32)), .val (.ref m2), .val (.int (Int32.ofNat (own_it Tx nN 4 sN)))] [(.int x6)])
    refine Go.of (fun _ kq => XS.iload X.here hx rfl (hb hby at_253) rfl kq) ?_
    show Go p e below _ _ T (mkF m 255 #[.val (.int x1), .val (.int x2), .val (.int x3), .val (.int x4), .val (.int x5), .val (.int x6), .val (.ref b1), .val (.int (Int32.ofNat nN)), .val (.int (Int32.ofNat sN)), .val (.ref b60), .val (.int (own_gt (own_it Tx nN 4 sN) sN)), .val (.ref m1), .val (.int (0 : Int32)), .val (.ref m2), .val (.int (Int32.ofNat (own_it Tx nN 4 sN)))] [(.int x6), (.int x6)])
    refine Go.of (fun _ kq => XS.icmpNo X.here hx rfl (hb hby at_255) rfl (teq (rfl)).2 kq) ?_
    show Go p e below _ _ T (mkF m 258 #[.val (.int x1), .val (.int x2), .val (.int x3), .val (.int x4), .val (.int x5), .val (.int x6), .val (.ref b1), .val (.int (Int32.ofNat nN)), .val (.int (Int32.ofNat sN)), .val (.ref b60), .val (.int (own_gt (own_it Tx nN 4 sN) sN)), .val (.ref m1), .val (.int (0 : Int32)), .val (.ref m2), .val (.int (Int32.ofNat (own_it Tx nN 4 sN)))] [])
    refine Go.of (fun _ kq => XS.iconst X.here hx rfl (hb hby at_258) kq) ?_
    show Go p e below _ _ T (mkF m 259 #[.val (.int x1), .val (.int x2), .val (.int x3), .val (.int x4), .val (.int x5), .val (.int x6), .val (.ref b1), .val (.int (Int32.ofNat nN)), .val (.int (Int32.ofNat sN)), .val (.ref b60), .val (.int (own_gt (own_it Tx nN 4 sN) sN)), .val (.ref m1), .val (.int (0 : Int32)), .val (.ref m2), .val (.int (Int32.ofNat (own_it Tx nN 4 sN)))] [(.int (1 : Int32))])
    refine Go.of (fun _ kq => XS.goto X.here hx rfl (pc0 := 259) (pc' := 263) rfl (hb hby at_259) (by decide) (by decide) kq) ?_
    show Go p e below _ _ T (mkF m 263 #[.val (.int x1), .val (.int x2), .val (.int x3), .val (.int x4), .val (.int x5), .val (.int x6), .val (.ref b1), .val (.int (Int32.ofNat nN)), .val (.int (Int32.ofNat sN)), .val (.ref b60), .val (.int (own_gt (own_it Tx nN 4 sN) sN)), .val (.ref m1), .val (.int (0 : Int32)), .val (.ref m2), .val (.int (Int32.ofNat (own_it Tx nN 4 sN)))] [(.int (1 : Int32))])
    refine Go.retN X hx hret (by simp) hlk (hb hby at_263) (fun _ _ q e_ => own_finW hS (by rw [e_, eT]; exact hk) q (by decide) (by decide)) ?_
    try rw [eT]
    exact ⟨rfl, N⟩
set_option maxRecDepth 65536 in
set_option maxHeartbeats 40000000 in
theorem comes_1 {Post : Tables → Env → Array Value → State → Outcome → State → Prop} (hpost : ∀ tb e args s v u, (limb_1_1.after args s (.returned v) u = true ∧ limb_1_2.after args s (.returned v) u = true ∧ True) → ReturnedEndW s (.returned v) u (Jvm.fieldLocs frame_1_writes args s ++ Jvm.arrayLocs frame_1_arrays args s ++ Jvm.staticLocs frame_1_statics s) 32 1216 → Post tb e args s (.returned v) u) :
    ArmFor flags0 classFile x code maxLocals ret World_1 tables_1 room_1 Calls_1 rest_1 Pre_1 Post := by
  intro l hfl _ _ p e ha hc hk s m args below hf hA hF happ hP
  obtain ⟨hcalls, hrest, hpre⟩ := hP
  obtain ⟨-, -, -, hnamed, -, -, -, hat⟩ := (Spec.applies_iff hf).mp happ
  obtain ⟨hg, hn⟩ := and_e (Cond.before_iff.mp (show (Jvm.Cond.and given_1 narrow_1).before args s = true from hpre))
  obtain ⟨gc, g0⟩ := and_e hg
  obtain ⟨k0, g1⟩ := and_e g0
  obtain ⟨k1, g2⟩ := and_e g1
  obtain ⟨k2, g3⟩ := and_e g2
  obtain ⟨k3, g4⟩ := and_e g3
  obtain ⟨k4, g5⟩ := and_e g4
  obtain ⟨w0, w1, w2, w3, w4, w5, rfl⟩ : ∃ w0 w1 w2 w3 w4 w5 : Value, args = #[w0, w1, w2, w3, w4, w5] := by
    have hs : args.size = 6 := by simpa [Cond.value, given_1] using gc
    obtain ⟨L⟩ := args
    match L, hs with
    | [w0, w1, w2, w3, w4, w5], _ => exact ⟨w0, w1, w2, w3, w4, w5, rfl⟩
  have hw := fun d (hd : d ∈ tables_1) => atoms_spec (ws := Jvm.Cond.code x code maxLocals ret :: tables_1) hat d (List.mem_cons_of_mem _ hd)
  obtain ⟨i0, ei0⟩ := is_v k0
  obtain rfl : w0 = (.int i0) := Option.some.inj ei0
  obtain ⟨i1, ei1⟩ := is_v k1
  obtain rfl : w1 = (.int i1) := Option.some.inj ei1
  obtain ⟨i2, ei2⟩ := is_v k2
  obtain rfl : w2 = (.int i2) := Option.some.inj ei2
  obtain ⟨i3, ei3⟩ := is_v k3
  obtain rfl : w3 = (.int i3) := Option.some.inj ei3
  obtain ⟨i4, ei4⟩ := is_v k4
  obtain rfl : w4 = (.int i4) := Option.some.inj ei4
  obtain ⟨i5, ei5⟩ := is_v g5
  obtain rfl : w5 = (.int i5) := Option.some.inj ei5
  obtain ⟨n, o, h1, h2, h3, _, L, rfl, ⟨rfl, N⟩, hq⟩ := rm0 (l := l) (Z := s) hw i0 i1 i2 i3 i4 i5 s.heap s.heap.size rfl (Nat.le_refl _) p e ha hc hk s m _ below hf ((Spec.applies_iff_loose hf).mp happ).1 ⟨rfl, rfl⟩ trivial
  refine ⟨n, _, h1, h2, h3, hpost _ _ _ _ _ _ ⟨Cond.after_iff.mpr rfl, Cond.after_iff.mpr (eq_i res_at (Term.int_eval (1)) rfl), trivial⟩ ⟨hq.1, hq.2.1, hq.2.2.1, (hq.2.2.2.sift fun y hy => Or.inr (N y hy)).mono (by decide) (by decide)⟩⟩
theorem main_1_1 : Claimed_1_1 := comes_1 fun _ _ _ _ _ _ h hF => ⟨h.1, hF⟩
theorem main_1_2 : Claimed_1_2 := comes_1 fun _ _ _ _ _ _ h hF => ⟨h.2.1, hF⟩
end Jvm.Pilot.@@N@@
namespace Jvm.Pilot.@@N@@
open Jvm Jvm.ClassFile Sem Op Lib Jvm.Free Jvm.Stand Jvm.Pilot.@@N@@.Jvm.D
/-! MADE BY PROGRAM (witnessworld.py) out of the Statement's table words and the real class files: 26 classes; the members and pool entries that the words name. The judged class is class 1, her method 1. -/
namespace start1
open Jvm.ClassFile
def u (s : String) : CpInfo := .utf8 (stringToUtf16 s)
/-- a pool by its gaps: so many unusable entries, then the entry; so many at the end -/
def gap : Nat → List CpInfo → List CpInfo
  | 0, r => r
  | n + 1, r => .unusable :: gap n r
def poolList (es : List (Nat × CpInfo)) (last : Nat) : List CpInfo := es.foldr (fun e r => gap e.1 (e.2 :: r)) (gap last [])
def pool (es : List (Nat × CpInfo)) (last : Nat) : Array CpInfo := ⟨poolList es last⟩
def fileOf (pool : Array CpInfo) (this : Nat) (attrs : Array Attribute := #[]) (ms : Array MethodInfo := #[]) (fl : Nat := 33) (sup : Nat := 0) (ifs : Array Nat := #[]) (fds : Array FieldInfo := #[]) : ClassFile where
  minorVersion := 0
  majorVersion := 65
  constantPool := pool
  accessFlags := fl
  thisClass := this
  superClass := sup
  interfaces := ifs
  fields := fds
  methods := ms
  attributes := attrs
def plain (name : String) (sup : Option ClassId) : Class where
  name := name
  kind := .ordinary
  loader := none
  accessFlags := 33
  super := sup
  interfaces := #[]
  cf := none
  fields := #[]
  methods := #[]
  instanceTypes := #[]
  staticTypes := #[]
  resolved := #[]
  callSites := []
  init := .initialized
  statics := none
  mirror := none

def pool0 : Array CpInfo := pool [(5, u "<init>"), (0, u "()V"), (1, .class_ 10), (1, u "java/lang/Object")] 113

def k0c0 : Code := { maxStack := 0, maxLocals := 1, code := object_method_1_code, exceptionTable := #[], attributes := #[] }
def k0m0 : Method := { name := "<init>", desc := "()V", sig := { parameters := [], returnType := none }, accessFlags := 1, code := some k0c0 }
/-- java/lang/Object -/
def k0 : Class := { plain "java/lang/Object" none with
  accessFlags := 33
  interfaces := #[]
  cf := some (fileOf pool0 8 #[] #[{ accessFlags := 1, nameIndex := 5, descriptorIndex := 6, attributes := #[] }] 33 0 #[] #[])
  fields := #[]
  methods := #[k0m0]
  instanceTypes := #[]
  staticTypes := #[]
  resolved := Array.replicate 124 none
  statics := none }

def pool1 : Array CpInfo := pool [(2, .class_ 4), (0, .nameAndType 5 6), (0, u "java/lang/Object"), (0, u "<init>"), (0, u "()V"), (0, .integer 65535), (0, .integer 2147483647), (0, .class_ 10), (0, u "com/example/text_to_shapes/texttoshapes/idl/SourceReader"), (0, .string 12), (0, u "f"), (0, .class_ 14), (0, u "com/example/text_to_shapes/texttoshapes/idl/Names"), (0, .methodref 13 3), (0, .methodref 9 17), (0, .nameAndType 5 18), (0, u "(Ljava/lang/String;[CILcom/example/text_to_shapes/texttoshapes/idl/Names;)V"), (0, .class_ 20), (0, u "com/example/text_to_shapes/texttoshapes/idl/SourceReader$Mark"), (0, .methodref 19 22), (0, .nameAndType 5 23), (0, u "(III)V"), (0, .methodref 9 25), (0, .nameAndType 26 27), (0, u "reset"), (0, u "(Lcom/example/text_to_shapes/texttoshapes/idl/SourceReader$Mark;)V"), (0, .methodref 9 29), (0, .nameAndType 30 31), (0, u "sp"), (0, u "()Z"), (0, .methodref 9 33), (0, .nameAndType 34 35), (0, u "mark"), (0, u "()Lcom/example/text_to_shapes/texttoshapes/idl/SourceReader$Mark;"), (0, .methodref 37 38), (0, .class_ 39), (0, .nameAndType 40 41), (0, u "com/example/text_to_shapes/texttoshapes/idl/SourceReaderSpPinLaw"), (0, u "step"), (0, u "([CII)I"), (0, .methodref 19 43), (0, .nameAndType 44 45), (0, u "offset"), (0, u "()I"), (0, .methodref 19 47), (0, .nameAndType 48 45), (0, u "line"), (0, .methodref 19 50), (0, .nameAndType 51 45), (0, u "lineStart"), (0, .methodref 37 53), (0, .nameAndType 54 55), (0, u "blank"), (0, u "([CII)Z"), (2, u "law"), (0, u "(IIIIII)Z")] 7

def k1m0 : Method := { name := "<init>", desc := "()V", sig := { parameters := [], returnType := none }, accessFlags := 1, code := none }
def k1c1 : Code := { maxStack := 7, maxLocals := 15, code := code, exceptionTable := #[], attributes := #[] }
def k1m1 : Method := { name := "law", desc := "(IIIIII)Z", sig := { parameters := [.int, .int, .int, .int, .int, .int], returnType := some .boolean }, accessFlags := 9, code := some k1c1 }
def k1c2 : Code := { maxStack := 2, maxLocals := 3, code := method_3_code, exceptionTable := #[], attributes := #[] }
def k1m2 : Method := { name := "blank", desc := "([CII)Z", sig := { parameters := [(.array .char), .int, .int], returnType := some .boolean }, accessFlags := 10, code := some k1c2 }
def k1c3 : Code := { maxStack := 3, maxLocals := 3, code := method_4_code, exceptionTable := #[], attributes := #[] }
def k1m3 : Method := { name := "step", desc := "([CII)I", sig := { parameters := [(.array .char), .int, .int], returnType := some .int }, accessFlags := 10, code := some k1c3 }
/-- com/example/text_to_shapes/texttoshapes/idl/SourceReaderSpPinLaw -/
def k1 : Class := { plain "com/example/text_to_shapes/texttoshapes/idl/SourceReaderSpPinLaw" (some 0) with
  accessFlags := 49
  interfaces := #[]
  cf := some (fileOf pool1 37 #[] #[{ accessFlags := 1, nameIndex := 5, descriptorIndex := 6, attributes := #[] }, { accessFlags := 9, nameIndex := 58, descriptorIndex := 59, attributes := #[] }, { accessFlags := 10, nameIndex := 54, descriptorIndex := 55, attributes := #[] }, { accessFlags := 10, nameIndex := 40, descriptorIndex := 41, attributes := #[] }] 49 2 #[] #[])
  fields := #[]
  methods := #[k1m0, k1m1, k1m2, k1m3]
  instanceTypes := #[]
  staticTypes := #[]
  resolved := Array.replicate 67 none
  statics := none }

def pool2 : Array CpInfo := pool [(12, u "()I"), (3, .nameAndType 17 18), (0, u "<init>"), (0, u "()V"), (1, .class_ 22), (1, u "com/example/text_to_shapes/texttoshapes/idl/SourceReader"), (0, u "(Ljava/lang/String;[CILcom/example/text_to_shapes/texttoshapes/idl/Names;)V"), (0, .methodref 25 16), (0, .class_ 26), (0, u "java/lang/Object"), (0, .fieldref 20 28), (0, .nameAndType 29 30), (0, u "line"), (0, u "I"), (0, .fieldref 20 32), (0, .nameAndType 33 34), (0, u "documentationBounds"), (0, u "[I"), (0, .fieldref 20 36), (0, .nameAndType 37 30), (0, u "countedLineStart"), (0, .fieldref 20 39), (0, .nameAndType 40 41), (0, u "path"), (0, u "Ljava/lang/String;"), (0, .fieldref 20 43), (0, .nameAndType 44 45), (0, u "text"), (0, u "[C"), (0, .fieldref 20 47), (0, .nameAndType 48 30), (0, u "textLength"), (0, .fieldref 20 50), (0, .nameAndType 51 52), (0, u "names"), (0, u "Lcom/example/text_to_shapes/texttoshapes/idl/Names;"), (0, .class_ 54), (0, u "com/example/text_to_shapes/texttoshapes/idl/SourceReader$Mark"), (0, .fieldref 20 56), (0, .nameAndType 57 30), (0, u "offset"), (0, .fieldref 20 59), (0, .nameAndType 60 30), (0, u "lineStart"), (0, .methodref 53 62), (0, .nameAndType 17 63), (0, u "(III)V"), (0, .methodref 53 65), (0, .nameAndType 57 12), (0, .methodref 53 67), (0, .nameAndType 29 12), (0, .methodref 53 69), (0, .nameAndType 60 12), (20, u "countedOffset"), (2, u "countedCodePoints"), (10, u "()Z"), (5, u "mark"), (0, u "()Lcom/example/text_to_shapes/texttoshapes/idl/SourceReader$Mark;"), (55, u "sp"), (5, u "documentationLines"), (41, u "IDENTIFIER_PARTS"), (0, u "[Z"), (27, u "NAMESPACE_PARTS"), (8, u "SHAPE_ID_PARTS"), (80, .class_ 335), (0, u "com/example/text_to_shapes/texttoshapes/idl/SourceReader$Line"), (124, u "reset"), (0, u "(Lcom/example/text_to_shapes/texttoshapes/idl/SourceReader$Mark;)V"), (17, u "END"), (2, u "TEXT_BLOCK"), (0, u "TOO_DEEP"), (2, u "ESCAPED"), (0, u "EXPANDED"), (0, u "HEX_DIGITS"), (0, u "IDENTIFIER"), (1, u "NAMESPACE"), (1, u "SHAPE_ID")] 94

def k2c0 : Code := { maxStack := 2, maxLocals := 5, code := prog_36_method_2_code, exceptionTable := #[], attributes := #[] }
def k2m0 : Method := { name := "<init>", desc := "(Ljava/lang/String;[CILcom/example/text_to_shapes/texttoshapes/idl/Names;)V", sig := { parameters := [(.object "java/lang/String"), (.array .char), .int, (.object "com/example/text_to_shapes/texttoshapes/idl/Names")], returnType := none }, accessFlags := 0, code := some k2c0 }
def k2c1 : Code := { maxStack := 5, maxLocals := 1, code := prog_36_method_3_code, exceptionTable := #[], attributes := #[] }
def k2m1 : Method := { name := "mark", desc := "()Lcom/example/text_to_shapes/texttoshapes/idl/SourceReader$Mark;", sig := { parameters := [], returnType := some (.object "com/example/text_to_shapes/texttoshapes/idl/SourceReader$Mark") }, accessFlags := 0, code := some k2c1 }
def k2c2 : Code := { maxStack := 2, maxLocals := 2, code := prog_36_method_4_code, exceptionTable := #[], attributes := #[] }
def k2m2 : Method := { name := "reset", desc := "(Lcom/example/text_to_shapes/texttoshapes/idl/SourceReader$Mark;)V", sig := { parameters := [(.object "com/example/text_to_shapes/texttoshapes/idl/SourceReader$Mark")], returnType := none }, accessFlags := 0, code := some k2c2 }
def k2c3 : Code := { maxStack := 2, maxLocals := 3, code := prog_36_method_18_code, exceptionTable := #[], attributes := #[] }
def k2m3 : Method := { name := "sp", desc := "()Z", sig := { parameters := [], returnType := some .boolean }, accessFlags := 0, code := some k2c3 }
/-- com/example/text_to_shapes/texttoshapes/idl/SourceReader -/
def k2 : Class := { plain "com/example/text_to_shapes/texttoshapes/idl/SourceReader" (some 0) with
  accessFlags := 32
  interfaces := #[]
  cf := some (fileOf pool2 20 #[.nestMembers #[334, 53]] #[{ accessFlags := 0, nameIndex := 17, descriptorIndex := 23, attributes := #[] }, { accessFlags := 0, nameIndex := 110, descriptorIndex := 111, attributes := #[] }, { accessFlags := 0, nameIndex := 460, descriptorIndex := 461, attributes := #[] }, { accessFlags := 0, nameIndex := 167, descriptorIndex := 104, attributes := #[] }] 32 25 #[] #[{ accessFlags := 24, nameIndex := 479, descriptorIndex := 30, attributes := #[] }, { accessFlags := 24, nameIndex := 482, descriptorIndex := 41, attributes := #[] }, { accessFlags := 24, nameIndex := 483, descriptorIndex := 41, attributes := #[] }, { accessFlags := 26, nameIndex := 486, descriptorIndex := 41, attributes := #[] }, { accessFlags := 26, nameIndex := 487, descriptorIndex := 41, attributes := #[] }, { accessFlags := 26, nameIndex := 488, descriptorIndex := 41, attributes := #[] }, { accessFlags := 26, nameIndex := 215, descriptorIndex := 216, attributes := #[] }, { accessFlags := 26, nameIndex := 244, descriptorIndex := 216, attributes := #[] }, { accessFlags := 26, nameIndex := 253, descriptorIndex := 216, attributes := #[] }, { accessFlags := 26, nameIndex := 489, descriptorIndex := 30, attributes := #[] }, { accessFlags := 26, nameIndex := 491, descriptorIndex := 30, attributes := #[] }, { accessFlags := 26, nameIndex := 493, descriptorIndex := 30, attributes := #[] }, { accessFlags := 18, nameIndex := 40, descriptorIndex := 41, attributes := #[] }, { accessFlags := 18, nameIndex := 44, descriptorIndex := 45, attributes := #[] }, { accessFlags := 18, nameIndex := 48, descriptorIndex := 30, attributes := #[] }, { accessFlags := 18, nameIndex := 51, descriptorIndex := 52, attributes := #[] }, { accessFlags := 2, nameIndex := 57, descriptorIndex := 30, attributes := #[] }, { accessFlags := 2, nameIndex := 29, descriptorIndex := 30, attributes := #[] }, { accessFlags := 2, nameIndex := 60, descriptorIndex := 30, attributes := #[] }, { accessFlags := 2, nameIndex := 33, descriptorIndex := 34, attributes := #[] }, { accessFlags := 2, nameIndex := 173, descriptorIndex := 30, attributes := #[] }, { accessFlags := 2, nameIndex := 37, descriptorIndex := 30, attributes := #[] }, { accessFlags := 2, nameIndex := 90, descriptorIndex := 30, attributes := #[] }, { accessFlags := 2, nameIndex := 93, descriptorIndex := 30, attributes := #[] }])
  fields := #[{ name := "END", type := .int, accessFlags := 24, slot := 0, constantValue := 0 }, { name := "TEXT_BLOCK", type := (.object "java/lang/String"), accessFlags := 24, slot := 1, constantValue := 0 }, { name := "TOO_DEEP", type := (.object "java/lang/String"), accessFlags := 24, slot := 2, constantValue := 0 }, { name := "ESCAPED", type := (.object "java/lang/String"), accessFlags := 26, slot := 3, constantValue := 0 }, { name := "EXPANDED", type := (.object "java/lang/String"), accessFlags := 26, slot := 4, constantValue := 0 }, { name := "HEX_DIGITS", type := (.object "java/lang/String"), accessFlags := 26, slot := 5, constantValue := 0 }, { name := "IDENTIFIER_PARTS", type := (.array .boolean), accessFlags := 26, slot := 6, constantValue := 0 }, { name := "NAMESPACE_PARTS", type := (.array .boolean), accessFlags := 26, slot := 7, constantValue := 0 }, { name := "SHAPE_ID_PARTS", type := (.array .boolean), accessFlags := 26, slot := 8, constantValue := 0 }, { name := "IDENTIFIER", type := .int, accessFlags := 26, slot := 9, constantValue := 0 }, { name := "NAMESPACE", type := .int, accessFlags := 26, slot := 10, constantValue := 0 }, { name := "SHAPE_ID", type := .int, accessFlags := 26, slot := 11, constantValue := 0 }, { name := "path", type := (.object "java/lang/String"), accessFlags := 18, slot := 0, constantValue := 0 }, { name := "text", type := (.array .char), accessFlags := 18, slot := 1, constantValue := 0 }, { name := "textLength", type := .int, accessFlags := 18, slot := 2, constantValue := 0 }, { name := "names", type := (.object "com/example/text_to_shapes/texttoshapes/idl/Names"), accessFlags := 18, slot := 3, constantValue := 0 }, { name := "offset", type := .int, accessFlags := 2, slot := 4, constantValue := 0 }, { name := "line", type := .int, accessFlags := 2, slot := 5, constantValue := 0 }, { name := "lineStart", type := .int, accessFlags := 2, slot := 6, constantValue := 0 }, { name := "documentationBounds", type := (.array .int), accessFlags := 2, slot := 7, constantValue := 0 }, { name := "documentationLines", type := .int, accessFlags := 2, slot := 8, constantValue := 0 }, { name := "countedLineStart", type := .int, accessFlags := 2, slot := 9, constantValue := 0 }, { name := "countedOffset", type := .int, accessFlags := 2, slot := 10, constantValue := 0 }, { name := "countedCodePoints", type := .int, accessFlags := 2, slot := 11, constantValue := 0 }]
  methods := #[k2m0, k2m1, k2m2, k2m3]
  instanceTypes := #[(.object "java/lang/String"), (.array .char), .int, (.object "com/example/text_to_shapes/texttoshapes/idl/Names"), .int, .int, .int, (.array .int), .int, .int, .int, .int]
  staticTypes := #[.int, (.object "java/lang/String"), (.object "java/lang/String"), (.object "java/lang/String"), (.object "java/lang/String"), (.object "java/lang/String"), (.array .boolean), (.array .boolean), (.array .boolean), .int, .int, .int]
  resolved := Array.replicate 588 none
  statics := none }

def pool3 : Array CpInfo := pool [(1, .class_ 2), (0, u "java/io/Serializable"), (0, .class_ 4), (0, u "java/lang/Object")] 2

/-- java/io/Serializable -/
def k3 : Class := { plain "java/io/Serializable" (some 0) with
  accessFlags := 1537
  interfaces := #[]
  cf := some (fileOf pool3 1 #[] #[] 1537 3 #[] #[])
  fields := #[]
  methods := #[]
  instanceTypes := #[]
  staticTypes := #[]
  resolved := Array.replicate 7 none
  statics := none }

def pool4 : Array CpInfo := pool [(1, .class_ 2), (0, u "java/lang/Comparable"), (0, .class_ 4), (0, u "java/lang/Object")] 7

/-- java/lang/Comparable -/
def k4 : Class := { plain "java/lang/Comparable" (some 0) with
  accessFlags := 1537
  interfaces := #[]
  cf := some (fileOf pool4 1 #[] #[] 1537 3 #[] #[])
  fields := #[]
  methods := #[]
  instanceTypes := #[]
  staticTypes := #[]
  resolved := Array.replicate 12 none
  statics := none }

def pool5 : Array CpInfo := pool [(2, .class_ 4), (1, u "java/lang/CharSequence"), (42, .class_ 48), (0, u "java/lang/CharSequence$1CodePointIterator"), (10, .class_ 60), (0, u "java/lang/CharSequence$1CharIterator"), (5, .class_ 67), (0, u "java/lang/Object")] 63

/-- java/lang/CharSequence -/
def k5 : Class := { plain "java/lang/CharSequence" (some 0) with
  accessFlags := 1537
  interfaces := #[]
  cf := some (fileOf pool5 2 #[.nestMembers #[47, 59]] #[] 1537 66 #[] #[])
  fields := #[]
  methods := #[]
  instanceTypes := #[]
  staticTypes := #[]
  resolved := Array.replicate 131 none
  statics := none }

def pool6 : Array CpInfo := pool [(1, .class_ 2), (0, u "java/lang/constant/Constable"), (0, .class_ 4), (0, u "java/lang/Object")] 6

/-- java/lang/constant/Constable -/
def k6 : Class := { plain "java/lang/constant/Constable" (some 0) with
  accessFlags := 1537
  interfaces := #[]
  cf := some (fileOf pool6 1 #[] #[] 1537 3 #[] #[])
  fields := #[]
  methods := #[]
  instanceTypes := #[]
  staticTypes := #[]
  resolved := Array.replicate 11 none
  statics := none }

def pool7 : Array CpInfo := pool [(1, .class_ 2), (0, u "java/lang/constant/ConstantDesc"), (0, .class_ 4), (0, u "java/lang/Object")] 32

/-- java/lang/constant/ConstantDesc -/
def k7 : Class := { plain "java/lang/constant/ConstantDesc" (some 0) with
  accessFlags := 1537
  interfaces := #[]
  cf := some (fileOf pool7 1 #[] #[] 1537 3 #[] #[])
  fields := #[]
  methods := #[]
  instanceTypes := #[]
  staticTypes := #[]
  resolved := Array.replicate 37 none
  statics := none }

def pool8 : Array CpInfo := pool [(2, .class_ 4), (1, u "java/lang/Object"), (0, u "<init>"), (0, u "()V"), (3, .class_ 12), (1, u "java/lang/String"), (0, u "value"), (0, u "[B"), (2, u "coder"), (0, u "B"), (2, u "hash"), (0, u "I"), (2, u "hashIsZero"), (0, u "Z"), (13, u "COMPACT_STRINGS"), (534, .class_ 576), (0, u "java/lang/CharSequence"), (22, u "CASE_INSENSITIVE_ORDER"), (0, u "Ljava/util/Comparator;"), (500, u "serialPersistentFields"), (0, u "[Ljava/io/ObjectStreamField;"), (0, .class_ 1104), (0, u "java/lang/String$CaseInsensitiveComparator"), (1, .class_ 1107), (0, u "java/io/Serializable"), (0, .class_ 1109), (0, u "java/lang/Comparable"), (0, .class_ 1111), (0, u "java/lang/constant/Constable"), (0, .class_ 1113), (0, u "java/lang/constant/ConstantDesc"), (2, u "serialVersionUID"), (0, u "J"), (3, u "REPL"), (0, u "C"), (2, u "LATIN1"), (1, u "UTF16")] 323

def k8m0 : Method := { name := "<init>", desc := "()V", sig := { parameters := [], returnType := none }, accessFlags := 1, code := none }
/-- java/lang/String -/
def k8 : Class := { plain "java/lang/String" (some 0) with
  accessFlags := 49
  interfaces := #[3, 4, 5, 6, 7]
  cf := some (fileOf pool8 10 #[.nestMembers #[1103]] #[{ accessFlags := 1, nameIndex := 5, descriptorIndex := 6, attributes := #[] }] 49 2 #[1106, 1108, 575, 1110, 1112] #[{ accessFlags := 18, nameIndex := 13, descriptorIndex := 14, attributes := #[] }, { accessFlags := 18, nameIndex := 17, descriptorIndex := 18, attributes := #[] }, { accessFlags := 2, nameIndex := 21, descriptorIndex := 22, attributes := #[] }, { accessFlags := 2, nameIndex := 25, descriptorIndex := 26, attributes := #[] }, { accessFlags := 26, nameIndex := 1116, descriptorIndex := 1117, attributes := #[] }, { accessFlags := 24, nameIndex := 40, descriptorIndex := 26, attributes := #[] }, { accessFlags := 26, nameIndex := 1101, descriptorIndex := 1102, attributes := #[] }, { accessFlags := 26, nameIndex := 1121, descriptorIndex := 1122, attributes := #[] }, { accessFlags := 25, nameIndex := 599, descriptorIndex := 600, attributes := #[] }, { accessFlags := 24, nameIndex := 1125, descriptorIndex := 18, attributes := #[] }, { accessFlags := 24, nameIndex := 1127, descriptorIndex := 18, attributes := #[] }])
  fields := #[{ name := "value", type := (.array .byte), accessFlags := 18, slot := 0, constantValue := 0 }, { name := "coder", type := .byte, accessFlags := 18, slot := 1, constantValue := 0 }, { name := "hash", type := .int, accessFlags := 2, slot := 2, constantValue := 0 }, { name := "hashIsZero", type := .boolean, accessFlags := 2, slot := 3, constantValue := 0 }, { name := "serialVersionUID", type := .long, accessFlags := 26, slot := 0, constantValue := 0 }, { name := "COMPACT_STRINGS", type := .boolean, accessFlags := 24, slot := 1, constantValue := 0 }, { name := "serialPersistentFields", type := (.array (.object "java/io/ObjectStreamField")), accessFlags := 26, slot := 2, constantValue := 0 }, { name := "REPL", type := .char, accessFlags := 26, slot := 3, constantValue := 0 }, { name := "CASE_INSENSITIVE_ORDER", type := (.object "java/util/Comparator"), accessFlags := 25, slot := 4, constantValue := 0 }, { name := "LATIN1", type := .byte, accessFlags := 24, slot := 5, constantValue := 0 }, { name := "UTF16", type := .byte, accessFlags := 24, slot := 6, constantValue := 0 }]
  methods := #[k8m0]
  instanceTypes := #[(.array .byte), .byte, .int, .boolean]
  staticTypes := #[.long, .boolean, (.array (.object "java/io/ObjectStreamField")), .char, (.object "java/util/Comparator"), .byte, .byte]
  resolved := Array.replicate 1451 none
  statics := none }

def pool9 : Array CpInfo := pool [(1, .methodref 2 3), (0, .class_ 4), (0, .nameAndType 5 6), (0, u "java/lang/Object"), (0, u "<init>"), (0, u "()V"), (0, .class_ 8), (0, u "java/util/HashMap"), (0, .methodref 7 10), (0, .nameAndType 5 11), (0, u "(I)V"), (0, .fieldref 13 14), (0, .class_ 15), (0, .nameAndType 16 17), (0, u "com/example/text_to_shapes/texttoshapes/idl/Names"), (0, u "names"), (0, u "Ljava/util/Map;"), (0, .class_ 19), (0, u "com/example/text_to_shapes/texttoshapes/idl/Names$Name"), (0, .methodref 18 21), (0, .nameAndType 5 22), (0, u "([CIII)V"), (0, .fieldref 13 24), (0, .nameAndType 25 26), (0, u "probe"), (0, u "Lcom/example/text_to_shapes/texttoshapes/idl/Names$Name;")] 47

def k9c0 : Code := { maxStack := 7, maxLocals := 1, code := prog_19_method_1_code, exceptionTable := #[], attributes := #[] }
def k9m0 : Method := { name := "<init>", desc := "()V", sig := { parameters := [], returnType := none }, accessFlags := 0, code := some k9c0 }
/-- com/example/text_to_shapes/texttoshapes/idl/Names -/
def k9 : Class := { plain "com/example/text_to_shapes/texttoshapes/idl/Names" (some 0) with
  accessFlags := 32
  interfaces := #[]
  cf := some (fileOf pool9 13 #[.nestMembers #[18]] #[{ accessFlags := 0, nameIndex := 5, descriptorIndex := 6, attributes := #[] }] 32 2 #[] #[{ accessFlags := 18, nameIndex := 16, descriptorIndex := 17, attributes := #[] }, { accessFlags := 18, nameIndex := 25, descriptorIndex := 26, attributes := #[] }])
  fields := #[{ name := "names", type := (.object "java/util/Map"), accessFlags := 18, slot := 0, constantValue := 0 }, { name := "probe", type := (.object "com/example/text_to_shapes/texttoshapes/idl/Names$Name"), accessFlags := 18, slot := 1, constantValue := 0 }]
  methods := #[k9m0]
  instanceTypes := #[(.object "java/util/Map"), (.object "com/example/text_to_shapes/texttoshapes/idl/Names$Name")]
  staticTypes := #[]
  resolved := ((Array.replicate 74 none).setIfInBounds 18 (some (.cls 17))).setIfInBounds 20 (some (.method ⟨17, 0⟩))
  statics := none }

def pool10 : Array CpInfo := pool [(2, .class_ 4), (1, u "java/util/Map"), (31, .class_ 37), (0, u "java/util/Map$Entry"), (55, .class_ 94), (0, u "java/lang/Object")] 168

/-- java/util/Map -/
def k10 : Class := { plain "java/util/Map" (some 0) with
  accessFlags := 1537
  interfaces := #[]
  cf := some (fileOf pool10 2 #[.nestMembers #[36]] #[] 1537 93 #[] #[])
  fields := #[]
  methods := #[]
  instanceTypes := #[]
  staticTypes := #[]
  resolved := Array.replicate 263 none
  statics := none }

def pool11 : Array CpInfo := pool [(1, .methodref 2 3), (0, .class_ 4), (0, .nameAndType 5 6), (0, u "java/lang/Object"), (0, u "<init>"), (0, u "()V"), (1, .class_ 10), (1, u "java/util/AbstractMap"), (42, .class_ 54), (0, u "java/util/Map"), (9, u "keySet"), (0, u "Ljava/util/Set;"), (0, .class_ 67), (0, u "java/util/AbstractMap$1"), (5, u "values"), (0, u "Ljava/util/Collection;"), (0, .class_ 76), (0, u "java/util/AbstractMap$2"), (104, .class_ 182), (0, u "java/util/AbstractMap$ViewCollection"), (0, .class_ 184), (0, u "java/util/AbstractMap$SimpleImmutableEntry"), (0, .class_ 186), (0, u "java/util/AbstractMap$SimpleEntry"), (0, .class_ 188), (0, u "java/util/AbstractMap$2$1"), (0, .class_ 190), (0, u "java/util/AbstractMap$1$1")] 5

def k11c0 : Code := { maxStack := 1, maxLocals := 1, code := jdk_71_method_1_code, exceptionTable := #[], attributes := #[] }
def k11m0 : Method := { name := "<init>", desc := "()V", sig := { parameters := [], returnType := none }, accessFlags := 4, code := some k11c0 }
/-- java/util/AbstractMap -/
def k11 : Class := { plain "java/util/AbstractMap" (some 0) with
  accessFlags := 1057
  interfaces := #[10]
  cf := some (fileOf pool11 8 #[.nestMembers #[181, 183, 185, 75, 187, 66, 189]] #[{ accessFlags := 4, nameIndex := 5, descriptorIndex := 6, attributes := #[] }] 1057 2 #[53] #[{ accessFlags := 128, nameIndex := 64, descriptorIndex := 65, attributes := #[] }, { accessFlags := 128, nameIndex := 73, descriptorIndex := 74, attributes := #[] }])
  fields := #[{ name := "keySet", type := (.object "java/util/Set"), accessFlags := 128, slot := 0, constantValue := 0 }, { name := "values", type := (.object "java/util/Collection"), accessFlags := 128, slot := 1, constantValue := 0 }]
  methods := #[k11m0]
  instanceTypes := #[(.object "java/util/Set"), (.object "java/util/Collection")]
  staticTypes := #[]
  resolved := Array.replicate 196 none
  statics := none }

def pool12 : Array CpInfo := pool [(1, .class_ 2), (0, u "java/lang/Cloneable"), (0, .class_ 4), (0, u "java/lang/Object")] 2

/-- java/lang/Cloneable -/
def k12 : Class := { plain "java/lang/Cloneable" (some 0) with
  accessFlags := 1537
  interfaces := #[]
  cf := some (fileOf pool12 1 #[] #[] 1537 3 #[] #[])
  fields := #[]
  methods := #[]
  instanceTypes := #[]
  staticTypes := #[]
  resolved := Array.replicate 7 none
  statics := none }

def pool13 : Array CpInfo := pool [(34, .methodref 35 36), (0, .class_ 37), (0, .nameAndType 38 39), (0, u "java/lang/Integer"), (0, u "numberOfLeadingZeros"), (0, u "(I)I"), (0, .class_ 41), (0, u "java/util/HashMap"), (0, .integer 1073741824), (0, .methodref 44 45), (0, .class_ 46), (0, .nameAndType 47 48), (0, u "java/util/AbstractMap"), (0, u "<init>"), (0, u "()V"), (21, .methodref 71 72), (0, .class_ 73), (0, .nameAndType 74 75), (0, u "java/lang/Float"), (0, u "isNaN"), (0, u "(F)Z"), (5, .fieldref 40 82), (0, .nameAndType 83 84), (0, u "loadFactor"), (0, u "F"), (0, .methodref 40 86), (0, .nameAndType 87 39), (0, u "tableSizeFor"), (0, .fieldref 40 89), (0, .nameAndType 90 91), (0, u "threshold"), (0, u "I"), (0, .float 1061158912), (0, .methodref 40 94), (0, .nameAndType 47 95), (0, u "(IF)V"), (5, .class_ 103), (1, u "java/util/Map"), (0, u "size"), (2, u "table"), (0, u "[Ljava/util/HashMap$Node;"), (14, u "entrySet"), (39, .class_ 165), (1, u "java/util/HashMap$Node"), (14, .class_ 181), (0, u "java/util/HashMap$TreeNode"), (22, u "modCount"), (37, u "Ljava/util/Set;"), (0, .class_ 244), (0, u "java/util/HashMap$KeySet"), (18, .class_ 264), (0, u "java/util/HashMap$Values"), (3, .class_ 269), (0, u "java/util/HashMap$EntrySet"), (48, u "(I)V"), (27, .class_ 348), (1, u "java/util/HashMap$UnsafeHolder"), (43, .class_ 393), (0, u "java/lang/Cloneable"), (0, .class_ 395), (0, u "java/io/Serializable"), (0, u "serialVersionUID"), (0, u "J"), (3, u "DEFAULT_INITIAL_CAPACITY"), (1, u "MAXIMUM_CAPACITY"), (0, u "DEFAULT_LOAD_FACTOR"), (0, u "TREEIFY_THRESHOLD"), (1, u "UNTREEIFY_THRESHOLD"), (1, u "MIN_TREEIFY_CAPACITY"), (186, .class_ 597), (0, u "java/util/HashMap$EntrySpliterator"), (0, .class_ 599), (0, u "java/util/HashMap$ValueSpliterator"), (0, .class_ 601), (0, u "java/util/HashMap$KeySpliterator"), (0, .class_ 603), (0, u "java/util/HashMap$HashMapSpliterator"), (0, .class_ 605), (0, u "java/util/HashMap$EntryIterator"), (0, .class_ 607), (0, u "java/util/HashMap$ValueIterator"), (0, .class_ 609), (0, u "java/util/HashMap$KeyIterator"), (0, .class_ 611), (0, u "java/util/HashMap$HashIterator")] 17

def k13c0 : Code := { maxStack := 3, maxLocals := 2, code := jdk_69_method_4_code, exceptionTable := #[], attributes := #[] }
def k13m0 : Method := { name := "tableSizeFor", desc := "(I)I", sig := { parameters := [.int], returnType := some .int }, accessFlags := 24, code := some k13c0 }
def k13c1 : Code := { maxStack := 4, maxLocals := 3, code := jdk_69_method_5_code, exceptionTable := #[], attributes := #[] }
def k13m1 : Method := { name := "<init>", desc := "(IF)V", sig := { parameters := [.int, .float], returnType := none }, accessFlags := 1, code := some k13c1 }
def k13c2 : Code := { maxStack := 3, maxLocals := 2, code := jdk_69_method_6_code, exceptionTable := #[], attributes := #[] }
def k13m2 : Method := { name := "<init>", desc := "(I)V", sig := { parameters := [.int], returnType := none }, accessFlags := 1, code := some k13c2 }
def k13m3 : Method := { name := "<init>", desc := "()V", sig := { parameters := [], returnType := none }, accessFlags := 1, code := none }
/-- java/util/HashMap -/
def k13 : Class := { plain "java/util/HashMap" (some 11) with
  accessFlags := 33
  interfaces := #[10, 12, 3]
  cf := some (fileOf pool13 40 #[.nestMembers #[180, 596, 598, 600, 602, 604, 606, 608, 610, 346, 268, 263, 243, 163]] #[{ accessFlags := 24, nameIndex := 87, descriptorIndex := 39, attributes := #[] }, { accessFlags := 1, nameIndex := 47, descriptorIndex := 95, attributes := #[] }, { accessFlags := 1, nameIndex := 47, descriptorIndex := 318, attributes := #[] }, { accessFlags := 1, nameIndex := 47, descriptorIndex := 48, attributes := #[] }] 33 44 #[101, 392, 394] #[{ accessFlags := 26, nameIndex := 396, descriptorIndex := 397, attributes := #[] }, { accessFlags := 24, nameIndex := 401, descriptorIndex := 91, attributes := #[] }, { accessFlags := 24, nameIndex := 403, descriptorIndex := 91, attributes := #[] }, { accessFlags := 24, nameIndex := 404, descriptorIndex := 84, attributes := #[] }, { accessFlags := 24, nameIndex := 405, descriptorIndex := 91, attributes := #[] }, { accessFlags := 24, nameIndex := 407, descriptorIndex := 91, attributes := #[] }, { accessFlags := 24, nameIndex := 409, descriptorIndex := 91, attributes := #[] }, { accessFlags := 128, nameIndex := 107, descriptorIndex := 108, attributes := #[] }, { accessFlags := 128, nameIndex := 123, descriptorIndex := 242, attributes := #[] }, { accessFlags := 128, nameIndex := 104, descriptorIndex := 91, attributes := #[] }, { accessFlags := 128, nameIndex := 204, descriptorIndex := 91, attributes := #[] }, { accessFlags := 0, nameIndex := 90, descriptorIndex := 91, attributes := #[] }, { accessFlags := 16, nameIndex := 83, descriptorIndex := 84, attributes := #[] }])
  fields := #[{ name := "serialVersionUID", type := .long, accessFlags := 26, slot := 0, constantValue := 0 }, { name := "DEFAULT_INITIAL_CAPACITY", type := .int, accessFlags := 24, slot := 1, constantValue := 0 }, { name := "MAXIMUM_CAPACITY", type := .int, accessFlags := 24, slot := 2, constantValue := 0 }, { name := "DEFAULT_LOAD_FACTOR", type := .float, accessFlags := 24, slot := 3, constantValue := 0 }, { name := "TREEIFY_THRESHOLD", type := .int, accessFlags := 24, slot := 4, constantValue := 0 }, { name := "UNTREEIFY_THRESHOLD", type := .int, accessFlags := 24, slot := 5, constantValue := 0 }, { name := "MIN_TREEIFY_CAPACITY", type := .int, accessFlags := 24, slot := 6, constantValue := 0 }, { name := "table", type := (.array (.object "java/util/HashMap$Node")), accessFlags := 128, slot := 2, constantValue := 0 }, { name := "entrySet", type := (.object "java/util/Set"), accessFlags := 128, slot := 3, constantValue := 0 }, { name := "size", type := .int, accessFlags := 128, slot := 4, constantValue := 0 }, { name := "modCount", type := .int, accessFlags := 128, slot := 5, constantValue := 0 }, { name := "threshold", type := .int, accessFlags := 0, slot := 6, constantValue := 0 }, { name := "loadFactor", type := .float, accessFlags := 16, slot := 7, constantValue := 0 }]
  methods := #[k13m0, k13m1, k13m2, k13m3]
  instanceTypes := #[(.object "java/util/Set"), (.object "java/util/Collection"), (.array (.object "java/util/HashMap$Node")), (.object "java/util/Set"), .int, .int, .int, .float]
  staticTypes := #[.long, .int, .int, .float, .int, .int, .int]
  resolved := Array.replicate 629 none
  statics := none }

def pool14 : Array CpInfo := pool [(2, .class_ 4), (1, u "java/lang/Object"), (0, u "<init>"), (0, u "()V"), (1, .class_ 10), (1, u "java/lang/Number"), (2, .class_ 14), (0, u "java/io/Serializable"), (0, u "serialVersionUID"), (0, u "J")] 20

def k14m0 : Method := { name := "<init>", desc := "()V", sig := { parameters := [], returnType := none }, accessFlags := 1, code := none }
/-- java/lang/Number -/
def k14 : Class := { plain "java/lang/Number" (some 0) with
  accessFlags := 1057
  interfaces := #[3]
  cf := some (fileOf pool14 8 #[] #[{ accessFlags := 1, nameIndex := 5, descriptorIndex := 6, attributes := #[] }] 1057 2 #[13] #[{ accessFlags := 26, nameIndex := 15, descriptorIndex := 16, attributes := #[] }])
  fields := #[{ name := "serialVersionUID", type := .long, accessFlags := 26, slot := 0, constantValue := 0 }]
  methods := #[k14m0]
  instanceTypes := #[]
  staticTypes := #[.long]
  resolved := Array.replicate 37 none
  statics := none }

def pool15 : Array CpInfo := pool [(1, .class_ 2), (0, u "java/lang/Float"), (48, .class_ 53), (1, u "java/lang/Number"), (3, u "value"), (0, u "F"), (2, u "isNaN"), (0, u "(F)Z"), (28, u "$assertionsDisabled"), (0, u "Z"), (52, u "TYPE"), (0, u "Ljava/lang/Class;"), (0, .class_ 148), (0, u "java/lang/Comparable"), (0, .class_ 150), (0, u "java/lang/constant/Constable"), (0, .class_ 152), (0, u "java/lang/constant/ConstantDesc"), (0, u "POSITIVE_INFINITY"), (1, u "NEGATIVE_INFINITY"), (1, u "NaN"), (1, u "MAX_VALUE"), (0, u "MIN_NORMAL"), (0, u "MIN_VALUE"), (1, u "SIZE"), (0, u "I"), (1, u "PRECISION"), (1, u "MAX_EXPONENT"), (1, u "MIN_EXPONENT"), (1, u "BYTES"), (3, u "serialVersionUID"), (0, u "J")] 101

def k15c0 : Code := { maxStack := 2, maxLocals := 1, code := jdk_118_method_6_code, exceptionTable := #[], attributes := #[] }
def k15m0 : Method := { name := "isNaN", desc := "(F)Z", sig := { parameters := [.float], returnType := some .boolean }, accessFlags := 9, code := some k15c0 }
/-- java/lang/Float -/
def k15 : Class := { plain "java/lang/Float" (some 14) with
  accessFlags := 49
  interfaces := #[4, 6, 7]
  cf := some (fileOf pool15 1 #[] #[{ accessFlags := 9, nameIndex := 61, descriptorIndex := 62, attributes := #[] }] 49 51 #[147, 149, 151] #[{ accessFlags := 25, nameIndex := 153, descriptorIndex := 58, attributes := #[] }, { accessFlags := 25, nameIndex := 155, descriptorIndex := 58, attributes := #[] }, { accessFlags := 25, nameIndex := 157, descriptorIndex := 58, attributes := #[] }, { accessFlags := 25, nameIndex := 159, descriptorIndex := 58, attributes := #[] }, { accessFlags := 25, nameIndex := 160, descriptorIndex := 58, attributes := #[] }, { accessFlags := 25, nameIndex := 161, descriptorIndex := 58, attributes := #[] }, { accessFlags := 25, nameIndex := 163, descriptorIndex := 164, attributes := #[] }, { accessFlags := 25, nameIndex := 166, descriptorIndex := 164, attributes := #[] }, { accessFlags := 25, nameIndex := 168, descriptorIndex := 164, attributes := #[] }, { accessFlags := 25, nameIndex := 170, descriptorIndex := 164, attributes := #[] }, { accessFlags := 25, nameIndex := 172, descriptorIndex := 164, attributes := #[] }, { accessFlags := 25, nameIndex := 145, descriptorIndex := 146, attributes := #[] }, { accessFlags := 18, nameIndex := 57, descriptorIndex := 58, attributes := #[] }, { accessFlags := 26, nameIndex := 176, descriptorIndex := 177, attributes := #[] }, { accessFlags := 4120, nameIndex := 91, descriptorIndex := 92, attributes := #[] }])
  fields := #[{ name := "POSITIVE_INFINITY", type := .float, accessFlags := 25, slot := 0, constantValue := 0 }, { name := "NEGATIVE_INFINITY", type := .float, accessFlags := 25, slot := 1, constantValue := 0 }, { name := "NaN", type := .float, accessFlags := 25, slot := 2, constantValue := 0 }, { name := "MAX_VALUE", type := .float, accessFlags := 25, slot := 3, constantValue := 0 }, { name := "MIN_NORMAL", type := .float, accessFlags := 25, slot := 4, constantValue := 0 }, { name := "MIN_VALUE", type := .float, accessFlags := 25, slot := 5, constantValue := 0 }, { name := "SIZE", type := .int, accessFlags := 25, slot := 6, constantValue := 0 }, { name := "PRECISION", type := .int, accessFlags := 25, slot := 7, constantValue := 0 }, { name := "MAX_EXPONENT", type := .int, accessFlags := 25, slot := 8, constantValue := 0 }, { name := "MIN_EXPONENT", type := .int, accessFlags := 25, slot := 9, constantValue := 0 }, { name := "BYTES", type := .int, accessFlags := 25, slot := 10, constantValue := 0 }, { name := "TYPE", type := (.object "java/lang/Class"), accessFlags := 25, slot := 11, constantValue := 0 }, { name := "value", type := .float, accessFlags := 18, slot := 0, constantValue := 0 }, { name := "serialVersionUID", type := .long, accessFlags := 26, slot := 12, constantValue := 0 }, { name := "$assertionsDisabled", type := .boolean, accessFlags := 4120, slot := 13, constantValue := 0 }]
  methods := #[k15m0]
  instanceTypes := #[.float]
  staticTypes := #[.float, .float, .float, .float, .float, .float, .int, .int, .int, .int, .int, (.object "java/lang/Class"), .long, .boolean]
  resolved := Array.replicate 279 none
  statics := none }

def pool16 : Array CpInfo := pool [(1, .class_ 2), (0, u "java/lang/Integer"), (16, u "digits"), (0, u "[C"), (32, u "numberOfLeadingZeros"), (0, u "(I)I"), (30, u "DigitOnes"), (0, u "[B"), (2, u "DigitTens"), (99, .class_ 190), (0, u "java/lang/Integer$IntegerCache"), (3, u "I"), (8, .class_ 204), (0, u "java/lang/Number"), (2, u "value"), (56, .integer 65536), (37, u "TYPE"), (0, u "Ljava/lang/Class;"), (0, .class_ 305), (0, u "java/lang/Comparable"), (0, .class_ 307), (0, u "java/lang/constant/Constable"), (0, .class_ 309), (0, u "java/lang/constant/ConstantDesc"), (0, u "MIN_VALUE"), (1, u "MAX_VALUE"), (3, u "SIZE"), (1, u "BYTES"), (1, u "serialVersionUID"), (0, u "J")] 131

def k16c0 : Code := { maxStack := 3, maxLocals := 2, code := jdk_33_method_47_code, exceptionTable := #[], attributes := #[] }
def k16m0 : Method := { name := "numberOfLeadingZeros", desc := "(I)I", sig := { parameters := [.int], returnType := some .int }, accessFlags := 9, code := some k16c0 }
/-- java/lang/Integer -/
def k16 : Class := { plain "java/lang/Integer" (some 14) with
  accessFlags := 49
  interfaces := #[4, 6, 7]
  cf := some (fileOf pool16 1 #[.nestMembers #[189]] #[{ accessFlags := 9, nameIndex := 53, descriptorIndex := 54, attributes := #[] }] 49 203 #[304, 306, 308] #[{ accessFlags := 25, nameIndex := 310, descriptorIndex := 194, attributes := #[] }, { accessFlags := 25, nameIndex := 312, descriptorIndex := 194, attributes := #[] }, { accessFlags := 25, nameIndex := 302, descriptorIndex := 303, attributes := #[] }, { accessFlags := 24, nameIndex := 19, descriptorIndex := 20, attributes := #[] }, { accessFlags := 24, nameIndex := 89, descriptorIndex := 86, attributes := #[] }, { accessFlags := 24, nameIndex := 85, descriptorIndex := 86, attributes := #[] }, { accessFlags := 18, nameIndex := 207, descriptorIndex := 194, attributes := #[] }, { accessFlags := 25, nameIndex := 316, descriptorIndex := 194, attributes := #[] }, { accessFlags := 25, nameIndex := 318, descriptorIndex := 194, attributes := #[] }, { accessFlags := 26, nameIndex := 320, descriptorIndex := 321, attributes := #[] }])
  fields := #[{ name := "MIN_VALUE", type := .int, accessFlags := 25, slot := 0, constantValue := 0 }, { name := "MAX_VALUE", type := .int, accessFlags := 25, slot := 1, constantValue := 0 }, { name := "TYPE", type := (.object "java/lang/Class"), accessFlags := 25, slot := 2, constantValue := 0 }, { name := "digits", type := (.array .char), accessFlags := 24, slot := 3, constantValue := 0 }, { name := "DigitTens", type := (.array .byte), accessFlags := 24, slot := 4, constantValue := 0 }, { name := "DigitOnes", type := (.array .byte), accessFlags := 24, slot := 5, constantValue := 0 }, { name := "value", type := .int, accessFlags := 18, slot := 0, constantValue := 0 }, { name := "SIZE", type := .int, accessFlags := 25, slot := 6, constantValue := 0 }, { name := "BYTES", type := .int, accessFlags := 25, slot := 7, constantValue := 0 }, { name := "serialVersionUID", type := .long, accessFlags := 26, slot := 8, constantValue := 0 }]
  methods := #[k16m0]
  instanceTypes := #[.int]
  staticTypes := #[.int, .int, (.object "java/lang/Class"), (.array .char), (.array .byte), (.array .byte), .int, .int, .long]
  resolved := Array.replicate 453 none
  statics := none }

def pool17 : Array CpInfo := pool [(1, .methodref 2 3), (0, .class_ 4), (0, .nameAndType 5 6), (0, u "java/lang/Object"), (0, u "<init>"), (0, u "()V"), (0, .methodref 8 9), (0, .class_ 10), (0, .nameAndType 11 12), (0, u "com/example/text_to_shapes/texttoshapes/idl/Names$Name"), (0, u "set"), (0, u "([CIII)V"), (0, .fieldref 8 14), (0, .nameAndType 15 16), (0, u "chars"), (0, u "[C"), (0, .fieldref 8 18), (0, .nameAndType 19 20), (0, u "start"), (0, u "I"), (0, .fieldref 8 22), (0, .nameAndType 23 20), (0, u "end"), (0, .fieldref 8 25), (0, .nameAndType 26 20), (0, u "hash"), (2, u "string"), (0, u "Ljava/lang/String;"), (2, u "forms"), (14, .class_ 49), (0, u "java/lang/Comparable"), (18, .class_ 69), (0, u "com/example/text_to_shapes/texttoshapes/idl/Names")] 2

def k17c0 : Code := { maxStack := 5, maxLocals := 5, code := prog_20_method_1_code, exceptionTable := #[], attributes := #[] }
def k17m0 : Method := { name := "<init>", desc := "([CIII)V", sig := { parameters := [(.array .char), .int, .int, .int], returnType := none }, accessFlags := 2, code := some k17c0 }
def k17c1 : Code := { maxStack := 2, maxLocals := 5, code := prog_20_method_2_code, exceptionTable := #[], attributes := #[] }
def k17m1 : Method := { name := "set", desc := "([CIII)V", sig := { parameters := [(.array .char), .int, .int, .int], returnType := none }, accessFlags := 2, code := some k17c1 }
/-- com/example/text_to_shapes/texttoshapes/idl/Names$Name -/
def k17 : Class := { plain "com/example/text_to_shapes/texttoshapes/idl/Names$Name" (some 0) with
  accessFlags := 32
  interfaces := #[4]
  cf := some (fileOf pool17 8 #[.nestHost 68] #[{ accessFlags := 2, nameIndex := 5, descriptorIndex := 12, attributes := #[] }, { accessFlags := 2, nameIndex := 11, descriptorIndex := 12, attributes := #[] }] 32 2 #[48] #[{ accessFlags := 2, nameIndex := 15, descriptorIndex := 16, attributes := #[] }, { accessFlags := 2, nameIndex := 19, descriptorIndex := 20, attributes := #[] }, { accessFlags := 2, nameIndex := 23, descriptorIndex := 20, attributes := #[] }, { accessFlags := 2, nameIndex := 26, descriptorIndex := 20, attributes := #[] }, { accessFlags := 2, nameIndex := 29, descriptorIndex := 30, attributes := #[] }, { accessFlags := 2, nameIndex := 33, descriptorIndex := 20, attributes := #[] }])
  fields := #[{ name := "chars", type := (.array .char), accessFlags := 2, slot := 0, constantValue := 0 }, { name := "start", type := .int, accessFlags := 2, slot := 1, constantValue := 0 }, { name := "end", type := .int, accessFlags := 2, slot := 2, constantValue := 0 }, { name := "hash", type := .int, accessFlags := 2, slot := 3, constantValue := 0 }, { name := "string", type := (.object "java/lang/String"), accessFlags := 2, slot := 4, constantValue := 0 }, { name := "forms", type := .int, accessFlags := 2, slot := 5, constantValue := 0 }]
  methods := #[k17m0, k17m1]
  instanceTypes := #[(.array .char), .int, .int, .int, (.object "java/lang/String"), .int]
  staticTypes := #[]
  resolved := Array.replicate 72 none
  statics := none }

def pool18 : Array CpInfo := pool [(1, .methodref 2 3), (0, .class_ 4), (0, .nameAndType 5 6), (0, u "java/lang/Object"), (0, u "<init>"), (0, u "()V"), (0, .class_ 8), (0, u "java/lang/Record")] 13

def k18c0 : Code := { maxStack := 1, maxLocals := 1, code := jdk_30_method_1_code, exceptionTable := #[], attributes := #[] }
def k18m0 : Method := { name := "<init>", desc := "()V", sig := { parameters := [], returnType := none }, accessFlags := 4, code := some k18c0 }
/-- java/lang/Record -/
def k18 : Class := { plain "java/lang/Record" (some 0) with
  accessFlags := 1057
  interfaces := #[]
  cf := some (fileOf pool18 7 #[] #[{ accessFlags := 4, nameIndex := 5, descriptorIndex := 6, attributes := #[] }] 1057 2 #[] #[])
  fields := #[]
  methods := #[k18m0]
  instanceTypes := #[]
  staticTypes := #[]
  resolved := Array.replicate 22 none
  statics := none }

def pool19 : Array CpInfo := pool [(1, .methodref 2 3), (0, .class_ 4), (0, .nameAndType 5 6), (0, u "java/lang/Record"), (0, u "<init>"), (0, u "()V"), (0, .fieldref 8 9), (0, .class_ 10), (0, .nameAndType 11 12), (0, u "com/example/text_to_shapes/texttoshapes/idl/SourceReader$Mark"), (0, u "offset"), (0, u "I"), (0, .fieldref 8 14), (0, .nameAndType 15 12), (0, u "line"), (0, .fieldref 8 17), (0, .nameAndType 18 12), (0, u "lineStart"), (12, u "(III)V"), (4, u "()I"), (4, .class_ 42), (0, u "com/example/text_to_shapes/texttoshapes/idl/SourceReader")] 21

def k19c0 : Code := { maxStack := 2, maxLocals := 4, code := prog_38_method_1_code, exceptionTable := #[], attributes := #[] }
def k19m0 : Method := { name := "<init>", desc := "(III)V", sig := { parameters := [.int, .int, .int], returnType := none }, accessFlags := 0, code := some k19c0 }
def k19c1 : Code := { maxStack := 1, maxLocals := 1, code := prog_38_method_5_code, exceptionTable := #[], attributes := #[] }
def k19m1 : Method := { name := "offset", desc := "()I", sig := { parameters := [], returnType := some .int }, accessFlags := 1, code := some k19c1 }
def k19c2 : Code := { maxStack := 1, maxLocals := 1, code := prog_38_method_6_code, exceptionTable := #[], attributes := #[] }
def k19m2 : Method := { name := "line", desc := "()I", sig := { parameters := [], returnType := some .int }, accessFlags := 1, code := some k19c2 }
def k19c3 : Code := { maxStack := 1, maxLocals := 1, code := prog_38_method_7_code, exceptionTable := #[], attributes := #[] }
def k19m3 : Method := { name := "lineStart", desc := "()I", sig := { parameters := [], returnType := some .int }, accessFlags := 1, code := some k19c3 }
/-- com/example/text_to_shapes/texttoshapes/idl/SourceReader$Mark -/
def k19 : Class := { plain "com/example/text_to_shapes/texttoshapes/idl/SourceReader$Mark" (some 18) with
  accessFlags := 48
  interfaces := #[]
  cf := some (fileOf pool19 8 #[.nestHost 41] #[{ accessFlags := 0, nameIndex := 5, descriptorIndex := 31, attributes := #[] }, { accessFlags := 1, nameIndex := 11, descriptorIndex := 36, attributes := #[] }, { accessFlags := 1, nameIndex := 15, descriptorIndex := 36, attributes := #[] }, { accessFlags := 1, nameIndex := 18, descriptorIndex := 36, attributes := #[] }] 48 2 #[] #[{ accessFlags := 18, nameIndex := 11, descriptorIndex := 12, attributes := #[] }, { accessFlags := 18, nameIndex := 15, descriptorIndex := 12, attributes := #[] }, { accessFlags := 18, nameIndex := 18, descriptorIndex := 12, attributes := #[] }])
  fields := #[{ name := "offset", type := .int, accessFlags := 18, slot := 0, constantValue := 0 }, { name := "line", type := .int, accessFlags := 18, slot := 1, constantValue := 0 }, { name := "lineStart", type := .int, accessFlags := 18, slot := 2, constantValue := 0 }]
  methods := #[k19m0, k19m1, k19m2, k19m3]
  instanceTypes := #[.int, .int, .int]
  staticTypes := #[]
  resolved := Array.replicate 64 none
  statics := none }

/-- the primitive byte -/
def k20 : Class := { plain "byte" none with kind := .primitive 'B', accessFlags := 0x411 }
/-- [B -/
def k21 : Class := { plain "[B" (some 0) with kind := .array 20 .byte, interfaces := #[12, 3], accessFlags := 1041 }

/-- the primitive char -/
def k22 : Class := { plain "char" none with kind := .primitive 'C', accessFlags := 0x411 }
/-- [C -/
def k23 : Class := { plain "[C" (some 0) with kind := .array 22 .char, interfaces := #[12, 3], accessFlags := 1041 }

/-- the primitive int -/
def k24 : Class := { plain "int" none with kind := .primitive 'I', accessFlags := 0x411 }
/-- [I -/
def k25 : Class := { plain "[I" (some 0) with kind := .array 24 .int, interfaces := #[12, 3], accessFlags := 1041 }

def heap : Heap := #[]
def classes : Array Class := #[k0, k1, k2, k3, k4, k5, k6, k7, k8, k9, k10, k11, k12, k13, k14, k15, k16, k17, k18, k19, k20, k21, k22, k23, k24, k25]
def interned : List (Array UInt16 × Addr) := []
def slotsUsed : Nat := 0
def theMethod : MethodId := ⟨1, 1⟩
def args0 : Array Value := #[.int 5, .int 6, .int 7, .int 8, .int 9, .int 10]
def aboutOver (below : List Frame) : State where
  vm := { classes := classes, interned := interned.toArray }
  heap := heap
  slotsUsed := slotsUsed
  threads := #[{ frames := .invoking theMethod args0 :: below }]
def below0 : List Frame := [.native { method := ⟨0, 0⟩, args := #[] }]
def about1 : State := aboutOver below0
def p0 : Program := .bare "" "" ""
def e0 : Env := launch0.env 0 0 0
theorem w_frames : about1.frames = Frame.invoking theMethod args0 :: below0 := rfl
set_option maxRecDepth 65536 in
theorem w_args : argsFit about1.vm theMethod args0 = true := by decide +kernel
set_option maxRecDepth 65536 in
theorem w_heap : heapFits about1 = true := by decide +kernel
set_option maxRecDepth 65536 in
theorem w_runnable : about1.curStatus? = some .runnable := by decide +kernel
set_option maxRecDepth 65536 in
theorem w_alone : about1.alone = true := by decide +kernel
set_option maxRecDepth 65536 in
theorem w_named : about1.methodNamed? x = some theMethod := by decide +kernel
set_option maxRecDepth 65536 in
theorem w_hears : about1.hears theMethod below0 = true := by decide +kernel
set_option maxRecDepth 65536 in
theorem w_ripe : about1.ripe theMethod args0 below0 = true := by decide +kernel
theorem w_running : about1.status = .running := rfl
set_option maxRecDepth 65536 in
theorem w_room : about1.hasRoom e0.platform room_1 = true :=
  launch0.hasRoom_least _ room_1 (by decide +kernel) (by decide +kernel) (by decide +kernel) (by decide +kernel) (by decide +kernel) (by decide +kernel)
theorem allAtoms_all (ts : List Jvm.Cond) (a : Array Jvm.Value) (st : Jvm.State) : (allAtoms ts).before a st = ts.all (fun c => c.before a st) := by
  induction ts with
  | nil => rfl
  | cons c t ih =>
    show (Jvm.Cond.and c (allAtoms t)).before a st = _
    rw [Jvm.Cond.before_and, ih, List.all_cons]
def words1 : List Jvm.Cond := Jvm.Cond.code x code maxLocals ret :: tables_1
/-- a 'code' word, met by the world's own term for the bytes: nothing is compared byte by byte -/
theorem code_word {y : MethodName} {bytes : ByteArray} {mx : Nat} {rt : Option FieldType} {a : Array Value} {s : State} {m : MethodId} {meth : Method} {c : Code} (h1 : s.methodNamed? y = some m) (h2 : s.vm.method? m = some meth) (h3 : meth.code = some c) (h4 : c.code = bytes)
    (h5 : (c.maxLocals == mx && c.exceptionTable.isEmpty && decide (c.maxStack ≤ mostOperands) && decide (meth.sig.returnType = rt) && !meth.locks && decide (parseMethodDescriptor y.desc = some meth.sig)) = true) : (Jvm.Cond.code y bytes mx rt).before a s = true := by
  simp only [Bool.and_eq_true, beq_iff_eq, Bool.not_eq_true', decide_eq_true_eq] at h5
  obtain ⟨⟨⟨⟨⟨g1, g2⟩, g3⟩, g4⟩, g5⟩, g6⟩ := h5
  simp [Cond.before, Cond.holds, Cond.value, h1, h2, h3, h4, g1, g2, g3, g4, g5, g6]
def isCode : Jvm.Cond → Bool
  | .code _ _ _ _ => true
  | _ => false
theorem all_split {L : List Jvm.Cond} {P : Jvm.Cond → Bool} (h1 : L.all (fun c => isCode c || P c) = true) (h2 : ∀ c ∈ L.filter isCode, P c = true) : L.all P = true := by
  refine List.all_eq_true.mpr fun c hc => ?_
  have h := List.all_eq_true.mp h1 c hc
  rcases Bool.eq_false_or_eq_true (isCode c) with hi | hi
  · exact h2 c (List.mem_filter.mpr ⟨hc, hi⟩)
  · simpa [hi] using h
set_option maxRecDepth 65536 in
theorem w_c0 : (Jvm.Cond.code x code maxLocals ret).before args0 about1 = true := code_word (m := ⟨1, 1⟩) (meth := k1m1) (c := k1c1) (by decide +kernel) rfl rfl rfl (by decide +kernel)
set_option maxRecDepth 65536 in
theorem w_c1 : (Jvm.Cond.code ({ cls := "com/example/text_to_shapes/texttoshapes/idl/Names", name := "<init>", desc := "()V" } : Jvm.MethodName) prog_19_method_1_code (1 : Nat) (Option.none : Option Jvm.ClassFile.FieldType)).before args0 about1 = true := code_word (m := ⟨9, 0⟩) (meth := k9m0) (c := k9c0) (by decide +kernel) rfl rfl rfl (by decide +kernel)
set_option maxRecDepth 65536 in
theorem w_c2 : (Jvm.Cond.code ({ cls := "java/lang/Object", name := "<init>", desc := "()V" } : Jvm.MethodName) object_method_1_code (1 : Nat) (Option.none : Option Jvm.ClassFile.FieldType)).before args0 about1 = true := code_word (m := ⟨0, 0⟩) (meth := k0m0) (c := k0c0) (by decide +kernel) rfl rfl rfl (by decide +kernel)
set_option maxRecDepth 65536 in
theorem w_c3 : (Jvm.Cond.code ({ cls := "java/util/HashMap", name := "<init>", desc := "(I)V" } : Jvm.MethodName) jdk_69_method_6_code (2 : Nat) (Option.none : Option Jvm.ClassFile.FieldType)).before args0 about1 = true := code_word (m := ⟨13, 2⟩) (meth := k13m2) (c := k13c2) (by decide +kernel) rfl rfl rfl (by decide +kernel)
set_option maxRecDepth 65536 in
theorem w_c4 : (Jvm.Cond.code ({ cls := "java/util/HashMap", name := "<init>", desc := "(IF)V" } : Jvm.MethodName) jdk_69_method_5_code (3 : Nat) (Option.none : Option Jvm.ClassFile.FieldType)).before args0 about1 = true := code_word (m := ⟨13, 1⟩) (meth := k13m1) (c := k13c1) (by decide +kernel) rfl rfl rfl (by decide +kernel)
set_option maxRecDepth 65536 in
theorem w_c5 : (Jvm.Cond.code ({ cls := "java/util/AbstractMap", name := "<init>", desc := "()V" } : Jvm.MethodName) jdk_71_method_1_code (1 : Nat) (Option.none : Option Jvm.ClassFile.FieldType)).before args0 about1 = true := code_word (m := ⟨11, 0⟩) (meth := k11m0) (c := k11c0) (by decide +kernel) rfl rfl rfl (by decide +kernel)
set_option maxRecDepth 65536 in
theorem w_c6 : (Jvm.Cond.code ({ cls := "java/lang/Float", name := "isNaN", desc := "(F)Z" } : Jvm.MethodName) jdk_118_method_6_code (1 : Nat) (Option.some Jvm.ClassFile.FieldType.boolean)).before args0 about1 = true := code_word (m := ⟨15, 0⟩) (meth := k15m0) (c := k15c0) (by decide +kernel) rfl rfl rfl (by decide +kernel)
set_option maxRecDepth 65536 in
theorem w_c7 : (Jvm.Cond.code ({ cls := "java/util/HashMap", name := "tableSizeFor", desc := "(I)I" } : Jvm.MethodName) jdk_69_method_4_code (2 : Nat) (Option.some Jvm.ClassFile.FieldType.int)).before args0 about1 = true := code_word (m := ⟨13, 0⟩) (meth := k13m0) (c := k13c0) (by decide +kernel) rfl rfl rfl (by decide +kernel)
set_option maxRecDepth 65536 in
theorem w_c8 : (Jvm.Cond.code ({ cls := "java/lang/Integer", name := "numberOfLeadingZeros", desc := "(I)I" } : Jvm.MethodName) jdk_33_method_47_code (2 : Nat) (Option.some Jvm.ClassFile.FieldType.int)).before args0 about1 = true := code_word (m := ⟨16, 0⟩) (meth := k16m0) (c := k16c0) (by decide +kernel) rfl rfl rfl (by decide +kernel)
set_option maxRecDepth 65536 in
theorem w_c9 : (Jvm.Cond.code ({ cls := "com/example/text_to_shapes/texttoshapes/idl/Names$Name", name := "<init>", desc := "([CIII)V" } : Jvm.MethodName) prog_20_method_1_code (5 : Nat) (Option.none : Option Jvm.ClassFile.FieldType)).before args0 about1 = true := code_word (m := ⟨17, 0⟩) (meth := k17m0) (c := k17c0) (by decide +kernel) rfl rfl rfl (by decide +kernel)
set_option maxRecDepth 65536 in
theorem w_c10 : (Jvm.Cond.code ({ cls := "com/example/text_to_shapes/texttoshapes/idl/Names$Name", name := "set", desc := "([CIII)V" } : Jvm.MethodName) prog_20_method_2_code (5 : Nat) (Option.none : Option Jvm.ClassFile.FieldType)).before args0 about1 = true := code_word (m := ⟨17, 1⟩) (meth := k17m1) (c := k17c1) (by decide +kernel) rfl rfl rfl (by decide +kernel)
set_option maxRecDepth 65536 in
theorem w_c11 : (Jvm.Cond.code ({ cls := "com/example/text_to_shapes/texttoshapes/idl/SourceReader", name := "<init>", desc := "(Ljava/lang/String;[CILcom/example/text_to_shapes/texttoshapes/idl/Names;)V" } : Jvm.MethodName) prog_36_method_2_code (5 : Nat) (Option.none : Option Jvm.ClassFile.FieldType)).before args0 about1 = true := code_word (m := ⟨2, 0⟩) (meth := k2m0) (c := k2c0) (by decide +kernel) rfl rfl rfl (by decide +kernel)
set_option maxRecDepth 65536 in
theorem w_c12 : (Jvm.Cond.code ({ cls := "com/example/text_to_shapes/texttoshapes/idl/SourceReader$Mark", name := "<init>", desc := "(III)V" } : Jvm.MethodName) prog_38_method_1_code (4 : Nat) (Option.none : Option Jvm.ClassFile.FieldType)).before args0 about1 = true := code_word (m := ⟨19, 0⟩) (meth := k19m0) (c := k19c0) (by decide +kernel) rfl rfl rfl (by decide +kernel)
set_option maxRecDepth 65536 in
theorem w_c13 : (Jvm.Cond.code ({ cls := "java/lang/Record", name := "<init>", desc := "()V" } : Jvm.MethodName) jdk_30_method_1_code (1 : Nat) (Option.none : Option Jvm.ClassFile.FieldType)).before args0 about1 = true := code_word (m := ⟨18, 0⟩) (meth := k18m0) (c := k18c0) (by decide +kernel) rfl rfl rfl (by decide +kernel)
set_option maxRecDepth 65536 in
theorem w_c14 : (Jvm.Cond.code ({ cls := "com/example/text_to_shapes/texttoshapes/idl/SourceReader", name := "reset", desc := "(Lcom/example/text_to_shapes/texttoshapes/idl/SourceReader$Mark;)V" } : Jvm.MethodName) prog_36_method_4_code (2 : Nat) (Option.none : Option Jvm.ClassFile.FieldType)).before args0 about1 = true := code_word (m := ⟨2, 2⟩) (meth := k2m2) (c := k2c2) (by decide +kernel) rfl rfl rfl (by decide +kernel)
set_option maxRecDepth 65536 in
theorem w_c15 : (Jvm.Cond.code ({ cls := "com/example/text_to_shapes/texttoshapes/idl/SourceReader$Mark", name := "offset", desc := "()I" } : Jvm.MethodName) prog_38_method_5_code (1 : Nat) (Option.some Jvm.ClassFile.FieldType.int)).before args0 about1 = true := code_word (m := ⟨19, 1⟩) (meth := k19m1) (c := k19c1) (by decide +kernel) rfl rfl rfl (by decide +kernel)
set_option maxRecDepth 65536 in
theorem w_c16 : (Jvm.Cond.code ({ cls := "com/example/text_to_shapes/texttoshapes/idl/SourceReader$Mark", name := "line", desc := "()I" } : Jvm.MethodName) prog_38_method_6_code (1 : Nat) (Option.some Jvm.ClassFile.FieldType.int)).before args0 about1 = true := code_word (m := ⟨19, 2⟩) (meth := k19m2) (c := k19c2) (by decide +kernel) rfl rfl rfl (by decide +kernel)
set_option maxRecDepth 65536 in
theorem w_c17 : (Jvm.Cond.code ({ cls := "com/example/text_to_shapes/texttoshapes/idl/SourceReader$Mark", name := "lineStart", desc := "()I" } : Jvm.MethodName) prog_38_method_7_code (1 : Nat) (Option.some Jvm.ClassFile.FieldType.int)).before args0 about1 = true := code_word (m := ⟨19, 3⟩) (meth := k19m3) (c := k19c3) (by decide +kernel) rfl rfl rfl (by decide +kernel)
set_option maxRecDepth 65536 in
theorem w_c18 : (Jvm.Cond.code ({ cls := "com/example/text_to_shapes/texttoshapes/idl/SourceReader", name := "sp", desc := "()Z" } : Jvm.MethodName) prog_36_method_18_code (3 : Nat) (Option.some Jvm.ClassFile.FieldType.boolean)).before args0 about1 = true := code_word (m := ⟨2, 3⟩) (meth := k2m3) (c := k2c3) (by decide +kernel) rfl rfl rfl (by decide +kernel)
set_option maxRecDepth 65536 in
theorem w_c19 : (Jvm.Cond.code ({ cls := "com/example/text_to_shapes/texttoshapes/idl/SourceReader", name := "mark", desc := "()Lcom/example/text_to_shapes/texttoshapes/idl/SourceReader$Mark;" } : Jvm.MethodName) prog_36_method_3_code (1 : Nat) (Option.some (Jvm.ClassFile.FieldType.object "com/example/text_to_shapes/texttoshapes/idl/SourceReader$Mark"))).before args0 about1 = true := code_word (m := ⟨2, 1⟩) (meth := k2m1) (c := k2c1) (by decide +kernel) rfl rfl rfl (by decide +kernel)
set_option maxRecDepth 65536 in
theorem w_c20 : (Jvm.Cond.code ({ cls := "com/example/text_to_shapes/texttoshapes/idl/SourceReaderSpPinLaw", name := "step", desc := "([CII)I" } : Jvm.MethodName) method_4_code (3 : Nat) (Option.some Jvm.ClassFile.FieldType.int)).before args0 about1 = true := code_word (m := ⟨1, 3⟩) (meth := k1m3) (c := k1c3) (by decide +kernel) rfl rfl rfl (by decide +kernel)
set_option maxRecDepth 65536 in
theorem w_c21 : (Jvm.Cond.code ({ cls := "com/example/text_to_shapes/texttoshapes/idl/SourceReaderSpPinLaw", name := "blank", desc := "([CII)Z" } : Jvm.MethodName) method_3_code (3 : Nat) (Option.some Jvm.ClassFile.FieldType.boolean)).before args0 about1 = true := code_word (m := ⟨1, 2⟩) (meth := k1m2) (c := k1c2) (by decide +kernel) rfl rfl rfl (by decide +kernel)
def codes1 : List Jvm.Cond := [Jvm.Cond.code x code maxLocals ret, Jvm.Cond.code ({ cls := "com/example/text_to_shapes/texttoshapes/idl/Names", name := "<init>", desc := "()V" } : Jvm.MethodName) prog_19_method_1_code (1 : Nat) (Option.none : Option Jvm.ClassFile.FieldType), Jvm.Cond.code ({ cls := "java/lang/Object", name := "<init>", desc := "()V" } : Jvm.MethodName) object_method_1_code (1 : Nat) (Option.none : Option Jvm.ClassFile.FieldType), Jvm.Cond.code ({ cls := "java/util/HashMap", name := "<init>", desc := "(I)V" } : Jvm.MethodName) jdk_69_method_6_code (2 : Nat) (Option.none : Option Jvm.ClassFile.FieldType), Jvm.Cond.code ({ cls := "java/util/HashMap", name := "<init>", desc := "(IF)V" } : Jvm.MethodName) jdk_69_method_5_code (3 : Nat) (Option.none : Option Jvm.ClassFile.FieldType), Jvm.Cond.code ({ cls := "java/util/AbstractMap", name := "<init>", desc := "()V" } : Jvm.MethodName) jdk_71_method_1_code (1 : Nat) (Option.none : Option Jvm.ClassFile.FieldType), Jvm.Cond.code ({ cls := "java/lang/Float", name := "isNaN", desc := "(F)Z" } : Jvm.MethodName) jdk_118_method_6_code (1 : Nat) (Option.some Jvm.ClassFile.FieldType.boolean), Jvm.Cond.code ({ cls := "java/util/HashMap", name := "tableSizeFor", desc := "(I)I" } : Jvm.MethodName) jdk_69_method_4_code (2 : Nat) (Option.some Jvm.ClassFile.FieldType.int), Jvm.Cond.code ({ cls := "java/lang/Integer", name := "numberOfLeadingZeros", desc := "(I)I" } : Jvm.MethodName) jdk_33_method_47_code (2 : Nat) (Option.some Jvm.ClassFile.FieldType.int), Jvm.Cond.code ({ cls := "com/example/text_to_shapes/texttoshapes/idl/Names$Name", name := "<init>", desc := "([CIII)V" } : Jvm.MethodName) prog_20_method_1_code (5 : Nat) (Option.none : Option Jvm.ClassFile.FieldType), Jvm.Cond.code ({ cls := "com/example/text_to_shapes/texttoshapes/idl/Names$Name", name := "set", desc := "([CIII)V" } : Jvm.MethodName) prog_20_method_2_code (5 : Nat) (Option.none : Option Jvm.ClassFile.FieldType), Jvm.Cond.code ({ cls := "com/example/text_to_shapes/texttoshapes/idl/SourceReader", name := "<init>", desc := "(Ljava/lang/String;[CILcom/example/text_to_shapes/texttoshapes/idl/Names;)V" } : Jvm.MethodName) prog_36_method_2_code (5 : Nat) (Option.none : Option Jvm.ClassFile.FieldType), Jvm.Cond.code ({ cls := "com/example/text_to_shapes/texttoshapes/idl/SourceReader$Mark", name := "<init>", desc := "(III)V" } : Jvm.MethodName) prog_38_method_1_code (4 : Nat) (Option.none : Option Jvm.ClassFile.FieldType), Jvm.Cond.code ({ cls := "java/lang/Record", name := "<init>", desc := "()V" } : Jvm.MethodName) jdk_30_method_1_code (1 : Nat) (Option.none : Option Jvm.ClassFile.FieldType), Jvm.Cond.code ({ cls := "com/example/text_to_shapes/texttoshapes/idl/SourceReader", name := "reset", desc := "(Lcom/example/text_to_shapes/texttoshapes/idl/SourceReader$Mark;)V" } : Jvm.MethodName) prog_36_method_4_code (2 : Nat) (Option.none : Option Jvm.ClassFile.FieldType), Jvm.Cond.code ({ cls := "com/example/text_to_shapes/texttoshapes/idl/SourceReader$Mark", name := "offset", desc := "()I" } : Jvm.MethodName) prog_38_method_5_code (1 : Nat) (Option.some Jvm.ClassFile.FieldType.int), Jvm.Cond.code ({ cls := "com/example/text_to_shapes/texttoshapes/idl/SourceReader$Mark", name := "line", desc := "()I" } : Jvm.MethodName) prog_38_method_6_code (1 : Nat) (Option.some Jvm.ClassFile.FieldType.int), Jvm.Cond.code ({ cls := "com/example/text_to_shapes/texttoshapes/idl/SourceReader$Mark", name := "lineStart", desc := "()I" } : Jvm.MethodName) prog_38_method_7_code (1 : Nat) (Option.some Jvm.ClassFile.FieldType.int), Jvm.Cond.code ({ cls := "com/example/text_to_shapes/texttoshapes/idl/SourceReader", name := "sp", desc := "()Z" } : Jvm.MethodName) prog_36_method_18_code (3 : Nat) (Option.some Jvm.ClassFile.FieldType.boolean), Jvm.Cond.code ({ cls := "com/example/text_to_shapes/texttoshapes/idl/SourceReader", name := "mark", desc := "()Lcom/example/text_to_shapes/texttoshapes/idl/SourceReader$Mark;" } : Jvm.MethodName) prog_36_method_3_code (1 : Nat) (Option.some (Jvm.ClassFile.FieldType.object "com/example/text_to_shapes/texttoshapes/idl/SourceReader$Mark")), Jvm.Cond.code ({ cls := "com/example/text_to_shapes/texttoshapes/idl/SourceReaderSpPinLaw", name := "step", desc := "([CII)I" } : Jvm.MethodName) method_4_code (3 : Nat) (Option.some Jvm.ClassFile.FieldType.int), Jvm.Cond.code ({ cls := "com/example/text_to_shapes/texttoshapes/idl/SourceReaderSpPinLaw", name := "blank", desc := "([CII)Z" } : Jvm.MethodName) method_3_code (3 : Nat) (Option.some Jvm.ClassFile.FieldType.boolean)]
set_option maxRecDepth 65536 in
theorem codes_eq : words1.filter isCode = codes1 := rfl
theorem w_codes : ∀ c ∈ words1.filter isCode, c.before args0 about1 = true := by
  rw [codes_eq]
  intro c hc
  simp only [codes1, List.mem_cons, List.not_mem_nil, or_false] at hc
  rcases hc with rfl | rfl | rfl | rfl | rfl | rfl | rfl | rfl | rfl | rfl | rfl | rfl | rfl | rfl | rfl | rfl | rfl | rfl | rfl | rfl | rfl | rfl
  · exact w_c0
  · exact w_c1
  · exact w_c2
  · exact w_c3
  · exact w_c4
  · exact w_c5
  · exact w_c6
  · exact w_c7
  · exact w_c8
  · exact w_c9
  · exact w_c10
  · exact w_c11
  · exact w_c12
  · exact w_c13
  · exact w_c14
  · exact w_c15
  · exact w_c16
  · exact w_c17
  · exact w_c18
  · exact w_c19
  · exact w_c20
  · exact w_c21
set_option maxRecDepth 65536 in
theorem w_t1 : (words1.take 24).all (fun c => isCode c || c.before args0 about1) = true := by decide +kernel
set_option maxRecDepth 65536 in
theorem w_t2 : ((words1.drop 24).take 24).all (fun c => isCode c || c.before args0 about1) = true := by decide +kernel
set_option maxRecDepth 65536 in
theorem w_t3 : (((words1.drop 24).drop 24).take 24).all (fun c => isCode c || c.before args0 about1) = true := by decide +kernel
set_option maxRecDepth 65536 in
theorem w_t4 : ((((words1.drop 24).drop 24).drop 24).take 24).all (fun c => isCode c || c.before args0 about1) = true := by decide +kernel
set_option maxRecDepth 65536 in
theorem w_t5 : (((((words1.drop 24).drop 24).drop 24).drop 24).take 24).all (fun c => isCode c || c.before args0 about1) = true := by decide +kernel
set_option maxRecDepth 65536 in
theorem w_t6 : ((((((words1.drop 24).drop 24).drop 24).drop 24).drop 24).take 24).all (fun c => isCode c || c.before args0 about1) = true := by decide +kernel
set_option maxRecDepth 65536 in
theorem w_t7 : ((((((words1.drop 24).drop 24).drop 24).drop 24).drop 24).drop 24).all (fun c => isCode c || c.before args0 about1) = true := by decide +kernel
theorem w_tables : (allAtoms (Jvm.Cond.code x code maxLocals ret :: tables_1)).before args0 about1 = true := by
  rw [allAtoms_all]
  show words1.all (fun c => c.before args0 about1) = true
  refine all_split ?_ w_codes
  rw [← List.take_append_drop 24 words1, List.all_append, w_t1, ← List.take_append_drop 24 (words1.drop 24), List.all_append, w_t2, ← List.take_append_drop 24 ((words1.drop 24).drop 24), List.all_append, w_t3, ← List.take_append_drop 24 (((words1.drop 24).drop 24).drop 24), List.all_append, w_t4, ← List.take_append_drop 24 ((((words1.drop 24).drop 24).drop 24).drop 24), List.all_append, w_t5, ← List.take_append_drop 24 (((((words1.drop 24).drop 24).drop 24).drop 24).drop 24), List.all_append, w_t6, w_t7]
  rfl
set_option maxRecDepth 65536 in
theorem w_case : (Jvm.Cond.and given_1 narrow_1).before args0 about1 = true := by decide +kernel
theorem w_applies : (headSpec (Jvm.Cond.code x code maxLocals ret :: tables_1) room_1).applies x e0.platform about1 = true :=
  (Spec.applies_iff w_frames).mpr ⟨w_running, w_runnable, w_alone, w_named, w_hears, w_ripe, w_room, w_tables⟩
theorem atStart : AtStart classFile x code maxLocals ret World_1 tables_1 room_1 Calls_1 rest_1 Pre_1 launch0 p0 e0 about1 theMethod args0 below0 :=
  ⟨lists_1, trivial, launch0.admits_env _ _ _, launch0.least_env, fairChoices_fair.cas, fairChoices_fair.clock, w_frames, w_args, w_heap, w_applies, trivial, trivial, w_case⟩
end start1
theorem witness_1 : WitnessClaimed_1 := ⟨start1.p0, start1.e0, start1.about1, start1.theMethod, start1.args0, start1.below0, start1.atStart⟩
end Jvm.Pilot.@@N@@
