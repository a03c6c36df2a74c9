import JvmDerived
import JvmDerived.Pilot.@@N@@Statement
import JvmDerived.Pilot.@@N@@Code
set_option linter.unusedVariables false
set_option linter.unusedSimpArgs false
@@BLOCK:NumsL.lean.txt@@
namespace Jvm.Pilot.@@N@@
open Jvm Jvm.ClassFile Sem Op Lib Jvm.Free Jvm.Stand Jvm.LawKit Jvm.RoadKit Bundle Jvm.Pilot.@@N@@.Jvm.D

section Kit
/-- The run goes on from the state T with the frame f on top and comes back to the caller, and Q holds of what it returned, of the heap and of the places written. -/
def Go (p : Program) (e : Env) (below : List Frame) (Fin : Outcome → State → List Loc → Prop) (Q : Option Value → Heap → List Loc → Prop) (T : State) (f : JFrame) : Prop :=
  ∃ s₂ o, Steps p.tables e below (T.setTop f) s₂ ∧ s₂.status = .running ∧ Ended s₂ below o ∧ ∃ v L, o = .returned v ∧ Q v s₂.heap L ∧ Fin o s₂ L
/-- a body's contract -/
def Met (l : Launch) (Z : State) (y : MethodName) (bytes : ByteArray) (maxL : Nat) (ret : Option FieldType) (ws : List Jvm.Cond) (rm : Room) (as : Array Value) (h0 : Heap) (Q : Option Value → Heap → List Loc → Prop) : Prop :=
  MetFree l y (head1 (Jvm.Cond.code y bytes maxL ret :: ws) rm) (fun a U => a = as ∧ Z.Warmed39 U.vm ∧ U.heap = h0) (fun _ _ _ _ _ => True) (fun _ U o U' => ∃ v L, o = .returned v ∧ Q v U'.heap L ∧ FrameEnd U o U' L rm.cells rm.slots)
theorem Met.mk {l : Launch} {Z : State} {y : MethodName} {bytes : ByteArray} {maxL : Nat} {ret : Option FieldType} {ws : List Jvm.Cond} {rm : Room} {as : Array Value} {h0 : Heap} {Q : Option Value → Heap → List Loc → Prop} (hp : plainFor y = true)
    (body : ∀ (p : Program) (e : Env) (s : State) (m : MethodId) (below : List Frame) (meth : Method) (c : Code) (T : State), p.tables.exec = Jvm.exec → c.code = bytes → c.maxLocals = maxL → s.vm.findClass y.cls = some m.cls → meth.name = y.name → meth.sig.returnType = ret → meth.locks = false → Z.Warmed39 s.vm →
      Stand p l e rm s m as below meth c T [] 0 0 → T.heap = h0 → Go p e below (fun o t L => FrameEnd s o t L rm.cells rm.slots) Q T (entryFrame m as maxL)) : Met l Z y bytes maxL ret ws rm as h0 Q := by
  refine MetFree.of_bodySF hp hisR ?_
  intro p e s m args below meth c s₁ Bd hml0 hP hK
  obtain ⟨rfl, hZ, hh⟩ := hP
  exact body p e s m below meth c s₁ Bd.exec Bd.bytes hml0 (findClass_of_methodNamed Bd.named) (name_of_methodNamed Bd.named Bd.method).1 Bd.returns (BodyLoose.notSynchronized Bd) hZ (Stand.of_body Bd) (by rw [← hh, Bd.state]; rfl)
variable {p : Program} {l : Launch} {e : Env} {R : Room} {s : State} {m : MethodId} {args : Array Value} {below : List Frame} {meth : Method} {c : Code} {T T' : State} {locs : List Loc} {cells slots : Nat} {Fin : Outcome → State → List Loc → Prop} {Q : Option Value → Heap → List Loc → Prop} {f f' : JFrame} {Z : State} {a0 : Array Value} {h h' : Heap} {pc : Nat} {Ls : Array Slot} {rest : List Value}
theorem Go.of (h : ∀ t, Steps p.tables e below (T'.setTop f') t → Steps p.tables e below (T.setTop f) t) (g : Go p e below Fin Q T' f') : Go p e below Fin Q T f := by
  obtain ⟨s₂, o, h1, h2⟩ := g
  exact ⟨s₂, o, h _ h1, h2⟩
theorem Go.cast (q : f = f') (g : Go p e below Fin Q T f') : Go p e below Fin Q T f := q ▸ g
theorem Go.join {α : Type} (P : α → Prop) (fr : α → JFrame) (k : ∀ x, P x → Go p e below Fin Q T (fr x)) (g : (∀ x, P x → Go p e below Fin Q T (fr x)) → Go p e below Fin Q T f) : Go p e below Fin Q T f := g k
theorem Go.joinT {α : Type} (X : Stand p l e R s m args below meth c T locs cells slots) (I : α → List Loc → Heap → Prop) (fr : α → JFrame) (k : ∀ x T' locs' h', Stand p l e R s m args below meth c T' locs' cells slots → T'.heap = h' → I x locs' h' → Go p e below Fin Q T' (fr x))
    (g : (∀ x T' locs' h', Stand p l e R s m args below meth c T' locs' cells slots → T'.heap = h' → I x locs' h' → Go p e below Fin Q T' (fr x)) → Go p e below Fin Q T f) : Go p e below Fin Q T f := g k
theorem Go.loop {α : Type} (μ : α → Nat) (I : α → List Loc → Heap → Prop) (fr : α → JFrame)
    (step : ∀ x T' locs' h', Stand p l e R s m args below meth c T' locs' cells slots → T'.heap = h' → I x locs' h' → (∀ y T'' locs'' h'', μ y < μ x → Stand p l e R s m args below meth c T'' locs'' cells slots → T''.heap = h'' → I y locs'' h'' → Go p e below Fin Q T'' (fr y)) → Go p e below Fin Q T' (fr x))
    (x : α) (X : Stand p l e R s m args below meth c T locs cells slots) (eT : T.heap = h) (hI : I x locs h) : Go p e below Fin Q T (fr x) := by
  obtain ⟨n, hn⟩ : ∃ n, μ x < n := ⟨_, Nat.lt_succ_self _⟩
  induction n generalizing x T locs h with
  | zero => exact absurd hn (Nat.not_lt_zero _)
  | succ n ih => exact step x T locs h X eT hI fun y T'' l'' h'' hy X'' e'' I'' => ih y X'' e'' I'' (by omega)
theorem Met.mono {y : MethodName} {bytes : ByteArray} {maxL : Nat} {ret : Option FieldType} {ws : List Jvm.Cond} {rm : Room} {as : Array Value} {h0 : Heap} {Q Q' : Option Value → Heap → List Loc → Prop} (M : Met l Z y bytes maxL ret ws rm as h0 Q) (q : ∀ v h L, Q v h L → Q' v h L) : Met l Z y bytes maxL ret ws rm as h0 Q' := by
  intro p e ha hc hk s m args below hf happ hP hK
  obtain ⟨n, o, h1, h2, h3, v, L, h4, h5, h6⟩ := M p e ha hc hk s m args below hf happ hP hK
  exact ⟨n, o, h1, h2, h3, v, L, h4, q _ _ _ h5, h6⟩
theorem Go.retW {g : JFrame} {v : Option Value} (X : Stand p l e R s m args below meth c T locs cells slots) (hv : meth.sig.returnType = none → v = none) (hlk : meth.locks = false) (hF : ∀ t v, FrameEnd s (.returned v) t locs cells slots → t.heap = T.heap → Fin (.returned v) t locs) (q : Q v T.heap locs)
    (st : ∀ fs, (∀ (f : JFrame) (acts : List Action), f.method = m → f.locked = none → f.entered = [] → (doReturn e (T.setTop f) acts v).1 = T.setFrames fs) → Steps p.tables e below (T.setTop g) (T.setFrames fs)) : Go p e below Fin Q T g := by
  obtain ⟨fs, hr, hrun, hended, hW, hsame⟩ := X.leave (v := v) hv hlk
  exact ⟨_, _, st fs hr, hrun, hended, _, _, rfl, q, hF _ _ ⟨⟨_, rfl⟩, hW, hsame⟩ rfl⟩
theorem Go.retI {z : Int32} (X : Stand p l e R s m args below meth c T locs cells slots) (hx : p.tables.exec = Jvm.exec) (hret : meth.sig.returnType = some .int) (hlk : meth.locks = false) (hd : decode c.code pc = .ok (.ireturn, 1)) (hF : ∀ t v, FrameEnd s (.returned v) t locs cells slots → t.heap = T.heap → Fin (.returned v) t locs) (q : Q (some (.int z)) T.heap locs) :
    Go p e below Fin Q T (mkF m pc Ls (.int z :: rest)) :=
  Go.retW X (fun h => by rw [hret] at h; cases h) hlk hF q fun fs hr => retOut X hx hret rfl (Or.inl ⟨rfl, Or.inl rfl, z, rfl⟩) hd hr
theorem Go.retJ {z : Int64} (X : Stand p l e R s m args below meth c T locs cells slots) (hx : p.tables.exec = Jvm.exec) (hret : meth.sig.returnType = some .long) (hlk : meth.locks = false) (hd : decode c.code pc = .ok (.lreturn, 1)) (hF : ∀ t v, FrameEnd s (.returned v) t locs cells slots → t.heap = T.heap → Fin (.returned v) t locs) (q : Q (some (.long z)) T.heap locs) :
    Go p e below Fin Q T (mkF m pc Ls (.long z :: rest)) :=
  Go.retW X (fun h => by rw [hret] at h; cases h) hlk hF q fun fs hr => retOut X hx hret rfl (Or.inr (Or.inl ⟨rfl, rfl, z, rfl⟩)) hd hr
theorem Go.retA {w : Value} {t : FieldType} (X : Stand p l e R s m args below meth c T locs cells slots) (hx : p.tables.exec = Jvm.exec) (hret : meth.sig.returnType = some t) (ht : t.isReference = true) (hw : w.isRef = true) (hn : narrow t w = w) (hlk : meth.locks = false) (hd : decode c.code pc = .ok (.areturn, 1)) (hF : ∀ t v, FrameEnd s (.returned v) t locs cells slots → t.heap = T.heap → Fin (.returned v) t locs) (q : Q (some w) T.heap locs) :
    Go p e below Fin Q T (mkF m pc Ls (w :: rest)) :=
  Go.retW X (fun h => by rw [hret] at h; cases h) hlk hF q fun fs hr => retOut X hx hret hn (Or.inr (Or.inr (Or.inr (Or.inr ⟨rfl, ht, hw⟩)))) hd hr
theorem Go.retN {z : Int32} {t : FieldType} (X : Stand p l e R s m args below meth c T locs cells slots) (hx : p.tables.exec = Jvm.exec) (hret : meth.sig.returnType = some t) (ht : t = .boolean ∨ t = .byte ∨ t = .char ∨ t = .short) (hlk : meth.locks = false) (hd : decode c.code pc = .ok (.ireturn, 1)) (hF : ∀ t v, FrameEnd s (.returned v) t locs cells slots → t.heap = T.heap → Fin (.returned v) t locs) (q : Q (some (.int (nar t z))) T.heap locs) :
    Go p e below Fin Q T (mkF m pc Ls (.int z :: rest)) :=
  Go.retW X (fun h => by rw [hret] at h; cases h) hlk hF q fun fs hr => RoadKit.retN X hx hret ht hd hr
theorem Go.retV (X : Stand p l e R s m args below meth c T locs cells slots) (hx : p.tables.exec = Jvm.exec) (hret : meth.sig.returnType = none) (hlk : meth.locks = false) (hd : decode c.code pc = .ok (.return_, 1)) (hF : ∀ t v, FrameEnd s (.returned v) t locs cells slots → t.heap = T.heap → Fin (.returned v) t locs) (q : Q none T.heap locs) :
    Go p e below Fin Q T (mkF m pc Ls []) :=
  Go.retW X (fun _ => rfl) hlk hF q fun fs hr => X.returnOut hx hret hd hr
theorem own_fin {o : Outcome} {t : State} {L : List Loc} {k n k' n' : Nat} (q : FrameEnd s o t L k n) (h1 : k ≤ k') (h2 : n ≤ n') : FrameEnd s o t L k' n' := ⟨q.1, q.2.1, q.2.2.mono h1 h2⟩
theorem own_finW {vm₁ : Vm} {o : Outcome} {t : State} {L : List Loc} {k n k' n' n₁ : Nat} (hS : s.Since vm₁ n₁) (hn : n₁ ≤ t.heap.size) (q : FrameEnd (s.setVm vm₁) o t L k n) (h1 : k ≤ k') (h2 : n ≤ n') : ReturnedEndW s o t L k' n' := by
  obtain ⟨a, b, c⟩ := hS.ended (U := t) q.2.1 hn q.2.2
  exact ⟨q.1, a, b, c.mono h1 h2⟩
def MetW (l : Launch) (Z : State) (y : MethodName) (bytes : ByteArray) (maxL : Nat) (ret : Option FieldType) (ws : List Jvm.Cond) (rm : Room) (as : Array Value) (Q : Option Value → Heap → List Loc → Prop) : Prop :=
  MetFree l y (head1 (Jvm.Cond.code y bytes maxL ret :: ws) rm) (fun a U => a = as ∧ U = Z) (fun _ _ _ _ _ => True) (fun _ U o U' => ∃ v L, o = .returned v ∧ Q v U'.heap L ∧ ReturnedEndW U o U' L rm.cells rm.slots)
theorem MetW.mk {l : Launch} {Z : State} {y : MethodName} {bytes : ByteArray} {maxL : Nat} {ret : Option FieldType} {ws : List Jvm.Cond} {rm : Room} {as : Array Value} {Q : Option Value → Heap → List Loc → Prop} (hp : plainFor y = true)
    (body : ∀ (p : Program) (e : Env) (m : MethodId) (below : List Frame) (meth : Method) (c : Code) (T : State), p.tables.exec = Jvm.exec → c.code = bytes → c.maxLocals = maxL → Z.vm.findClass y.cls = some m.cls → meth.name = y.name → meth.sig.returnType = ret → meth.locks = false → Z.Warmed39 Z.vm →
      Stand p l e rm (Z.setVm Z.vm) m as below meth c T [] 0 0 → T.heap = Z.heap → Z.Since Z.vm 0 → Go p e below (fun o t L => ReturnedEndW Z o t L rm.cells rm.slots) Q T (entryFrame m as maxL)) : MetW l Z y bytes maxL ret ws rm as Q := by
  refine MetFree.of_bodySF hp hisR ?_
  intro p e s m args below meth c s₁ Bd hml0 hP hK
  obtain ⟨rfl, rfl⟩ := hP
  exact body p e m below meth c s₁ Bd.exec Bd.bytes hml0 (findClass_of_methodNamed Bd.named) (name_of_methodNamed Bd.named Bd.method).1 Bd.returns (BodyLoose.notSynchronized Bd) (State.Warmed39.refl s) (Stand.of_body Bd) (by rw [Bd.state]; rfl) ((State.WarmedH.refl s).since 0)
/-! fields -/
theorem Go.getF {own R0 O n d : String} {index : Nat} {a : Addr} {v : Value} (X : Stand p l e R s m args below meth c T locs cells slots) (hx : p.tables.exec = Jvm.exec) (hZ : Z.Warmed39 s.vm) (hown : s.vm.findClass own = some m.cls) (w : (Jvm.Cond.fieldLink own index R0 n d).before a0 Z = true) (via : Via Z R0 O n d) (eT : T.heap = h) (F : Fld Z h a O n d v)
    (hd : decode c.code pc = .ok (.getfield index, 3)) (k : ∀ T', Stand p l e R s m args below meth c T' locs cells slots → T'.heap = h → Go p e below Fin Q T' (mkF m (pc + 3) Ls (v :: rest))) : Go p e below Fin Q T (mkF m pc Ls (.ref a :: rest)) := by
  obtain ⟨T', X', e', st⟩ := RoadKit.getF X hx hZ hown (host := "") (Or.inl w) via eT F (g := mkF m pc Ls (.ref a :: rest)) rfl rfl hd
  exact Go.of st (k T' X' e')
theorem Go.getFN {own R0 O n d host : String} {index : Nat} {a : Addr} {v : Value} (X : Stand p l e R s m args below meth c T locs cells slots) (hx : p.tables.exec = Jvm.exec) (hZ : Z.Warmed39 s.vm) (hown : s.vm.findClass own = some m.cls) (w : (Jvm.Cond.fieldLinkNest own index R0 n d host).before a0 Z = true) (via : Via Z R0 O n d) (eT : T.heap = h) (F : Fld Z h a O n d v)
    (hd : decode c.code pc = .ok (.getfield index, 3)) (k : ∀ T', Stand p l e R s m args below meth c T' locs cells slots → T'.heap = h → Go p e below Fin Q T' (mkF m (pc + 3) Ls (v :: rest))) : Go p e below Fin Q T (mkF m pc Ls (.ref a :: rest)) := by
  obtain ⟨T', X', e', st⟩ := RoadKit.getF X hx hZ hown (Or.inr w) via eT F (g := mkF m pc Ls (.ref a :: rest)) rfl rfl hd
  exact Go.of st (k T' X' e')
theorem Go.putF {own R0 O n d C : String} {index kk : Nat} {ty : FieldType} {a : Addr} {v old : Value} (X : Stand p l e R s m args below meth c T locs cells slots) (hx : p.tables.exec = Jvm.exec) (hZ : Z.Warmed39 s.vm) (hown : s.vm.findClass own = some m.cls) (w : (Jvm.Cond.fieldLink own index R0 n d).before a0 Z = true) (via : Via Z R0 O n d) (eT : T.heap = h) (F : Fld Z h a O n d old)
    (E : Exa Z h a C) (L : (Jvm.Cond.lays C O n d).before a0 Z = true ∨ ((Jvm.Cond.laysFinal C O n d).before a0 Z = true ∧ own = O ∧ meth.name = "<init>")) (wi : (Jvm.Cond.instantiable C kk).before a0 Z = true) (hty : parseFieldDescriptor d = some ty) (hn : narrow ty v = v) (hf : fits ty v = true)
    (hd : decode c.code pc = .ok (.putfield index, 3)) (k : ∀ T' h', Stand p l e R s m args below meth c T' (locs ++ [⟨a, RoadKit.slotOf Z O n d⟩]) cells slots → T'.heap = h' → Wr h h' a (RoadKit.slotOf Z O n d) v → Go p e below Fin Q T' (mkF m (pc + 3) Ls rest)) : Go p e below Fin Q T (mkF m pc Ls (v :: .ref a :: rest)) := by
  obtain ⟨T', h', X', e', W, st⟩ := RoadKit.putF X hx hZ hown (host := "") (Or.inl w) via eT F E L wi hty hn hf (g := mkF m pc Ls (v :: .ref a :: rest)) rfl rfl hd
  exact Go.of st (k T' h' X' e' W)
theorem Go.putFN {own R0 O n d C : String} {index kk : Nat} {ty : FieldType} {a : Addr} {z : Int32} {old : Value} (X : Stand p l e R s m args below meth c T locs cells slots) (hx : p.tables.exec = Jvm.exec) (hZ : Z.Warmed39 s.vm) (hown : s.vm.findClass own = some m.cls) (w : (Jvm.Cond.fieldLink own index R0 n d).before a0 Z = true) (via : Via Z R0 O n d) (eT : T.heap = h) (F : Fld Z h a O n d old)
    (E : Exa Z h a C) (L : (Jvm.Cond.lays C O n d).before a0 Z = true ∨ ((Jvm.Cond.laysFinal C O n d).before a0 Z = true ∧ own = O ∧ meth.name = "<init>")) (wi : (Jvm.Cond.instantiable C kk).before a0 Z = true) (hty : parseFieldDescriptor d = some ty) (hn : narrow ty (.int z) = .int (nar ty z)) (hf : fits ty (.int (nar ty z)) = true)
    (hd : decode c.code pc = .ok (.putfield index, 3)) (k : ∀ T' h', Stand p l e R s m args below meth c T' (locs ++ [⟨a, RoadKit.slotOf Z O n d⟩]) cells slots → T'.heap = h' → Wr h h' a (RoadKit.slotOf Z O n d) (.int (nar ty z)) → Go p e below Fin Q T' (mkF m (pc + 3) Ls rest)) : Go p e below Fin Q T (mkF m pc Ls (.int z :: .ref a :: rest)) := by
  obtain ⟨T', h', X', e', W, st⟩ := RoadKit.putFN X hx hZ hown w via eT F E L wi hty hn hf (g := mkF m pc Ls (.int z :: .ref a :: rest)) rfl rfl hd
  exact Go.of st (k T' h' X' e' W)
theorem Go.getS {own R0 O n d : String} {index : Nat} {v : Value} (X : Stand p l e R s m args below meth c T locs cells slots) (hx : p.tables.exec = Jvm.exec) (hZ : Z.Warmed39 s.vm) (hown : s.vm.findClass own = some m.cls) (w : (Jvm.Cond.fieldLink own index R0 n d).before a0 Z = true) (via : Via Z R0 O n d) (eT : T.heap = h) (F : Sta Z h O n d v)
    (hd : decode c.code pc = .ok (.getstatic index, 3)) (k : ∀ T', Stand p l e R s m args below meth c T' locs cells slots → T'.heap = h → Go p e below Fin Q T' (mkF m (pc + 3) Ls (v :: rest))) : Go p e below Fin Q T (mkF m pc Ls rest) := by
  obtain ⟨T', X', e', st⟩ := RoadKit.getS2 X hx hZ hown (host := "") (Or.inl w) via eT F (g := mkF m pc Ls rest) rfl hd
  exact Go.of st (k T' X' e')
theorem Go.ldcS {vm0 : Vm} {own text : String} {index k0 : Nat} (X : Stand p l e R (s.setVm vm0) m args below meth c T locs cells slots) (hx : p.tables.exec = Jvm.exec) (hZ : Z.Warmed39 vm0) (hown : vm0.findClass own = some m.cls) (w : (Jvm.Cond.stringLink own index text).before a0 Z = true) (wS : ∀ a ∈ Bundle.stringAtoms, a.before a0 Z = true)
    (eT : T.heap = h) (hS : s.Since vm0 k0) (hk : k0 ≤ h.size) (hd : decode c.code pc = .ok (.ldc index, 2)) (n : Nat) (hn : 4 * text.toList.length ≤ n) (hbig : n ≤ 536870912) (hc : cells + 2 ≤ R.cells) (hl : slots + (n + 4) ≤ R.slots)
    (k : ∀ (a : Addr) T' h' k1, Stand p l e R (s.setVm T'.vm) m args below meth c T' locs (cells + 2) (slots + (n + 4)) → T'.heap = h' → Ext h h' → s.Since T'.vm k1 → k1 ≤ h'.size → Z.Warmed39 (s.setVm T'.vm).vm → (s.setVm T'.vm).vm.findClass own = some m.cls → Go p e below Fin Q T' (mkF m (pc + 2) Ls (.ref a :: rest))) : Go p e below Fin Q T (mkF m pc Ls rest) := by
  obtain ⟨a, T', h', k1, r1, r2, r3, r4, r5, r6, r7, st⟩ := RoadKit.ldcS X hx hZ hown w wS eT hS hk (g := mkF m pc Ls rest) rfl hd hn hbig hc hl
  exact Go.of st (k a T' h' k1 r1 r2 r3 r4 r5 r6 r7)
/-! objects and arrays made -/
theorem Go.newO {own C : String} {index n : Nat} (X : Stand p l e R s m args below meth c T locs cells slots) (hx : p.tables.exec = Jvm.exec) (hZ : Z.Warmed39 s.vm) (hown : s.vm.findClass own = some m.cls) (w : (Jvm.Cond.classLink own index C).before a0 Z = true) (wi : (Jvm.Cond.instantiable C n).before a0 Z = true) (wz : (Jvm.Cond.initialized C).before a0 Z = true) (eT : T.heap = h)
    (hd : decode c.code pc = .ok (.new index, 3)) (hc : cells + 1 ≤ R.cells) (hl : slots + n ≤ R.slots)
    (k : ∀ T' h' a, Stand p l e R s m args below meth c T' locs (cells + 1) (slots + n) → T'.heap = h' → Ext h h' → a = h.size → Exa Z h' a C → (∀ {O nm d : String} {ty : FieldType}, Laid Z a0 C O nm d → parseFieldDescriptor d = some ty → Fld Z h' a O nm d (defaultValue ty)) → Go p e below Fin Q T' (mkF m (pc + 3) Ls (.ref a :: rest))) : Go p e below Fin Q T (mkF m pc Ls rest) := by
  obtain ⟨T', h', X', e', E, A, D, -, st⟩ := RoadKit.newO X hx hZ hown w wi wz eT (g := mkF m pc Ls rest) rfl hd hc hl
  exact Go.of st (k T' h' _ X' e' E rfl A D)
/-- an array: its kind, its length, what each place holds -/
def AV (Z : State) (h : Heap) (a : Addr) (ty : FieldType) (n : Nat) (f : Nat → Value) : Prop := ∃ cl : Cell, Arr Z h a cl ty ∧ cl.slots.size = n ∧ ∀ j, j < n → cl.slots[j]? = some (f j)
theorem AV.of_arv {Z : State} {h : Heap} {a : Addr} {kc : ClassId} {ty : FieldType} {z : Int32} {vs : List Value} {d : Value} (V : Arv Z h a kc ty z vs d) : AV Z h a ty z.toNatClampNeg (fun i => vs.getD i d) := by
  obtain ⟨cl, A, -, S, -, H, -⟩ := V
  exact ⟨cl, A, S, fun j hj => H j (by rw [S]; exact hj)⟩
def upd (f : Nat → Value) (j : Nat) (v : Value) : Nat → Value := fun i => if i = j then v else f i
def Inb (j : Int32) (n : Nat) : Prop := ¬ j < 0 ∧ j.toNatClampNeg < n
theorem upd_same (f : Nat → Value) (j : Nat) (v : Value) : upd f j v j = v := by simp [upd]
theorem upd_ne (f : Nat → Value) {i j : Nat} (v : Value) (hn : i ≠ j) : upd f j v i = f i := by simp [upd, hn]
theorem AV.lt {a : Addr} {ty : FieldType} {n : Nat} {f : Nat → Value} (V : AV Z h a ty n f) : a < h.size := by obtain ⟨cl, A, -⟩ := V; exact A.lt
theorem AV.ext {a : Addr} {ty : FieldType} {n : Nat} {f : Nat → Value} (V : AV Z h a ty n f) (E : Ext h h') : AV Z h' a ty n f := by obtain ⟨cl, A, r⟩ := V; exact ⟨cl, A.ext E, r⟩
theorem AV.other {a b : Addr} {ty : FieldType} {n : Nat} {f : Nat → Value} {sl : Nat} {v : Value} (V : AV Z h b ty n f) (W : Wr h h' a sl v) (q : b ≠ a) : AV Z h' b ty n f := by obtain ⟨cl, A, r⟩ := V; exact ⟨cl, A.other W q, r⟩
theorem AV.keep {a : Addr} {ty : FieldType} {n : Nat} {f : Nat → Value} {ws : List Addr} (V : AV Z h a ty n f) (K : Keep h h' ws) (q : a ∉ ws) : AV Z h' a ty n f := by obtain ⟨cl, A, r⟩ := V; exact ⟨cl, ⟨K.2.1 a cl A.1 q, A.2⟩, r⟩
theorem AV.set {a : Addr} {ty : FieldType} {n : Nat} {f : Nat → Value} {j : Nat} {v : Value} (V : AV Z h a ty n f) (W : Wr h h' a j v) (hj : j < n) : AV Z h' a ty n (upd f j v) := by
  obtain ⟨cl, A, S, H⟩ := V
  refine ⟨cl.setSlot j v, A.same W, by rw [sz_set]; exact S, fun i hi => ?_⟩
  by_cases q : i = j
  · subst q; simp [upd, Cell.setSlot, S, hj]
  · rw [upd_ne f v q, ← H i hi]; exact Array.getElem?_setIfInBounds_ne (Ne.symm q)
def updJ (f : Nat → Int64) (n : Nat) (q : Int64) : Nat → Int64 := fun j => if j = n then q else f j
def updI (f : Nat → Int32) (n : Nat) (q : Int32) : Nat → Int32 := fun j => if j = n then q else f j
theorem AV.setJ {a : Addr} {ty : FieldType} {n : Nat} {f : Nat → Int64} {j : Nat} {q : Int64} (V : AV Z h a ty n (fun i => .long (f i))) (W : Wr h h' a j (.long q)) (hj : j < n) : AV Z h' a ty n (fun i => .long (updJ f j q i)) := by
  have r := V.set W hj
  have e : upd (fun i => .long (f i)) j (.long q) = fun i => .long (updJ f j q i) := by funext i; unfold upd updJ; split <;> rfl
  rw [← e]; exact r
theorem AV.setI {a : Addr} {ty : FieldType} {n : Nat} {f : Nat → Int32} {j : Nat} {q : Int32} (V : AV Z h a ty n (fun i => .int (f i))) (W : Wr h h' a j (.int q)) (hj : j < n) : AV Z h' a ty n (fun i => .int (updI f j q i)) := by
  have r := V.set W hj
  have e : upd (fun i => .int (f i)) j (.int q) = fun i => .int (updI f j q i) := by funext i; unfold upd updI; split <;> rfl
  rw [← e]; exact r
def updD (f : Nat → UInt64) (n : Nat) (q : UInt64) : Nat → UInt64 := fun j => if j = n then q else f j
theorem AV.setD {a : Addr} {ty : FieldType} {n : Nat} {f : Nat → UInt64} {j : Nat} {q : UInt64} (V : AV Z h a ty n (fun i => .double (f i))) (W : Wr h h' a j (.double q)) (hj : j < n) : AV Z h' a ty n (fun i => .double (updD f j q i)) := by
  have r := V.set W hj
  have e : upd (fun i => .double (f i)) j (.double q) = fun i => .double (updD f j q i) := by funext i; unfold upd updD; split <;> rfl
  rw [← e]; exact r
theorem AV.congr {a : Addr} {ty : FieldType} {n : Nat} {f g : Nat → Value} (V : AV Z h a ty n f) (q : ∀ j, j < n → f j = g j) : AV Z h a ty n g := by
  obtain ⟨cl, A, S, H⟩ := V; exact ⟨cl, A, S, fun j hj => by rw [← q j hj]; exact H j hj⟩
theorem AV.new {a : Addr} {ty : FieldType} {cA : ClassId} {z : Int32} (A : Arr Z h a (newA cA ty z) ty) : AV Z h a ty z.toNatClampNeg (fun _ => defaultValue ty) :=
  ⟨_, A, sz_new _ _ _, fun j hj => by simp [newA, hj]⟩
theorem Inb.not {j : Int32} {n : Nat} (i : Inb j n) {k : Nat} (hk : k = n) : ¬ (j < 0 ∨ k ≤ j.toNatClampNeg) := fun q => q.elim i.1 (fun r => absurd i.2 (by omega))
theorem Go.newP {aty : ArrayType} {n : Int32} (X : Stand p l e R s m args below meth c T locs cells slots) (hx : p.tables.exec = Jvm.exec) (hZ : Z.Warmed39 s.vm) (w : (Jvm.Cond.arrayClass (newarray.typeOf aty)).before a0 Z = true) (eT : T.heap = h) (hd : decode c.code pc = .ok (.newarray aty, 2)) (hn : ¬ n < 0) (cap : Nat) (hcap : n.toNatClampNeg ≤ cap) (hb : cap * 8 ≤ 536870912) (hc : cells + 1 ≤ R.cells) (hl : slots + cap ≤ R.slots)
    (k : ∀ T' h' a, Stand p l e R s m args below meth c T' locs (cells + 1) (slots + cap) → T'.heap = h' → Ext h h' → a = h.size → AV Z h' a (newarray.typeOf aty) n.toNatClampNeg (fun _ => defaultValue (newarray.typeOf aty)) → Go p e below Fin Q T' (mkF m (pc + 2) Ls (.ref a :: rest))) : Go p e below Fin Q T (mkF m pc Ls (.int n :: rest)) := by
  obtain ⟨T', h', cA, X', e', E, A, st⟩ := RoadKit.newP X hx hZ w eT (g := mkF m pc Ls (.int n :: rest)) rfl hd rfl hn hcap hb hc hl
  exact Go.of st (k T' h' _ X' e' E rfl (AV.new A))
theorem Go.stI {a : Addr} {n : Nat} {g : Nat → Value} {j x : Int32} (X : Stand p l e R s m args below meth c T locs cells slots) (hx : p.tables.exec = Jvm.exec) (hZ : Z.Warmed39 s.vm) (eT : T.heap = h) (V : AV Z h a .int n g) (hj : Inb j n) (hd : decode c.code pc = .ok (.iastore, 1))
    (k : ∀ T' h', Stand p l e R s m args below meth c T' (locs ++ [⟨a, j.toNatClampNeg⟩]) cells slots → T'.heap = h' → Wr h h' a j.toNatClampNeg (.int x) → Go p e below Fin Q T' (mkF m (pc + 1) Ls rest)) : Go p e below Fin Q T (mkF m pc Ls (.int x :: .int j :: .ref a :: rest)) := by
  obtain ⟨cl, A, S, H⟩ := V
  obtain ⟨T', h', X', e', W, st⟩ := RoadKit.stI X hx hZ eT A (x := x) (hj.not S) (g := mkF m pc Ls (.int x :: .int j :: .ref a :: rest)) rfl rfl hd
  exact Go.of st (k T' h' X' e' W)
theorem Go.stJ {a : Addr} {n : Nat} {g : Nat → Value} {j : Int32} {x : Int64} (X : Stand p l e R s m args below meth c T locs cells slots) (hx : p.tables.exec = Jvm.exec) (hZ : Z.Warmed39 s.vm) (eT : T.heap = h) (V : AV Z h a .long n g) (hj : Inb j n) (hd : decode c.code pc = .ok (.lastore, 1))
    (k : ∀ T' h', Stand p l e R s m args below meth c T' (locs ++ [⟨a, j.toNatClampNeg⟩]) cells slots → T'.heap = h' → Wr h h' a j.toNatClampNeg (.long x) → Go p e below Fin Q T' (mkF m (pc + 1) Ls rest)) : Go p e below Fin Q T (mkF m pc Ls (.long x :: .int j :: .ref a :: rest)) := by
  obtain ⟨cl, A, S, H⟩ := V
  obtain ⟨T', h', X', e', W, st⟩ := RoadKit.stJ X hx hZ eT A (x := x) (hj.not S) (g := mkF m pc Ls (.long x :: .int j :: .ref a :: rest)) rfl rfl hd
  exact Go.of st (k T' h' X' e' W)
theorem Go.stC {a : Addr} {n : Nat} {g : Nat → Value} {j x : Int32} (X : Stand p l e R s m args below meth c T locs cells slots) (hx : p.tables.exec = Jvm.exec) (hZ : Z.Warmed39 s.vm) (eT : T.heap = h) (V : AV Z h a .char n g) (hj : Inb j n) (hd : decode c.code pc = .ok (.castore, 1))
    (k : ∀ T' h', Stand p l e R s m args below meth c T' (locs ++ [⟨a, j.toNatClampNeg⟩]) cells slots → T'.heap = h' → Wr h h' a j.toNatClampNeg (.int (nar .char x)) → Go p e below Fin Q T' (mkF m (pc + 1) Ls rest)) : Go p e below Fin Q T (mkF m pc Ls (.int x :: .int j :: .ref a :: rest)) := by
  obtain ⟨cl, A, S, H⟩ := V
  obtain ⟨T', h', X', e', W, st⟩ := RoadKit.stC X hx hZ eT A (x := x) (hj.not S) (g := mkF m pc Ls (.int x :: .int j :: .ref a :: rest)) rfl rfl hd
  exact Go.of st (k T' h' X' e' W)
theorem Go.stB {a : Addr} {n : Nat} {g : Nat → Value} {j x : Int32} (X : Stand p l e R s m args below meth c T locs cells slots) (hx : p.tables.exec = Jvm.exec) (hZ : Z.Warmed39 s.vm) (eT : T.heap = h) (V : AV Z h a .byte n g) (hj : Inb j n) (hd : decode c.code pc = .ok (.bastore, 1))
    (k : ∀ T' h', Stand p l e R s m args below meth c T' (locs ++ [⟨a, j.toNatClampNeg⟩]) cells slots → T'.heap = h' → Wr h h' a j.toNatClampNeg (.int (nar .byte x)) → Go p e below Fin Q T' (mkF m (pc + 1) Ls rest)) : Go p e below Fin Q T (mkF m pc Ls (.int x :: .int j :: .ref a :: rest)) := by
  obtain ⟨cl, A, S, H⟩ := V
  obtain ⟨T', h', X', e', W, st⟩ := RoadKit.stB X hx hZ eT A (x := x) (hj.not S) (g := mkF m pc Ls (.int x :: .int j :: .ref a :: rest)) rfl rfl hd
  exact Go.of st (k T' h' X' e' W)
theorem Go.stD {a : Addr} {n : Nat} {g : Nat → Value} {j : Int32} {x : UInt64} (X : Stand p l e R s m args below meth c T locs cells slots) (hx : p.tables.exec = Jvm.exec) (hZ : Z.Warmed39 s.vm) (eT : T.heap = h) (V : AV Z h a .double n g) (hj : Inb j n) (hd : decode c.code pc = .ok (.dastore, 1))
    (k : ∀ T' h', Stand p l e R s m args below meth c T' (locs ++ [⟨a, j.toNatClampNeg⟩]) cells slots → T'.heap = h' → Wr h h' a j.toNatClampNeg (.double x) → Go p e below Fin Q T' (mkF m (pc + 1) Ls rest)) : Go p e below Fin Q T (mkF m pc Ls (.double x :: .int j :: .ref a :: rest)) := by
  obtain ⟨cl, A, S, H⟩ := V
  obtain ⟨T', h', X', e', W, st⟩ := RoadKit.stD X hx hZ eT A (x := x) (hj.not S) (g := mkF m pc Ls (.double x :: .int j :: .ref a :: rest)) rfl rfl hd
  exact Go.of st (k T' h' X' e' W)
theorem Go.ldD {a : Addr} {n : Nat} {g : Nat → Value} {j : Int32} (v : Value) (X : Stand p l e R s m args below meth c T locs cells slots) (hx : p.tables.exec = Jvm.exec) (hZ : Z.Warmed39 s.vm) (eT : T.heap = h) (V : AV Z h a .double n g) (hj : Inb j n) (hv : g j.toNatClampNeg = v) (hd : decode c.code pc = .ok (.daload, 1))
    (k : Go p e below Fin Q T (mkF m (pc + 1) Ls (v :: rest))) : Go p e below Fin Q T (mkF m pc Ls (.int j :: .ref a :: rest)) := by
  obtain ⟨cl, A, S, H⟩ := V
  exact Go.of (X.daload hx (by rw [eT]; exact A.1) (State.isArrayOf_alike hZ.alike A.2.1) A.2.2 (hj.not S) ((H _ hj.2).trans (by rw [hv])) (g := mkF m pc Ls (.int j :: .ref a :: rest)) rfl rfl hd) k
theorem Go.ldI {a : Addr} {n : Nat} {g : Nat → Value} {j : Int32} (v : Value) (X : Stand p l e R s m args below meth c T locs cells slots) (hx : p.tables.exec = Jvm.exec) (hZ : Z.Warmed39 s.vm) (eT : T.heap = h) (V : AV Z h a .int n g) (hj : Inb j n) (hv : g j.toNatClampNeg = v) (hd : decode c.code pc = .ok (.iaload, 1))
    (k : Go p e below Fin Q T (mkF m (pc + 1) Ls (v :: rest))) : Go p e below Fin Q T (mkF m pc Ls (.int j :: .ref a :: rest)) := by
  obtain ⟨cl, A, S, H⟩ := V
  exact Go.of (X.iaload hx (by rw [eT]; exact A.1) (State.isArrayOf_alike hZ.alike A.2.1) A.2.2 (hj.not S) ((H _ hj.2).trans (by rw [hv])) (g := mkF m pc Ls (.int j :: .ref a :: rest)) rfl rfl hd) k
theorem Go.ldJ {a : Addr} {n : Nat} {g : Nat → Value} {j : Int32} (v : Value) (X : Stand p l e R s m args below meth c T locs cells slots) (hx : p.tables.exec = Jvm.exec) (hZ : Z.Warmed39 s.vm) (eT : T.heap = h) (V : AV Z h a .long n g) (hj : Inb j n) (hv : g j.toNatClampNeg = v) (hd : decode c.code pc = .ok (.laload, 1))
    (k : Go p e below Fin Q T (mkF m (pc + 1) Ls (v :: rest))) : Go p e below Fin Q T (mkF m pc Ls (.int j :: .ref a :: rest)) := by
  obtain ⟨cl, A, S, H⟩ := V
  exact Go.of (X.laload hx (by rw [eT]; exact A.1) (State.isArrayOf_alike hZ.alike A.2.1) A.2.2 (hj.not S) ((H _ hj.2).trans (by rw [hv])) (g := mkF m pc Ls (.int j :: .ref a :: rest)) rfl rfl hd) k
theorem Go.ldC {a : Addr} {n : Nat} {g : Nat → Value} {j : Int32} (v : Value) (X : Stand p l e R s m args below meth c T locs cells slots) (hx : p.tables.exec = Jvm.exec) (hZ : Z.Warmed39 s.vm) (eT : T.heap = h) (V : AV Z h a .char n g) (hj : Inb j n) (hv : g j.toNatClampNeg = v) (hd : decode c.code pc = .ok (.caload, 1))
    (k : Go p e below Fin Q T (mkF m (pc + 1) Ls (v :: rest))) : Go p e below Fin Q T (mkF m pc Ls (.int j :: .ref a :: rest)) := by
  obtain ⟨cl, A, S, H⟩ := V
  exact Go.of (X.caload hx (by rw [eT]; exact A.1) (State.isArrayOf_alike hZ.alike A.2.1) A.2.2 (hj.not S) ((H _ hj.2).trans (by rw [hv])) (g := mkF m pc Ls (.int j :: .ref a :: rest)) rfl rfl hd) k
theorem Go.ldB {a : Addr} {n : Nat} {g : Nat → Value} {j : Int32} (v : Value) (X : Stand p l e R s m args below meth c T locs cells slots) (hx : p.tables.exec = Jvm.exec) (hZ : Z.Warmed39 s.vm) (eT : T.heap = h) (V : AV Z h a .byte n g) (hj : Inb j n) (hv : g j.toNatClampNeg = v) (hd : decode c.code pc = .ok (.baload, 1))
    (k : Go p e below Fin Q T (mkF m (pc + 1) Ls (v :: rest))) : Go p e below Fin Q T (mkF m pc Ls (.int j :: .ref a :: rest)) := by
  obtain ⟨cl, A, S, H⟩ := V
  exact Go.of (X.baloadBytes hx (by rw [eT]; exact A.1) (State.isArrayOf_alike hZ.alike A.2.1) A.2.2 (hj.not S) ((H _ hj.2).trans (by rw [hv])) (g := mkF m pc Ls (.int j :: .ref a :: rest)) rfl rfl hd) k
theorem Go.alen {a : Addr} {n : Nat} {ty : FieldType} {g : Nat → Value} (z : Int32) (X : Stand p l e R s m args below meth c T locs cells slots) (hx : p.tables.exec = Jvm.exec) (hZ : Z.Warmed39 s.vm) (eT : T.heap = h) (V : AV Z h a ty n g) (hz : n.toInt32 = z) (hd : decode c.code pc = .ok (.arraylength, 1))
    (k : Go p e below Fin Q T (mkF m (pc + 1) Ls (.int z :: rest))) : Go p e below Fin Q T (mkF m pc Ls (.ref a :: rest)) := by
  obtain ⟨cl, A, S, H⟩ := V
  refine Go.of (X.arraylength hx (by rw [eT]; exact A.1) (State.isArrayOf_alike hZ.alike A.2.1) (g := mkF m pc Ls (.ref a :: rest)) rfl rfl hd) ?_
  rw [S, hz]; exact k
/-! calls -/
theorem Go.initO {own : String} {idx : Nat} {a : Addr} (X : Stand p l e R s m args below meth c T locs cells slots) (hx : p.tables.exec = Jvm.exec) (hZ : Z.Warmed39 s.vm) (hown : s.vm.findClass own = some m.cls) (w1 : (Jvm.Cond.methodLink own idx Lib.objectInit).before a0 Z = true) (w2 : (Jvm.Cond.instanceMethod Lib.objectInit).before a0 Z = true) (w3 : (Jvm.Cond.code Lib.objectInit ⟨#[0xb1]⟩ 1 none).before a0 Z = true) (eT : T.heap = h)
    (hsz : Ls.size = c.maxLocals) (hd : decode c.code pc = .ok (.invokespecial idx, 3)) (hf : 1 ≤ R.frames) (W : Nat) (hW : (rest.map fun v => v.category).sum ≤ W) (hl : W + 12 ≤ R.locals) (k : ∀ T', Stand p l e R s m args below meth c T' locs cells slots → T'.heap = h → Go p e below Fin Q T' (mkF m (pc + 3) Ls rest)) : Go p e below Fin Q T (mkF m pc Ls (.ref a :: rest)) := by
  obtain ⟨T', X', e', st⟩ := RoadKit.initO X hx hZ hown w1 w2 w3 eT (g := mkF m pc Ls (.ref a :: rest)) rfl hsz rfl hd hf (W := W) (by show 2 * 0 + _ ≤ _; omega) hl
  exact Go.of st (k T' X' e')
theorem Go.static {own : String} {index : Nat} {y : MethodName} {bytes : ByteArray} {maxL : Nat} {ret : Option FieldType} {rm : Room} {as : Array Value} {Qc : Option Value → Heap → List Loc → Prop} (X : Stand p l e R s m args below meth c T locs cells slots) (hx : p.tables.exec = Jvm.exec) (hZ : Z.Warmed39 s.vm) (hown : s.vm.findClass own = some m.cls)
    (w1 : (Jvm.Cond.methodLink own index y).before a0 Z = true) (w2 : (Jvm.Cond.static y).before a0 Z = true) (w3 : (Jvm.Cond.initialized y.cls).before a0 Z = true) (w4 : (Jvm.Cond.code y bytes maxL ret).before a0 Z = true) (hy : y.cls ≠ "java/lang/invoke/MethodHandle" ∧ y.cls ≠ "java/lang/invoke/VarHandle")
    (M : Met l Z y bytes maxL ret [] rm as h Qc) (eT : T.heap = h) (W : Nat) (hf : rm.frames + 1 ≤ R.frames) (hl : W + (maxL + 11) + rm.locals ≤ R.locals) (hc : cells + rm.cells ≤ R.cells) (hs : slots + rm.slots ≤ R.slots) (hsz : Ls.size = c.maxLocals) {st argsL : List Value} (rest : List Value) (hlen : ∀ sig, parseMethodDescriptor y.desc = some sig → argsL.length = sig.parameters.length)
    (has : argsL.toArray = as) (hst : st = argsL.reverse ++ rest) (hW : (rest.map fun v => v.category).sum ≤ W) (hd : decode c.code pc = .ok (.invokestatic index, 3))
    (k : ∀ v T' L', Stand p l e R s m args below meth c T' (locs ++ L') (cells + rm.cells) (slots + rm.slots) → Qc v T'.heap L' → Go p e below Fin Q T' (mkF m (pc + 3) Ls (v.toList ++ rest))) : Go p e below Fin Q T (mkF m pc Ls st) := by
  obtain ⟨v, _, ⟨T1, L1, k1, n1⟩, -, X1, ⟨Lc, hQ, l1, y1, z1⟩, stp⟩ := Jvm.LawKit.callS X hx (y := y) hown (mvT hZ w1) (mvT hZ w2) (mvT hZ w3) (mvT hZ w4) hy (backOf (W := W) M hZ w4 w3 hf hl) (g := mkF m pc Ls st) rfl hsz (argsL := argsL) (rest := rest) hlen hst (by show 2 * 0 + _ ≤ _; omega) hd (fun _ _ => ⟨has, eT, hc, hs⟩)
  dsimp only [Pt.U, Pt.locs, Pt.cells, Pt.slots] at X1 l1 y1 z1 stp hQ
  subst l1 y1 z1
  exact Go.of stp (k v T1 Lc X1 hQ)
theorem Go.special {own : String} {index : Nat} {y : MethodName} {bytes : ByteArray} {maxL : Nat} {rm : Room} {as : Array Value} {a : Addr} {Qc : Option Value → Heap → List Loc → Prop} (X : Stand p l e R s m args below meth c T locs cells slots) (hx : p.tables.exec = Jvm.exec) (hZ : Z.Warmed39 s.vm) (hown : s.vm.findClass own = some m.cls) (hy1 : y.name = "<init>")
    (w1 : (Jvm.Cond.methodLink own index y).before a0 Z = true) (w2 : (Jvm.Cond.instanceMethod y).before a0 Z = true) (w3 : (Jvm.Cond.initialized y.cls).before a0 Z = true) (w4 : (Jvm.Cond.code y bytes maxL none).before a0 Z = true) (hy : y.cls ≠ "java/lang/invoke/MethodHandle" ∧ y.cls ≠ "java/lang/invoke/VarHandle")
    (M : Met l Z y bytes maxL none [] rm as h Qc) (eT : T.heap = h) (W : Nat) (hf : rm.frames + 1 ≤ R.frames) (hl : W + (maxL + 11) + rm.locals ≤ R.locals) (hc : cells + rm.cells ≤ R.cells) (hs : slots + rm.slots ≤ R.slots) (hsz : Ls.size = c.maxLocals) {st argsL : List Value} (rest : List Value) (hlen : ∀ sig, parseMethodDescriptor y.desc = some sig → argsL.length = sig.parameters.length)
    (has : (.ref a :: argsL : List Value).toArray = as) (hst : st = argsL.reverse ++ .ref a :: rest) (hW : (rest.map fun v => v.category).sum ≤ W) (hd : decode c.code pc = .ok (.invokespecial index, 3))
    (k : ∀ v T' L', Stand p l e R s m args below meth c T' (locs ++ L') (cells + rm.cells) (slots + rm.slots) → Qc v T'.heap L' → Go p e below Fin Q T' (mkF m (pc + 3) Ls (v.toList ++ rest))) : Go p e below Fin Q T (mkF m pc Ls st) := by
  obtain ⟨v, _, ⟨T1, L1, k1, n1⟩, -, X1, ⟨Lc, hQ, l1, y1, z1⟩, stp⟩ := X.specialBack hx (y := y) hy1 hown (mvT hZ w1) (mvT hZ w2) (mvT hZ w4) hy (backOf (W := W) M hZ w4 w3 hf hl) (g := mkF m pc Ls st) rfl hsz (Steps.refl _) (a := a) (argsL := argsL) (rest := rest) hlen hst (by show 2 * 0 + _ ≤ _; omega) hd (fun _ _ => ⟨has, eT, hc, hs⟩)
  dsimp only [Pt.U, Pt.locs, Pt.cells, Pt.slots] at X1 l1 y1 z1 stp hQ
  subst l1 y1 z1
  exact Go.of (fun _ q => stp.trans q) (k v T1 Lc X1 hQ)
theorem Go.virtual {own C : String} {index : Nat} {y z : MethodName} {bytes : ByteArray} {maxL : Nat} {ret : Option FieldType} {rm : Room} {as : Array Value} {a : Addr} {Qc : Option Value → Heap → List Loc → Prop} (X : Stand p l e R s m args below meth c T locs cells slots) (hx : p.tables.exec = Jvm.exec) (hZ : Z.Warmed39 s.vm) (hown : s.vm.findClass own = some m.cls)
    (w1 : (Jvm.Cond.methodLink own index y).before a0 Z = true) (w2 : (Jvm.Cond.declares y).before a0 Z = true) (nf : NotFace s y) (ws : (Jvm.Cond.selects C y z).before a0 Z = true) (wi : (Jvm.Cond.instanceMethod z).before a0 Z = true) (w3 : (Jvm.Cond.initialized z.cls).before a0 Z = true) (w4 : (Jvm.Cond.code z bytes maxL ret).before a0 Z = true) (hy : y.cls ≠ "java/lang/invoke/MethodHandle" ∧ y.cls ≠ "java/lang/invoke/VarHandle")
    (M : Met l Z z bytes maxL ret [] rm as h Qc) (eT : T.heap = h) (E : Exa Z h a C) (W : Nat) (hf : rm.frames + 1 ≤ R.frames) (hl : W + (maxL + 11) + rm.locals ≤ R.locals) (hc : cells + rm.cells ≤ R.cells) (hs : slots + rm.slots ≤ R.slots) (hsz : Ls.size = c.maxLocals) {st argsL : List Value} (rest : List Value) (hlen : ∀ sig, parseMethodDescriptor y.desc = some sig → argsL.length = sig.parameters.length)
    (has : (.ref a :: argsL : List Value).toArray = as) (hst : st = argsL.reverse ++ .ref a :: rest) (hW : (rest.map fun v => v.category).sum ≤ W) (hd : decode c.code pc = .ok (.invokevirtual index, 3))
    (k : ∀ v T' L', Stand p l e R s m args below meth c T' (locs ++ L') (cells + rm.cells) (slots + rm.slots) → Qc v T'.heap L' → Go p e below Fin Q T' (mkF m (pc + 3) Ls (v.toList ++ rest))) : Go p e below Fin Q T (mkF m pc Ls st) := by
  obtain ⟨cq, kq, qa, qb, qc⟩ := isOf hZ eT E
  obtain ⟨v, _, ⟨T1, L1, k1, n1⟩, -, X1, ⟨Lc, hQ, l1, y1, z1⟩, stp⟩ := X.virtualBack hx (y := y) (z := z) hown (mvT hZ w1) (mvT hZ w2) nf (mvT hZ ws) (mvT hZ wi) hy (backOf (W := W) M hZ w4 w3 hf hl) qa qc (g := mkF m pc Ls st) rfl hsz (Steps.refl _) (argsL := argsL) (rest := rest) hlen hst (by show 2 * 0 + _ ≤ _; omega) hd (fun _ _ => ⟨has, eT, hc, hs⟩)
  dsimp only [Pt.U, Pt.locs, Pt.cells, Pt.slots] at X1 l1 y1 z1 stp hQ
  subst l1 y1 z1
  exact Go.of (fun _ q => stp.trans q) (k v T1 Lc X1 hQ)
theorem Go.priv {own C : String} {index : Nat} {y : MethodName} {bytes : ByteArray} {maxL : Nat} {ret : Option FieldType} {rm : Room} {as : Array Value} {a : Addr} {Qc : Option Value → Heap → List Loc → Prop} (X : Stand p l e R s m args below meth c T locs cells slots) (hx : p.tables.exec = Jvm.exec) (hZ : Z.Warmed39 s.vm) (hown : s.vm.findClass own = some m.cls)
    (w1 : (Jvm.Cond.methodLink own index y).before a0 Z = true) (wi : (Jvm.Cond.instanceMethod y).before a0 Z = true) {kk : Nat} (wk : (Jvm.Cond.instantiable y.cls kk).before a0 Z = true) (wp : (Jvm.Cond.privateMethod y).before a0 Z = true) (w3 : (Jvm.Cond.initialized y.cls).before a0 Z = true) (w4 : (Jvm.Cond.code y bytes maxL ret).before a0 Z = true) (hy : y.cls ≠ "java/lang/invoke/MethodHandle" ∧ y.cls ≠ "java/lang/invoke/VarHandle")
    (M : Met l Z y bytes maxL ret [] rm as h Qc) (eT : T.heap = h) (E : Exa Z h a C) (W : Nat) (hf : rm.frames + 1 ≤ R.frames) (hl : W + (maxL + 11) + rm.locals ≤ R.locals) (hc : cells + rm.cells ≤ R.cells) (hs : slots + rm.slots ≤ R.slots) (hsz : Ls.size = c.maxLocals) {st argsL : List Value} (rest : List Value) (hlen : ∀ sig, parseMethodDescriptor y.desc = some sig → argsL.length = sig.parameters.length)
    (has : (.ref a :: argsL : List Value).toArray = as) (hst : st = argsL.reverse ++ .ref a :: rest) (hW : (rest.map fun v => v.category).sum ≤ W) (hd : decode c.code pc = .ok (.invokevirtual index, 3))
    (k : ∀ v T' L', Stand p l e R s m args below meth c T' (locs ++ L') (cells + rm.cells) (slots + rm.slots) → Qc v T'.heap L' → Go p e below Fin Q T' (mkF m (pc + 3) Ls (v.toList ++ rest))) : Go p e below Fin Q T (mkF m pc Ls st) := by
  obtain ⟨cq, qa, qb⟩ := E.cell
  have hp : s.PrivateAt y := Cond.privateMethod_at (mvP hZ wp (args := #[]))
  obtain ⟨ci, ki, i1, i2, -, i4, -⟩ := Cond.instantiable_spec (show (Jvm.Cond.instantiable y.cls kk).before args s = true from mvT hZ wk)
  have hsel : (Jvm.Cond.selects y.cls y y).before args s = true := selects_self_of_private i1 i2 (by revert i4; cases ki.isInterface <;> simp) hp (mvT hZ wi) hy
  obtain ⟨v, _, ⟨T1, L1, k1, n1⟩, -, X1, ⟨Lc, hQ, l1, y1, z1⟩, stp⟩ := X.privateBack hx (y := y) hown (mvT hZ w1) (mvT hZ wi) hsel hp (mvT hZ w4) hy (backOf (W := W) M hZ w4 w3 hf hl) (g := mkF m pc Ls st) rfl hsz (Steps.refl _) (a := a) (by rw [eT]; exact qa) qb (argsL := argsL) (rest := rest) hlen hst (by show 2 * 0 + _ ≤ _; omega) hd (fun _ _ => ⟨has, eT, hc, hs⟩)
  dsimp only [Pt.U, Pt.locs, Pt.cells, Pt.slots] at X1 l1 y1 z1 stp hQ
  subst l1 y1 z1
  exact Go.of (fun _ q => stp.trans q) (k v T1 Lc X1 hQ)
/-- a constructor whose entry is resolved at the start ('methodRef') -/
theorem own_mref {Z s : State} {a0 args : Array Value} {own : String} {index : Nat} {y : MethodName} {mz : MethodId} (hZ : Z.Warmed39 s.vm) (hn : Z.methodNamed? y = some mz) (hy : y.cls ≠ "java/lang/invoke/MethodHandle" ∧ y.cls ≠ "java/lang/invoke/VarHandle") (w : (Jvm.Cond.methodRef own index y).before a0 Z = true) : (Jvm.Cond.methodRef own index y).before args s = true := by
  have q := Cond.methodRef_warmed39 hZ hn hy w
  simp only [Cond.before, Cond.holds, Cond.value] at q ⊢
  exact q
theorem Go.specialRef {own : String} {index : Nat} {y : MethodName} {bytes : ByteArray} {maxL : Nat} {rm : Room} {as : Array Value} {a : Addr} {Qc : Option Value → Heap → List Loc → Prop} (X : Stand p l e R s m args below meth c T locs cells slots) (hx : p.tables.exec = Jvm.exec) (hZ : Z.Warmed39 s.vm) (hown : s.vm.findClass own = some m.cls) (hy1 : y.name = "<init>")
    (w1 : (Jvm.Cond.methodRef own index y).before a0 Z = true) (w2 : (Jvm.Cond.instanceMethod y).before a0 Z = true) (w3 : (Jvm.Cond.initialized y.cls).before a0 Z = true) (w4 : (Jvm.Cond.code y bytes maxL none).before a0 Z = true) (hy : y.cls ≠ "java/lang/invoke/MethodHandle" ∧ y.cls ≠ "java/lang/invoke/VarHandle")
    (M : Met l Z y bytes maxL none [] rm as h Qc) (eT : T.heap = h) (W : Nat) (hf : rm.frames + 1 ≤ R.frames) (hl : W + (maxL + 11) + rm.locals ≤ R.locals) (hc : cells + rm.cells ≤ R.cells) (hs : slots + rm.slots ≤ R.slots) (hsz : Ls.size = c.maxLocals) {st argsL : List Value} (rest : List Value) (hlen : ∀ sig, parseMethodDescriptor y.desc = some sig → argsL.length = sig.parameters.length)
    (has : (.ref a :: argsL : List Value).toArray = as) (hst : st = argsL.reverse ++ .ref a :: rest) (hW : (rest.map fun v => v.category).sum ≤ W) (hd : decode c.code pc = .ok (.invokespecial index, 3))
    (k : ∀ v T' L', Stand p l e R s m args below meth c T' (locs ++ L') (cells + rm.cells) (slots + rm.slots) → Qc v T'.heap L' → Go p e below Fin Q T' (mkF m (pc + 3) Ls (v.toList ++ rest))) : Go p e below Fin Q T (mkF m pc Ls st) := by
  obtain ⟨mz, _, hnz, -⟩ := Cond.instanceMethod_spec w2
  have r1 : (Jvm.Cond.methodRef own index y).before args s = true := own_mref hZ hnz hy w1
  have hinst : (Jvm.Cond.instanceMethod y).before args s = true := mvT hZ w2
  have hcode : (Jvm.Cond.code y bytes maxL none).before args s = true := mvT hZ w4
  obtain ⟨mk, methM, hnamed, hmethM, hstM, habM⟩ := Cond.instanceMethod_spec hinst
  obtain ⟨methM', cM, hmethM', -, -, -, -, -, -, hsigM⟩ := Cond.code_spec hnamed hcode
  cases hmethM.symm.trans hmethM'
  have rT : (Jvm.Cond.methodRef own index y).before args T = true := own_mref X.warmed.wide hnamed hy r1
  have hownT : T.vm.findClass own = some m.cls := by rw [X.warmed.alike.findClass]; exact hown
  have hnT : T.methodNamed? y = some mk := X.named hnamed
  have hmT : T.vm.method? mk = some methM := by rw [X.warmed.alike.method?]; exact hmethM
  obtain ⟨m', c', ci, b, hfm, hready, hfind, hask, hcr⟩ := Cond.methodRef_spec (e := e) hownT rT
  have e1 : m' = mk := Option.some.inj (hfm.symm.trans (State.methodFound?_of_named hnT hy))
  subst e1
  have e2 : c' = m'.cls := Option.some.inj (hfind.symm.trans (findClass_of_methodNamed hnT))
  subst e2
  obtain ⟨kk, hkk, -⟩ := className_of_methodNamed hnT
  obtain ⟨hnm', hdesc'⟩ := name_of_methodNamed hnT hmT
  have hres : Op.namesResolved T.vm m.cls index m'.cls := by
    have q := rT
    simp only [Cond.before, Cond.holds, Cond.value, hownT, hfm] at q
    simp only [beq_iff_eq, Option.some.injEq, Bool.and_eq_true, decide_eq_true_eq] at q
    obtain ⟨cp, hcp, hn⟩ := State.names_spec q.1.1
    obtain ⟨ci2, nt, hentry, hnt, -⟩ := namesOf?_method hn
    obtain ⟨kc, cf, hkc, hcf, rfl⟩ := State.poolOf?_spec hownT hcp
    obtain ⟨b2, hask2⟩ := memberRef_ask' (e := e) hkc hcf hentry hnt
    have e3 : ci2 = ci := by
      have := hask2.symm.trans hask
      simp only [Except.ok.injEq, Prod.mk.injEq] at this
      exact this.1
    subst e3
    exact ⟨kc, cf, ci2, nt, hkc, hcf, hentry, hcr⟩
  have hfound : lookupSpecial T.vm m'.cls "<init>" methM.desc = .method m' := by
    rw [hdesc', ← hy1]; exact lookupSpecial_of_named hnT hmT hstM
  have hstep : ∀ target, (∀ acts, Steps p.tables e below (doInvoke e (T.setTop { mkF m pc Ls st with stack := rest }) acts m' (.ref a :: argsL).toArray).1 target) → Steps p.tables e below (T.setTop (mkF m pc Ls st)) target := by
    intro target hrest
    jvm_step X.here [hx, hd, Op.invokespecial.wp_init (e := e) (s := T) (k := kk) (meth := methM) (m := m') (a := a) (args := argsL) (rest := rest) (f := mkF m pc Ls st) X.here.top hres hready hkk hmT (by rw [hnm']; exact hy1) hstM habM hfound (hlen _ hsigM) hst]
    exact hrest
  have hB := backOf (W := W) (p := p) (e := e) (below := below) (args := args) (len := 3) M hZ w4 w3 hf hl
  obtain ⟨v, ⟨T1, L1, k1, n1⟩, X1, ⟨Lc, hQ, l1, y1, z1⟩, hsteps⟩ := hB m meth c ⟨T, locs, cells, slots⟩ { mkF m pc Ls st with stack := rest } (.invokespecial index) m' (.ref a :: argsL).toArray X rfl hsz hd (by show 2 * 0 + (rest.map fun v => v.category).sum ≤ _; omega) hnT ⟨has, eT, hc, hs⟩
  dsimp only [Pt.U, Pt.locs, Pt.cells, Pt.slots] at X1 l1 y1 z1 hsteps hQ
  subst l1 y1 z1
  refine Go.of (fun t kq => ?_) (k v T1 Lc X1 hQ)
  exact ((hstep _ fun acts => by rw [doInvoke_state]; exact Steps.refl _).trans hsteps).trans kq
/-! conditions -/
theorem cZlt {x y : Int64} (q : x < y) : ifCond.holds .lt (lcmpW x y) = true ∧ ifCond.holds .ge (lcmpW x y) = false := ⟨(if0 _ _).trans (tlt ((lw_lt x y).mpr q)).1, (if0 _ _).trans (tlt ((lw_lt x y).mpr q)).2.1⟩
theorem cFlt {x y : Int64} (q : ¬ x < y) : ifCond.holds .lt (lcmpW x y) = false ∧ ifCond.holds .ge (lcmpW x y) = true := ⟨(if0 _ _).trans (flt (fun r => q ((lw_lt x y).mp r))).1, (if0 _ _).trans (flt (fun r => q ((lw_lt x y).mp r))).2.1⟩
theorem cZgt {x y : Int64} (q : y < x) : ifCond.holds .gt (lcmpW x y) = true ∧ ifCond.holds .le (lcmpW x y) = false := ⟨(if0 _ _).trans (tlt ((lw_gt x y).mpr q)).2.2.1, (if0 _ _).trans (tlt ((lw_gt x y).mpr q)).2.2.2⟩
theorem cFgt {x y : Int64} (q : ¬ y < x) : ifCond.holds .gt (lcmpW x y) = false ∧ ifCond.holds .le (lcmpW x y) = true := ⟨(if0 _ _).trans (flt (fun r => q ((lw_gt x y).mp r))).2.2.1, (if0 _ _).trans (flt (fun r => q ((lw_gt x y).mp r))).2.2.2⟩
theorem cZeq {x y : Int64} (q : x = y) : ifCond.holds .eq (lcmpW x y) = true ∧ ifCond.holds .ne (lcmpW x y) = false := ⟨(if0 _ _).trans (teq ((lw_eq x y).mpr q)).1, (if0 _ _).trans (teq ((lw_eq x y).mpr q)).2⟩
theorem cFeq {x y : Int64} (q : ¬ x = y) : ifCond.holds .eq (lcmpW x y) = false ∧ ifCond.holds .ne (lcmpW x y) = true := ⟨(if0 _ _).trans (feq (fun r => q ((lw_eq x y).mp r))).1, (if0 _ _).trans (feq (fun r => q ((lw_eq x y).mp r))).2⟩
end Kit
theorem own_ni0 {a : Addr}  : a ∉ ([] : List Addr) := by simp [*]
theorem own_all0 {P : Addr → Prop} {b0 : Addr}  : ∀ x ∈ ([] : List Addr), P x := by intro x hx; cases hx
theorem own_ni1 {a b0 : Addr} (q0 : a ≠ b0) : a ∉ ([b0] : List Addr) := by simp [*]
theorem own_all1 {P : Addr → Prop} {b0 : Addr} (q0 : P b0) : ∀ x ∈ ([b0] : List Addr), P x := by intro x hx; simp only [List.mem_cons, List.not_mem_nil, or_false] at hx; subst hx; assumption
theorem own_ni2 {a b0 b1 : Addr} (q0 : a ≠ b0) (q1 : a ≠ b1) : a ∉ ([b0, b1] : List Addr) := by simp [*]
theorem own_all2 {P : Addr → Prop} {b0 b1 : Addr} (q0 : P b0) (q1 : P b1) : ∀ x ∈ ([b0, b1] : List Addr), P x := by intro x hx; simp only [List.mem_cons, List.not_mem_nil, or_false] at hx; rcases hx with rfl | rfl <;> assumption
theorem own_ni3 {a b0 b1 b2 : Addr} (q0 : a ≠ b0) (q1 : a ≠ b1) (q2 : a ≠ b2) : a ∉ ([b0, b1, b2] : List Addr) := by simp [*]
theorem own_all3 {P : Addr → Prop} {b0 b1 b2 : Addr} (q0 : P b0) (q1 : P b1) (q2 : P b2) : ∀ x ∈ ([b0, b1, b2] : List Addr), P x := by intro x hx; simp only [List.mem_cons, List.not_mem_nil, or_false] at hx; rcases hx with rfl | rfl | rfl <;> assumption
theorem own_ni4 {a b0 b1 b2 b3 : Addr} (q0 : a ≠ b0) (q1 : a ≠ b1) (q2 : a ≠ b2) (q3 : a ≠ b3) : a ∉ ([b0, b1, b2, b3] : List Addr) := by simp [*]
theorem own_all4 {P : Addr → Prop} {b0 b1 b2 b3 : Addr} (q0 : P b0) (q1 : P b1) (q2 : P b2) (q3 : P b3) : ∀ x ∈ ([b0, b1, b2, b3] : List Addr), P x := by intro x hx; simp only [List.mem_cons, List.not_mem_nil, or_false] at hx; rcases hx with rfl | rfl | rfl | rfl <;> assumption
theorem own_ni5 {a b0 b1 b2 b3 b4 : Addr} (q0 : a ≠ b0) (q1 : a ≠ b1) (q2 : a ≠ b2) (q3 : a ≠ b3) (q4 : a ≠ b4) : a ∉ ([b0, b1, b2, b3, b4] : List Addr) := by simp [*]
theorem own_all5 {P : Addr → Prop} {b0 b1 b2 b3 b4 : Addr} (q0 : P b0) (q1 : P b1) (q2 : P b2) (q3 : P b3) (q4 : P b4) : ∀ x ∈ ([b0, b1, b2, b3, b4] : List Addr), P x := by intro x hx; simp only [List.mem_cons, List.not_mem_nil, or_false] at hx; rcases hx with rfl | rfl | rfl | rfl | rfl <;> assumption
theorem own_ni6 {a b0 b1 b2 b3 b4 b5 : Addr} (q0 : a ≠ b0) (q1 : a ≠ b1) (q2 : a ≠ b2) (q3 : a ≠ b3) (q4 : a ≠ b4) (q5 : a ≠ b5) : a ∉ ([b0, b1, b2, b3, b4, b5] : List Addr) := by simp [*]
theorem own_all6 {P : Addr → Prop} {b0 b1 b2 b3 b4 b5 : Addr} (q0 : P b0) (q1 : P b1) (q2 : P b2) (q3 : P b3) (q4 : P b4) (q5 : P b5) : ∀ x ∈ ([b0, b1, b2, b3, b4, b5] : List Addr), P x := by intro x hx; simp only [List.mem_cons, List.not_mem_nil, or_false] at hx; rcases hx with rfl | rfl | rfl | rfl | rfl | rfl <;> assumption
theorem own_ni7 {a b0 b1 b2 b3 b4 b5 b6 : Addr} (q0 : a ≠ b0) (q1 : a ≠ b1) (q2 : a ≠ b2) (q3 : a ≠ b3) (q4 : a ≠ b4) (q5 : a ≠ b5) (q6 : a ≠ b6) : a ∉ ([b0, b1, b2, b3, b4, b5, b6] : List Addr) := by simp [*]
theorem own_all7 {P : Addr → Prop} {b0 b1 b2 b3 b4 b5 b6 : Addr} (q0 : P b0) (q1 : P b1) (q2 : P b2) (q3 : P b3) (q4 : P b4) (q5 : P b5) (q6 : P b6) : ∀ x ∈ ([b0, b1, b2, b3, b4, b5, b6] : List Addr), P x := by intro x hx; simp only [List.mem_cons, List.not_mem_nil, or_false] at hx; rcases hx with rfl | rfl | rfl | rfl | rfl | rfl | rfl <;> assumption

theorem own_wS {Z : State} {a0 : Array Value} (hw : ∀ d ∈ tables_1, d.before a0 Z = true) : ∀ a ∈ Bundle.stringAtoms, a.before a0 Z = true := by
  intro a ha
  simp only [Bundle.stringAtoms, List.mem_cons, List.not_mem_nil, or_false] at ha
  rcases ha with rfl | rfl | rfl | rfl | rfl | rfl | rfl
  · exact (hw _ (List.mem_of_getElem? (i := 7) rfl))
  · exact (hw _ (List.mem_of_getElem? (i := 8) rfl))
  · exact (hw _ (List.mem_of_getElem? (i := 9) rfl))
  · exact (hw _ (List.mem_of_getElem? (i := 10) rfl))
  · exact (hw _ (List.mem_of_getElem? (i := 11) rfl))
  · exact (hw _ (List.mem_of_getElem? (i := 12) rfl))
  · exact (hw _ (List.mem_of_getElem? (i := 13) rfl))
open Jvm.Kit
def own_dig (c : Int32) : Int32 := if c < 48 then 0 else if 57 < c then 0 else 1
def own_b (j : Nat) : Int32 := Int32.ofNat (48 + j)
def own_chr (i : Int32) : Int32 := nar .char (((own_b i.toNatClampNeg) &&& (255 : Int32)).toUInt32.toUInt16.toUInt32.toInt32)
theorem own_d (c : Int32) : (c.toInt64 - (48 : Int64)).toInt = c.toInt - 48 := by
  have h1 := c.toInt_lt; have h2 := c.le_toInt
  have k : (48 : Int64).toInt = 48 := by decide
  have e := i64_sub (x := c.toInt64) (y := 48) (by rw [i64_of_i32, k]; omega) (by rw [i64_of_i32, k]; omega)
  rw [e, i64_of_i32, k]
theorem own_lt0 {c : Int32} (h : c.toInt64 - (48 : Int64) < 0) : own_dig c = 0 := by
  rw [Int64.lt_iff_toInt_lt, own_d, show (0 : Int64).toInt = 0 by decide] at h
  unfold own_dig; rw [if_pos (by rw [Int32.lt_iff_toInt_lt, show (48 : Int32).toInt = 48 by decide]; omega)]
theorem own_ge {c : Int32} (h : ¬ c.toInt64 - (48 : Int64) < 10) : own_dig c = 0 := by
  rw [Int64.lt_iff_toInt_lt, own_d, show (10 : Int64).toInt = 10 by decide] at h
  unfold own_dig
  rw [if_neg (by rw [Int32.lt_iff_toInt_lt, show (48 : Int32).toInt = 48 by decide]; omega), if_pos (by rw [Int32.lt_iff_toInt_lt, show (57 : Int32).toInt = 57 by decide]; omega)]
theorem own_in {c : Int32} (h1 : ¬ c.toInt64 - (48 : Int64) < 0) (h2 : c.toInt64 - (48 : Int64) < 10) : c = 48 ∨ c = 49 ∨ c = 50 ∨ c = 51 ∨ c = 52 ∨ c = 53 ∨ c = 54 ∨ c = 55 ∨ c = 56 ∨ c = 57 := by
  rw [Int64.lt_iff_toInt_lt, own_d, show (0 : Int64).toInt = 0 by decide] at h1
  rw [Int64.lt_iff_toInt_lt, own_d, show (10 : Int64).toInt = 10 by decide] at h2
  simp only [← Int32.toInt_inj, show (48 : Int32).toInt = 48 by decide, show (49 : Int32).toInt = 49 by decide, show (50 : Int32).toInt = 50 by decide, show (51 : Int32).toInt = 51 by decide, show (52 : Int32).toInt = 52 by decide, show (53 : Int32).toInt = 53 by decide, show (54 : Int32).toInt = 54 by decide, show (55 : Int32).toInt = 55 by decide, show (56 : Int32).toInt = 56 by decide, show (57 : Int32).toInt = 57 by decide]
  omega
theorem own_one {c : Int32} (h1 : ¬ c.toInt64 - (48 : Int64) < 0) (h2 : c.toInt64 - (48 : Int64) < 10) : own_dig c = 1 := by
  rcases own_in h1 h2 with rfl | rfl | rfl | rfl | rfl | rfl | rfl | rfl | rfl | rfl <;> decide
theorem own_inb {c : Int32} (h1 : ¬ c.toInt64 - (48 : Int64) < 0) (h2 : c.toInt64 - (48 : Int64) < 10) : Inb (c.toInt64 - (48 : Int64)).toInt32 10 ∧ (c.toInt64 - (48 : Int64)).toInt32 < 10 := by
  rcases own_in h1 h2 with rfl | rfl | rfl | rfl | rfl | rfl | rfl | rfl | rfl | rfl <;> exact ⟨⟨by decide, by decide⟩, by decide⟩
theorem own_last {c : Int32} (h1 : ¬ c.toInt64 - (48 : Int64) < 0) (h2 : c.toInt64 - (48 : Int64) < 10) : nar .char (own_chr (c.toInt64 - (48 : Int64)).toInt32) = c.toUInt32.toUInt16.toUInt32.toInt32 := by
  rcases own_in h1 h2 with rfl | rfl | rfl | rfl | rfl | rfl | rfl | rfl | rfl | rfl <;> decide
theorem pd0 : parseMethodDescriptor "(IILjava/util/function/BiFunction;)I" = some ⟨[.int, .int, (.object "java/util/function/BiFunction")], some .int⟩ := by decide +kernel
theorem pd1 : parseMethodDescriptor "(II)V" = some ⟨[.int, .int], none⟩ := by decide +kernel
theorem pd2 : parseMethodDescriptor "()Z" = some ⟨[], some .boolean⟩ := by decide +kernel
theorem pd3 : parseMethodDescriptor "([BI)C" = some ⟨[(.array .byte), .int], some .char⟩ := by decide +kernel
theorem pd4 : parseMethodDescriptor "(I)Z" = some ⟨[.int], some .boolean⟩ := by decide +kernel
theorem pd5 : parseMethodDescriptor "(I)C" = some ⟨[.int], some .char⟩ := by decide +kernel
theorem d1_0 : decode prog_36_method_36_code 0 = .ok (.iload_n 0, 1) := by decide +kernel
theorem d1_1 : decode prog_36_method_36_code 1 = .ok (.bipush 48, 2) := by decide +kernel
theorem d1_3 : decode prog_36_method_36_code 3 = .ok (.if_icmp .lt 13, 3) := by decide +kernel
theorem d1_6 : decode prog_36_method_36_code 6 = .ok (.iload_n 0, 1) := by decide +kernel
theorem d1_7 : decode prog_36_method_36_code 7 = .ok (.bipush 57, 2) := by decide +kernel
theorem d1_9 : decode prog_36_method_36_code 9 = .ok (.if_icmp .gt 7, 3) := by decide +kernel
theorem d1_12 : decode prog_36_method_36_code 12 = .ok (.iconst 1, 1) := by decide +kernel
theorem d1_13 : decode prog_36_method_36_code 13 = .ok (.goto 4, 3) := by decide +kernel
theorem d1_16 : decode prog_36_method_36_code 16 = .ok (.iconst 0, 1) := by decide +kernel
theorem d1_17 : decode prog_36_method_36_code 17 = .ok (.ireturn, 1) := by decide +kernel
theorem pn1 : plainFor (⟨"com/example/text_to_shapes/texttoshapes/idl/SourceReader", "isDigit", "(I)Z"⟩ : MethodName) = true := plainFor_of_name (by first | (simp [plainName, overriddenIn]; done) | decide +kernel)
theorem ef_rmDig (m : MethodId) (x0 : Int32) : entryFrame m #[(.int x0)] 1 = mkF m 0 #[.val (.int x0)] [] := by first | (simp [entryFrame, mkF, argsToLocals, Value.category]; done) | rfl
set_option maxRecDepth 65536 in
set_option maxHeartbeats 40000000 in
theorem rmDig {l : Launch} {Z : State} {a0 : Array Value} (hw : ∀ d ∈ tables_1, d.before a0 Z = true) (c1 : Int32) (h0 : Heap) (n0 : Nat)  :
    Met l Z (⟨"com/example/text_to_shapes/texttoshapes/idl/SourceReader", "isDigit", "(I)Z"⟩ : MethodName) prog_36_method_36_code 1 (some .boolean) [] ({ frames := 0, cells := 0, slots := 0, locals := 0 } : Room) #[(.int c1)] h0 (fun v h L => v = some (.int (own_dig c1)) ∧ Fr n0 L ∧ h = h0) := by
  refine Met.mk pn1 ?_
  intro p e s m below meth c T hx hby hml hown hnm hret hlk hZ X eT
  refine Go.cast (ef_rmDig m c1) ?_
  have N := Fr.nil n0
  show Go p e below _ _ T (mkF m 0 #[.val (.int c1)] [])
  refine Go.of (fun _ kq => XS.iloadN X.here hx rfl (hb hby d1_0) rfl kq) ?_
  show Go p e below _ _ T (mkF m 1 #[.val (.int c1)] [(.int c1)])
  refine Go.of (fun _ kq => XS.bipush X.here hx rfl (hb hby d1_1) kq) ?_
  show Go p e below _ _ T (mkF m 3 #[.val (.int c1)] [(.int (48 : Int32)), (.int c1)])
  by_cases hc3 : c1 < (48 : Int32)
  · refine Go.of (fun _ kq => XS.icmpYes X.here hx rfl (pc0 := 3) (pc' := 16) rfl (hb hby d1_3) rfl (tlt hc3).1 (by decide) (by decide) kq) ?_
    show Go p e below _ _ T (mkF m 16 #[.val (.int c1)] [])
    refine Go.of (fun _ kq => XS.iconst X.here hx rfl (hb hby d1_16) kq) ?_
    show Go p e below _ _ T (mkF m 17 #[.val (.int c1)] [(.int (0 : Int32))])
    refine Go.retN X hx hret (by simp) hlk (hb hby d1_17) (fun _ _ q _ => own_fin q (by decide) (by decide)) ?_
    try rw [eT]
    exact ⟨by rw [show own_dig c1 = (0 : Int32) by simp [own_dig, hc3]]; rfl, N, rfl⟩
  · refine Go.of (fun _ kq => XS.icmpNo X.here hx rfl (hb hby d1_3) rfl (flt hc3).1 kq) ?_
    show Go p e below _ _ T (mkF m 6 #[.val (.int c1)] [])
    refine Go.of (fun _ kq => XS.iloadN X.here hx rfl (hb hby d1_6) rfl kq) ?_
    show Go p e below _ _ T (mkF m 7 #[.val (.int c1)] [(.int c1)])
    refine Go.of (fun _ kq => XS.bipush X.here hx rfl (hb hby d1_7) kq) ?_
    show Go p e below _ _ T (mkF m 9 #[.val (.int c1)] [(.int (57 : Int32)), (.int c1)])
    by_cases hc9 : (57 : Int32) < c1
    · refine Go.of (fun _ kq => XS.icmpYes X.here hx rfl (pc0 := 9) (pc' := 16) rfl (hb hby d1_9) rfl (tlt hc9).2.2.1 (by decide) (by decide) kq) ?_
      show Go p e below _ _ T (mkF m 16 #[.val (.int c1)] [])
      refine Go.of (fun _ kq => XS.iconst X.here hx rfl (hb hby d1_16) kq) ?_
      show Go p e below _ _ T (mkF m 17 #[.val (.int c1)] [(.int (0 : Int32))])
      refine Go.retN X hx hret (by simp) hlk (hb hby d1_17) (fun _ _ q _ => own_fin q (by decide) (by decide)) ?_
      try rw [eT]
      exact ⟨by rw [show own_dig c1 = (0 : Int32) by simp [own_dig, hc3, hc9]]; rfl, N, rfl⟩
    · refine Go.of (fun _ kq => XS.icmpNo X.here hx rfl (hb hby d1_9) rfl (flt hc9).2.2.1 kq) ?_
      show Go p e below _ _ T (mkF m 12 #[.val (.int c1)] [])
      refine Go.of (fun _ kq => XS.iconst X.here hx rfl (hb hby d1_12) kq) ?_
      show Go p e below _ _ T (mkF m 13 #[.val (.int c1)] [(.int (1 : Int32))])
      refine Go.of (fun _ kq => XS.goto X.here hx rfl (pc0 := 13) (pc' := 17) rfl (hb hby d1_13) (by decide) (by decide) kq) ?_
      show Go p e below _ _ T (mkF m 17 #[.val (.int c1)] [(.int (1 : Int32))])
      refine Go.retN X hx hret (by simp) hlk (hb hby d1_17) (fun _ _ q _ => own_fin q (by decide) (by decide)) ?_
      try rw [eT]
      exact ⟨by rw [show own_dig c1 = (1 : Int32) by simp [own_dig, hc3, hc9]]; rfl, N, rfl⟩
theorem d3_0 : decode jdk_42_method_154_code 0 = .ok (.getstatic 38, 3) := by decide +kernel
theorem d3_3 : decode jdk_42_method_154_code 3 = .ok (.ifCond .eq 14, 3) := by decide +kernel
theorem d3_6 : decode jdk_42_method_154_code 6 = .ok (.aload_n 0, 1) := by decide +kernel
theorem d3_7 : decode jdk_42_method_154_code 7 = .ok (.getfield 15, 3) := by decide +kernel
theorem d3_10 : decode jdk_42_method_154_code 10 = .ok (.ifCond .ne 7, 3) := by decide +kernel
theorem d3_13 : decode jdk_42_method_154_code 13 = .ok (.iconst 1, 1) := by decide +kernel
theorem d3_14 : decode jdk_42_method_154_code 14 = .ok (.goto 4, 3) := by decide +kernel
theorem d3_18 : decode jdk_42_method_154_code 18 = .ok (.ireturn, 1) := by decide +kernel
theorem pn3 : plainFor (⟨"java/lang/String", "isLatin1", "()Z"⟩ : MethodName) = true := plainFor_of_name (by first | (simp [plainName, overriddenIn]; done) | decide +kernel)
theorem ef_rmLat (m : MethodId) (x0 : Addr) : entryFrame m #[(.ref x0)] 1 = mkF m 0 #[.val (.ref x0)] [] := by first | (simp [entryFrame, mkF, argsToLocals, Value.category]; done) | rfl
set_option maxRecDepth 65536 in
set_option maxHeartbeats 40000000 in
theorem rmLat {l : Launch} {Z : State} {a0 : Array Value} (hw : ∀ d ∈ tables_1, d.before a0 Z = true) (a : Addr) (zc : Int32) (h0 : Heap) (n0 : Nat) (S_cs : Sta Z h0 "java/lang/String" "COMPACT_STRINGS" "Z" (.int zc)) (F_coder_a : Fld Z h0 a "java/lang/String" "coder" "B" (.int (0 : Int32))) (hz : ¬ zc = 0) :
    Met l Z (⟨"java/lang/String", "isLatin1", "()Z"⟩ : MethodName) jdk_42_method_154_code 1 (some .boolean) [] ({ frames := 0, cells := 0, slots := 0, locals := 0 } : Room) #[(.ref a)] h0 (fun v h L => v = some (.int 1) ∧ Fr n0 L ∧ h = h0) := by
  refine Met.mk pn3 ?_
  intro p e s m below meth c T hx hby hml hown hnm hret hlk hZ X eT
  refine Go.cast (ef_rmLat m a) ?_
  have N := Fr.nil n0
  show Go p e below _ _ T (mkF m 0 #[.val (.ref a)] [])
  refine Go.getS X hx hZ hown (hw _ (List.mem_of_getElem? (i := 24) rfl)) Via.refl eT S_cs (hb hby d3_0) ?_
  intro T X eT
  show Go p e below _ _ T (mkF m 3 #[.val (.ref a)] [(.int zc)])
  refine Go.of (fun _ kq => XS.ifNo X.here hx rfl (hb hby d3_3) rfl ((if0 _ _).trans (feq (hz)).1) kq) ?_
  show Go p e below _ _ T (mkF m 6 #[.val (.ref a)] [])
  refine Go.of (fun _ kq => XS.aloadN X.here hx rfl (hb hby d3_6) rfl rfl kq) ?_
  show Go p e below _ _ T (mkF m 7 #[.val (.ref a)] [(.ref a)])
  refine Go.getF X hx hZ hown (hw _ (List.mem_of_getElem? (i := 25) rfl)) Via.refl eT F_coder_a (hb hby d3_7) ?_
  intro T X eT
  show Go p e below _ _ T (mkF m 10 #[.val (.ref a)] [(.int (0 : Int32))])
  refine Go.of (fun _ kq => XS.ifNo X.here hx rfl (hb hby d3_10) rfl ((if0 _ _).trans (teq (by decide)).2) kq) ?_
  show Go p e below _ _ T (mkF m 13 #[.val (.ref a)] [])
  refine Go.of (fun _ kq => XS.iconst X.here hx rfl (hb hby d3_13) kq) ?_
  show Go p e below _ _ T (mkF m 14 #[.val (.ref a)] [(.int (1 : Int32))])
  refine Go.of (fun _ kq => XS.goto X.here hx rfl (pc0 := 14) (pc' := 18) rfl (hb hby d3_14) (by decide) (by decide) kq) ?_
  show Go p e below _ _ T (mkF m 18 #[.val (.ref a)] [(.int (1 : Int32))])
  refine Go.retN X hx hret (by simp) hlk (hb hby d3_18) (fun _ _ q _ => own_fin q (by decide) (by decide)) ?_
  try rw [eT]
  exact ⟨rfl, N, rfl⟩
theorem d6_0 : decode jdk_41_method_11_code 0 = .ok (.iload_n 0, 1) := by decide +kernel
theorem d6_1 : decode jdk_41_method_11_code 1 = .ok (.ifCond .lt 8, 3) := by decide +kernel
theorem d6_4 : decode jdk_41_method_11_code 4 = .ok (.iload_n 0, 1) := by decide +kernel
theorem d6_5 : decode jdk_41_method_11_code 5 = .ok (.iload_n 1, 1) := by decide +kernel
theorem d6_6 : decode jdk_41_method_11_code 6 = .ok (.if_icmp .lt 10, 3) := by decide +kernel
theorem d6_16 : decode jdk_41_method_11_code 16 = .ok (.iload_n 0, 1) := by decide +kernel
theorem d6_17 : decode jdk_41_method_11_code 17 = .ok (.ireturn, 1) := by decide +kernel
theorem pn6 : plainFor (⟨"jdk/internal/util/Preconditions", "checkIndex", "(IILjava/util/function/BiFunction;)I"⟩ : MethodName) = true := plainFor_of_name (by first | (simp [plainName, overriddenIn]; done) | decide +kernel)
theorem ef_rmPc (m : MethodId) (x0 : Int32) (x1 : Int32) (x2 : Value) (hx2 : x2.isRef = true) : entryFrame m #[(.int x0), (.int x1), x2] 3 = mkF m 0 #[.val (.int x0), .val (.int x1), .val x2] [] := by rcases ref_cases hx2 with rfl | ⟨_, rfl⟩ <;> first | (simp [entryFrame, mkF, argsToLocals, Value.category]; done) | rfl
set_option maxRecDepth 65536 in
set_option maxHeartbeats 40000000 in
theorem rmPc {l : Launch} {Z : State} {a0 : Array Value} (hw : ∀ d ∈ tables_1, d.before a0 Z = true) (p1 p2 : Int32) (fm : Value) (h0 : Heap) (n0 : Nat) (rf : fm.isRef = true) (hp1 : ¬ p1 < 0) (hp2 : p1 < p2) :
    Met l Z (⟨"jdk/internal/util/Preconditions", "checkIndex", "(IILjava/util/function/BiFunction;)I"⟩ : MethodName) jdk_41_method_11_code 3 (some .int) [] ({ frames := 0, cells := 0, slots := 0, locals := 0 } : Room) #[(.int p1), (.int p2), fm] h0 (fun v h L => v = some (.int p1) ∧ Fr n0 L ∧ h = h0) := by
  refine Met.mk pn6 ?_
  intro p e s m below meth c T hx hby hml hown hnm hret hlk hZ X eT
  refine Go.cast (ef_rmPc m p1 p2 fm rf) ?_
  have N := Fr.nil n0
  show Go p e below _ _ T (mkF m 0 #[.val (.int p1), .val (.int p2), .val fm] [])
  refine Go.of (fun _ kq => XS.iloadN X.here hx rfl (hb hby d6_0) rfl kq) ?_
  show Go p e below _ _ T (mkF m 1 #[.val (.int p1), .val (.int p2), .val fm] [(.int p1)])
  refine Go.of (fun _ kq => XS.ifNo X.here hx rfl (hb hby d6_1) rfl ((if0 _ _).trans (flt (hp1)).1) kq) ?_
  show Go p e below _ _ T (mkF m 4 #[.val (.int p1), .val (.int p2), .val fm] [])
  refine Go.of (fun _ kq => XS.iloadN X.here hx rfl (hb hby d6_4) rfl kq) ?_
  show Go p e below _ _ T (mkF m 5 #[.val (.int p1), .val (.int p2), .val fm] [(.int p1)])
  refine Go.of (fun _ kq => XS.iloadN X.here hx rfl (hb hby d6_5) rfl kq) ?_
  show Go p e below _ _ T (mkF m 6 #[.val (.int p1), .val (.int p2), .val fm] [(.int p2), (.int p1)])
  refine Go.of (fun _ kq => XS.icmpYes X.here hx rfl (pc0 := 6) (pc' := 16) rfl (hb hby d6_6) rfl (tlt (hp2)).1 (by decide) (by decide) kq) ?_
  show Go p e below _ _ T (mkF m 16 #[.val (.int p1), .val (.int p2), .val fm] [])
  refine Go.of (fun _ kq => XS.iloadN X.here hx rfl (hb hby d6_16) rfl kq) ?_
  show Go p e below _ _ T (mkF m 17 #[.val (.int p1), .val (.int p2), .val fm] [(.int p1)])
  refine Go.retI X hx hret hlk (hb hby d6_17) (fun _ _ q _ => own_fin q (by decide) (by decide)) ?_
  try rw [eT]
  exact ⟨rfl, N, rfl⟩
theorem d5_0 : decode jdk_42_method_155_code 0 = .ok (.iload_n 0, 1) := by decide +kernel
theorem d5_1 : decode jdk_42_method_155_code 1 = .ok (.iload_n 1, 1) := by decide +kernel
theorem d5_2 : decode jdk_42_method_155_code 2 = .ok (.getstatic 1053, 3) := by decide +kernel
theorem d5_5 : decode jdk_42_method_155_code 5 = .ok (.invokestatic 1059, 3) := by decide +kernel
theorem d5_8 : decode jdk_42_method_155_code 8 = .ok (.pop, 1) := by decide +kernel
theorem d5_9 : decode jdk_42_method_155_code 9 = .ok (.return_, 1) := by decide +kernel
theorem pn5 : plainFor (⟨"java/lang/String", "checkIndex", "(II)V"⟩ : MethodName) = true := plainFor_of_name (by first | (simp [plainName, overriddenIn]; done) | decide +kernel)
theorem ef_rmCk (m : MethodId) (x0 : Int32) (x1 : Int32) : entryFrame m #[(.int x0), (.int x1)] 2 = mkF m 0 #[.val (.int x0), .val (.int x1)] [] := by first | (simp [entryFrame, mkF, argsToLocals, Value.category]; done) | rfl
set_option maxRecDepth 65536 in
set_option maxHeartbeats 40000000 in
theorem rmCk {l : Launch} {Z : State} {a0 : Array Value} (hw : ∀ d ∈ tables_1, d.before a0 Z = true) (p1 p2 : Int32) (fm : Value) (h0 : Heap) (n0 : Nat) (S_si : Sta Z h0 "jdk/internal/util/Preconditions" "SIOOBE_FORMATTER" "Ljava/util/function/BiFunction;" fm) (rf : fm.isRef = true) (hp1 : ¬ p1 < 0) (hp2 : p1 < p2) :
    Met l Z (⟨"java/lang/String", "checkIndex", "(II)V"⟩ : MethodName) jdk_42_method_155_code 2 none [] ({ frames := 1, cells := 0, slots := 0, locals := 14 } : Room) #[(.int p1), (.int p2)] h0 (fun v h L => v = none ∧ Fr n0 L ∧ h = h0) := by
  refine Met.mk pn5 ?_
  intro p e s m below meth c T hx hby hml hown hnm hret hlk hZ X eT
  refine Go.cast (ef_rmCk m p1 p2) ?_
  have N := Fr.nil n0
  show Go p e below _ _ T (mkF m 0 #[.val (.int p1), .val (.int p2)] [])
  refine Go.of (fun _ kq => XS.iloadN X.here hx rfl (hb hby d5_0) rfl kq) ?_
  show Go p e below _ _ T (mkF m 1 #[.val (.int p1), .val (.int p2)] [(.int p1)])
  refine Go.of (fun _ kq => XS.iloadN X.here hx rfl (hb hby d5_1) rfl kq) ?_
  show Go p e below _ _ T (mkF m 2 #[.val (.int p1), .val (.int p2)] [(.int p2), (.int p1)])
  refine Go.getS X hx hZ hown (hw _ (List.mem_of_getElem? (i := 34) rfl)) Via.refl eT S_si (hb hby d5_2) ?_
  intro T X eT
  show Go p e below _ _ T (mkF m 5 #[.val (.int p1), .val (.int p2)] [fm, (.int p2), (.int p1)])
  refine Go.static X hx hZ hown (hw _ (List.mem_of_getElem? (i := 36) rfl)) (hw _ (List.mem_of_getElem? (i := 37) rfl)) (hw _ (List.mem_of_getElem? (i := 35) rfl)) (hw _ (List.mem_of_getElem? (i := 38) rfl)) (by decide) (rmPc hw p1 p2 fm _ n0 rf hp1 hp2) eT 0 (by decide) (by decide) (by decide) (by decide) (by rw [hml]; rfl) (argsL := [(.int p1), (.int p2), fm]) [] (lenOf pd0 rfl) rfl rfl (Nat.le_of_eq rfl) (hb hby d5_5) ?_
  intro v T L' X hQ
  obtain ⟨rfl, N', eT⟩ := hQ
  have N := Fr.app N N'
  show Go p e below _ _ T (mkF m 8 #[.val (.int p1), .val (.int p2)] [(.int p1)])
  refine Go.of (fun _ kq => XS.pop X.here hx rfl (hb hby d5_8) rfl rfl kq) ?_
  show Go p e below _ _ T (mkF m 9 #[.val (.int p1), .val (.int p2)] [])
  refine Go.retV X hx hret hlk (hb hby d5_9) (fun _ _ q _ => own_fin q (by decide) (by decide)) ?_
  try rw [eT]
  exact ⟨rfl, N, rfl⟩
theorem d4_0 : decode jdk_43_method_2_code 0 = .ok (.iload_n 1, 1) := by decide +kernel
theorem d4_1 : decode jdk_43_method_2_code 1 = .ok (.aload_n 0, 1) := by decide +kernel
theorem d4_2 : decode jdk_43_method_2_code 2 = .ok (.arraylength, 1) := by decide +kernel
theorem d4_3 : decode jdk_43_method_2_code 3 = .ok (.invokestatic 9, 3) := by decide +kernel
theorem d4_6 : decode jdk_43_method_2_code 6 = .ok (.aload_n 0, 1) := by decide +kernel
theorem d4_7 : decode jdk_43_method_2_code 7 = .ok (.iload_n 1, 1) := by decide +kernel
theorem d4_8 : decode jdk_43_method_2_code 8 = .ok (.baload, 1) := by decide +kernel
theorem d4_9 : decode jdk_43_method_2_code 9 = .ok (.sipush 255, 3) := by decide +kernel
theorem d4_12 : decode jdk_43_method_2_code 12 = .ok (.iand, 1) := by decide +kernel
theorem d4_13 : decode jdk_43_method_2_code 13 = .ok (.i2c, 1) := by decide +kernel
theorem d4_14 : decode jdk_43_method_2_code 14 = .ok (.ireturn, 1) := by decide +kernel
theorem pn4 : plainFor (⟨"java/lang/StringLatin1", "charAt", "([BI)C"⟩ : MethodName) = true := plainFor_of_name (by first | (simp [plainName, overriddenIn]; done) | decide +kernel)
theorem ef_rmCh1 (m : MethodId) (x0 : Addr) (x1 : Int32) : entryFrame m #[(.ref x0), (.int x1)] 2 = mkF m 0 #[.val (.ref x0), .val (.int x1)] [] := by first | (simp [entryFrame, mkF, argsToLocals, Value.category]; done) | rfl
set_option maxRecDepth 65536 in
set_option maxHeartbeats 40000000 in
theorem rmCh1 {l : Launch} {Z : State} {a0 : Array Value} (hw : ∀ d ∈ tables_1, d.before a0 Z = true) (t : Addr) (i : Int32) (fm : Value) (h0 : Heap) (n0 : Nat) (S_si : Sta Z h0 "jdk/internal/util/Preconditions" "SIOOBE_FORMATTER" "Ljava/util/function/BiFunction;" fm) (V_t : AV Z h0 t .byte 10 (fun j => .int (own_b j))) (rf : fm.isRef = true) (hi : Inb i 10) (hi2 : i < 10) :
    Met l Z (⟨"java/lang/StringLatin1", "charAt", "([BI)C"⟩ : MethodName) jdk_43_method_2_code 2 (some .char) [] ({ frames := 2, cells := 0, slots := 0, locals := 27 } : Room) #[(.ref t), (.int i)] h0 (fun v h L => v = some (.int (own_chr i)) ∧ Fr n0 L ∧ h = h0) := by
  refine Met.mk pn4 ?_
  intro p e s m below meth c T hx hby hml hown hnm hret hlk hZ X eT
  refine Go.cast (ef_rmCh1 m t i) ?_
  have N := Fr.nil n0
  show Go p e below _ _ T (mkF m 0 #[.val (.ref t), .val (.int i)] [])
  refine Go.of (fun _ kq => XS.iloadN X.here hx rfl (hb hby d4_0) rfl kq) ?_
  show Go p e below _ _ T (mkF m 1 #[.val (.ref t), .val (.int i)] [(.int i)])
  refine Go.of (fun _ kq => XS.aloadN X.here hx rfl (hb hby d4_1) rfl rfl kq) ?_
  show Go p e below _ _ T (mkF m 2 #[.val (.ref t), .val (.int i)] [(.ref t), (.int i)])
  refine Go.alen (10 : Int32) X hx hZ eT V_t (by decide) (hb hby d4_2) ?_
  show Go p e below _ _ T (mkF m 3 #[.val (.ref t), .val (.int i)] [(.int (10 : Int32)), (.int i)])
  refine Go.static X hx hZ hown (hw _ (List.mem_of_getElem? (i := 31) rfl)) (hw _ (List.mem_of_getElem? (i := 32) rfl)) (hw _ (List.mem_of_getElem? (i := 7) rfl)) (hw _ (List.mem_of_getElem? (i := 33) rfl)) (by decide) (rmCk hw i (10 : Int32) fm _ n0 S_si rf hi.1 hi2) eT 0 (by decide) (by decide) (by decide) (by decide) (by rw [hml]; rfl) (argsL := [(.int i), (.int (10 : Int32))]) [] (lenOf pd1 rfl) rfl rfl (Nat.le_of_eq rfl) (hb hby d4_3) ?_
  intro v T L' X hQ
  obtain ⟨rfl, N', eT⟩ := hQ
  have N := Fr.app N N'
  show Go p e below _ _ T (mkF m 6 #[.val (.ref t), .val (.int i)] [])
  refine Go.of (fun _ kq => XS.aloadN X.here hx rfl (hb hby d4_6) rfl rfl kq) ?_
  show Go p e below _ _ T (mkF m 7 #[.val (.ref t), .val (.int i)] [(.ref t)])
  refine Go.of (fun _ kq => XS.iloadN X.here hx rfl (hb hby d4_7) rfl kq) ?_
  show Go p e below _ _ T (mkF m 8 #[.val (.ref t), .val (.int i)] [(.int i), (.ref t)])
  refine Go.ldB (.int (own_b i.toNatClampNeg)) X hx hZ eT V_t (show Inb i 10 from hi) rfl (hb hby d4_8) ?_
  show Go p e below _ _ T (mkF m 9 #[.val (.ref t), .val (.int i)] [(.int (own_b i.toNatClampNeg))])
  refine Go.of (fun _ kq => XS.sipush X.here hx rfl (hb hby d4_9) kq) ?_
  show Go p e below _ _ T (mkF m 12 #[.val (.ref t), .val (.int i)] [(.int (255 : Int32)), (.int (own_b i.toNatClampNeg))])
  refine Go.of (fun _ kq => XS.iand X.here hx rfl (hb hby d4_12) rfl kq) ?_
  show Go p e below _ _ T (mkF m 13 #[.val (.ref t), .val (.int i)] [(.int ((own_b i.toNatClampNeg) &&& (255 : Int32)))])
  refine Go.of (fun _ kq => XS.i2c X.here hx rfl (hb hby d4_13) rfl kq) ?_
  show Go p e below _ _ T (mkF m 14 #[.val (.ref t), .val (.int i)] [(.int (((own_b i.toNatClampNeg) &&& (255 : Int32)).toUInt32.toUInt16.toUInt32.toInt32))])
  refine Go.retN X hx hret (by simp) hlk (hb hby d4_14) (fun _ _ q _ => own_fin q (by decide) (by decide)) ?_
  try rw [eT]
  exact ⟨rfl, N, rfl⟩
theorem d2_0 : decode jdk_42_method_56_code 0 = .ok (.aload_n 0, 1) := by decide +kernel
theorem d2_1 : decode jdk_42_method_56_code 1 = .ok (.invokevirtual 492, 3) := by decide +kernel
theorem d2_4 : decode jdk_42_method_56_code 4 = .ok (.ifCond .eq 12, 3) := by decide +kernel
theorem d2_7 : decode jdk_42_method_56_code 7 = .ok (.aload_n 0, 1) := by decide +kernel
theorem d2_8 : decode jdk_42_method_56_code 8 = .ok (.getfield 9, 3) := by decide +kernel
theorem d2_11 : decode jdk_42_method_56_code 11 = .ok (.iload_n 1, 1) := by decide +kernel
theorem d2_12 : decode jdk_42_method_56_code 12 = .ok (.invokestatic 495, 3) := by decide +kernel
theorem d2_15 : decode jdk_42_method_56_code 15 = .ok (.ireturn, 1) := by decide +kernel
theorem pn2 : plainFor (⟨"java/lang/String", "charAt", "(I)C"⟩ : MethodName) = true := plainFor_of_name (by first | (simp [plainName, overriddenIn]; done) | decide +kernel)
theorem ef_rmCh (m : MethodId) (x0 : Addr) (x1 : Int32) : entryFrame m #[(.ref x0), (.int x1)] 2 = mkF m 0 #[.val (.ref x0), .val (.int x1)] [] := by first | (simp [entryFrame, mkF, argsToLocals, Value.category]; done) | rfl
set_option maxRecDepth 65536 in
set_option maxHeartbeats 40000000 in
theorem rmCh {l : Launch} {Z : State} {a0 : Array Value} (hw : ∀ d ∈ tables_1, d.before a0 Z = true) (a t : Addr) (i : Int32) (zc : Int32) (fm : Value) (h0 : Heap) (n0 : Nat) (S_cs : Sta Z h0 "java/lang/String" "COMPACT_STRINGS" "Z" (.int zc)) (S_si : Sta Z h0 "jdk/internal/util/Preconditions" "SIOOBE_FORMATTER" "Ljava/util/function/BiFunction;" fm) (E_a : Exa Z h0 a "java/lang/String") (F_coder_a : Fld Z h0 a "java/lang/String" "coder" "B" (.int (0 : Int32))) (F_value_a : Fld Z h0 a "java/lang/String" "value" "[B" (.ref t)) (V_t : AV Z h0 t .byte 10 (fun j => .int (own_b j))) (hz : ¬ zc = 0) (rf : fm.isRef = true) (hi : Inb i 10) (hi2 : i < 10) :
    Met l Z (⟨"java/lang/String", "charAt", "(I)C"⟩ : MethodName) jdk_42_method_56_code 2 (some .char) [] ({ frames := 3, cells := 0, slots := 0, locals := 40 } : Room) #[(.ref a), (.int i)] h0 (fun v h L => v = some (.int (nar .char (own_chr i))) ∧ Fr n0 L ∧ h = h0) := by
  refine Met.mk pn2 ?_
  intro p e s m below meth c T hx hby hml hown hnm hret hlk hZ X eT
  refine Go.cast (ef_rmCh m a i) ?_
  have N := Fr.nil n0
  show Go p e below _ _ T (mkF m 0 #[.val (.ref a), .val (.int i)] [])
  refine Go.of (fun _ kq => XS.aloadN X.here hx rfl (hb hby d2_0) rfl rfl kq) ?_
  show Go p e below _ _ T (mkF m 1 #[.val (.ref a), .val (.int i)] [(.ref a)])
  refine Go.virtual (a := a) X hx hZ hown (hw _ (List.mem_of_getElem? (i := 19) rfl)) (hw _ (List.mem_of_getElem? (i := 20) rfl)) (notFace_of_selects (args := #[]) (mvT hZ (hw _ (List.mem_of_getElem? (i := 22) rfl)))) (hw _ (List.mem_of_getElem? (i := 22) rfl)) (hw _ (List.mem_of_getElem? (i := 21) rfl)) (hw _ (List.mem_of_getElem? (i := 7) rfl)) (hw _ (List.mem_of_getElem? (i := 23) rfl)) (by decide) (rmLat hw a zc _ n0 S_cs F_coder_a hz) eT E_a 0 (by decide) (by decide) (by decide) (by decide) (by rw [hml]; rfl) (argsL := []) [] (lenOf pd2 rfl) rfl rfl (Nat.le_of_eq rfl) (hb hby d2_1) ?_
  intro v T L' X hQ
  obtain ⟨rfl, N', eT⟩ := hQ
  have N := Fr.app N N'
  show Go p e below _ _ T (mkF m 4 #[.val (.ref a), .val (.int i)] [(.int (1 : Int32))])
  refine Go.of (fun _ kq => XS.ifNo X.here hx rfl (hb hby d2_4) rfl ((if0 _ _).trans (feq (by decide)).1) kq) ?_
  show Go p e below _ _ T (mkF m 7 #[.val (.ref a), .val (.int i)] [])
  refine Go.of (fun _ kq => XS.aloadN X.here hx rfl (hb hby d2_7) rfl rfl kq) ?_
  show Go p e below _ _ T (mkF m 8 #[.val (.ref a), .val (.int i)] [(.ref a)])
  refine Go.getF X hx hZ hown (hw _ (List.mem_of_getElem? (i := 26) rfl)) Via.refl eT F_value_a (hb hby d2_8) ?_
  intro T X eT
  show Go p e below _ _ T (mkF m 11 #[.val (.ref a), .val (.int i)] [(.ref t)])
  refine Go.of (fun _ kq => XS.iloadN X.here hx rfl (hb hby d2_11) rfl kq) ?_
  show Go p e below _ _ T (mkF m 12 #[.val (.ref a), .val (.int i)] [(.int i), (.ref t)])
  refine Go.static X hx hZ hown (hw _ (List.mem_of_getElem? (i := 27) rfl)) (hw _ (List.mem_of_getElem? (i := 28) rfl)) (hw _ (List.mem_of_getElem? (i := 29) rfl)) (hw _ (List.mem_of_getElem? (i := 30) rfl)) (by decide) (rmCh1 hw t i fm _ n0 S_si V_t rf hi hi2) eT 0 (by decide) (by decide) (by decide) (by decide) (by rw [hml]; rfl) (argsL := [(.ref t), (.int i)]) [] (lenOf pd3 rfl) rfl rfl (Nat.le_of_eq rfl) (hb hby d2_12) ?_
  intro v T L' X hQ
  obtain ⟨rfl, N', eT⟩ := hQ
  have N := Fr.app N N'
  show Go p e below _ _ T (mkF m 15 #[.val (.ref a), .val (.int i)] [(.int (own_chr i))])
  refine Go.retN X hx hret (by simp) hlk (hb hby d2_15) (fun _ _ q _ => own_fin q (by decide) (by decide)) ?_
  try rw [eT]
  exact ⟨rfl, N, rfl⟩
theorem pn0 : plainFor x = true := plainFor_of_name (by first | (simp [plainName, overriddenIn]; done) | decide +kernel)
theorem ef_rm0 (m : MethodId) (x0 : Int32) : entryFrame m #[(.int x0)] maxLocals = mkF m 0 #[.val (.int x0), .unset, .unset, .unset, .unset, .unset] [] := by first | (simp [entryFrame, mkF, argsToLocals, Value.category, maxLocals]; done) | rfl
set_option maxRecDepth 65536 in
set_option maxHeartbeats 40000000 in
theorem rm0 {l : Launch} {Z : State} {a0 : Array Value} (hw : ∀ d ∈ tables_1, d.before a0 Z = true) (c1 : Int32) (zc : Int32) (fm : Value) (h0 : Heap) (n0 : Nat) (hh0 : Z.heap = h0) (hn0 : n0 = h0.size) (Z0 : n0 ≤ h0.size) (S_cs : Sta Z h0 "java/lang/String" "COMPACT_STRINGS" "Z" (.int zc)) (S_si : Sta Z h0 "jdk/internal/util/Preconditions" "SIOOBE_FORMATTER" "Ljava/util/function/BiFunction;" fm) (hz : ¬ zc = 0) (rf : fm.isRef = true) (hh : Jvm.Lit.constHeld Z "com/example/text_to_shapes/texttoshapes/idl/SourceReaderIsDigitPinLaw" 17) (hcw : Jvm.Lit.compactW.before a0 Z = true) :
    MetW l Z x code maxLocals ret tables_1 room_1 #[(.int c1)] (fun v h L => v = some (.int 1) ∧ Fr n0 L) := by
  refine MetW.mk pn0 ?_
  intro p e m below meth c T hx hby hml hown hnm hret hlk hZ X eT hS
  rw [hh0] at eT
  have hk : 0 ≤ h0.size := Nat.zero_le _
  refine Go.cast (ef_rm0 m c1) ?_
  have N := Fr.nil n0
  have K := Keep.refl h0 []
  show Go p e below _ _ T (mkF m 0 #[.val (.int c1), .unset, .unset, .unset, .unset, .unset] [])
  refine Go.of (fun _ kq => XS.iloadN X.here hx rfl (hb hby at_0) rfl kq) ?_
  show Go p e below _ _ T (mkF m 1 #[.val (.int c1), .unset, .unset, .unset, .unset, .unset] [(.int c1)])
  refine Go.static X hx hZ hown (hw _ (List.mem_of_getElem? (i := 0) rfl)) (hw _ (List.mem_of_getElem? (i := 1) rfl)) (hw _ (List.mem_of_getElem? (i := 2) rfl)) (hw _ (List.mem_of_getElem? (i := 3) rfl)) (by decide) (rmDig hw c1 _ n0) eT 0 (by decide) (by decide) (by decide) (by decide) (by rw [hml]; rfl) (argsL := [(.int c1)]) [] (lenOf pd4 rfl) rfl rfl (Nat.le_of_eq rfl) (hb hby at_1) ?_
  intro v T L' X hQ
  obtain ⟨rfl, N', eT⟩ := hQ
  have N := Fr.app N N'
  show Go p e below _ _ T (mkF m 4 #[.val (.int c1), .unset, .unset, .unset, .unset, .unset] [(.int (own_dig c1))])
  refine Go.of (fun _ kq => XS.istoreN X.here hx rfl (hb hby at_4) rfl (l' := #[.val (.int c1), .val (.int (own_dig c1)), .unset, .unset, .unset, .unset]) rfl kq) ?_
  show Go p e below _ _ T (mkF m 5 #[.val (.int c1), .val (.int (own_dig c1)), .unset, .unset, .unset, .unset] [])
  refine Go.of (fun _ kq => XS.iloadN X.here hx rfl (hb hby at_5) rfl kq) ?_
  show Go p e below _ _ T (mkF m 6 #[.val (.int c1), .val (.int (own_dig c1)), .unset, .unset, .unset, .unset] [(.int c1)])
  refine Go.of (fun _ kq => XS.i2l X.here hx rfl (hb hby at_6) rfl kq) ?_
  show Go p e below _ _ T (mkF m 7 #[.val (.int c1), .val (.int (own_dig c1)), .unset, .unset, .unset, .unset] [(.long (c1.toInt64))])
  refine Go.of (X.ldc2Long hx hown (mvT hZ (hw _ (List.mem_of_getElem? (i := 4) rfl))) (g := (mkF m 7 #[.val (.int c1), .val (.int (own_dig c1)), .unset, .unset, .unset, .unset] [(.long (c1.toInt64))])) rfl (hb hby at_7)) ?_
  show Go p e below _ _ T (mkF m 10 #[.val (.int c1), .val (.int (own_dig c1)), .unset, .unset, .unset, .unset] [(.long (48 : Int64)), (.long (c1.toInt64))])
  refine Go.of (fun _ kq => XS.lsub X.here hx rfl (hb hby at_10) rfl kq) ?_
  show Go p e below _ _ T (mkF m 11 #[.val (.int c1), .val (.int (own_dig c1)), .unset, .unset, .unset, .unset] [(.long ((c1.toInt64) - (48 : Int64)))])
  refine Go.of (fun _ kq => XS.lstoreN X.here hx rfl (hb hby at_11) rfl (l' := #[.val (.int c1), .val (.int (own_dig c1)), .val (.long ((c1.toInt64) - (48 : Int64))), .second, .unset, .unset]) rfl kq) ?_
  show Go p e below _ _ T (mkF m 12 #[.val (.int c1), .val (.int (own_dig c1)), .val (.long ((c1.toInt64) - (48 : Int64))), .second, .unset, .unset] [])
  refine Go.of (fun _ kq => XS.lloadN X.here hx rfl (hb hby at_12) rfl kq) ?_
  show Go p e below _ _ T (mkF m 13 #[.val (.int c1), .val (.int (own_dig c1)), .val (.long ((c1.toInt64) - (48 : Int64))), .second, .unset, .unset] [(.long ((c1.toInt64) - (48 : Int64)))])
  refine Go.of (fun _ kq => XS.lconst X.here hx rfl (hb hby at_13) kq) ?_
  show Go p e below _ _ T (mkF m 14 #[.val (.int c1), .val (.int (own_dig c1)), .val (.long ((c1.toInt64) - (48 : Int64))), .second, .unset, .unset] [(.long (0 : Int64)), (.long ((c1.toInt64) - (48 : Int64)))])
  refine Go.of (fun _ kq => XS.lcmp X.here hx rfl (hb hby at_14) rfl kq) ?_
  show Go p e below _ _ T (mkF m 15 #[.val (.int c1), .val (.int (own_dig c1)), .val (.long ((c1.toInt64) - (48 : Int64))), .second, .unset, .unset] [(.int (lcmpW ((c1.toInt64) - (48 : Int64)) (0 : Int64)))])
  by_cases hc15 : ((c1.toInt64) - (48 : Int64)) < (0 : Int64)
  · refine Go.of (fun _ kq => XS.ifYes X.here hx rfl (pc0 := 15) (pc' := 30) rfl (hb hby at_15) rfl (cZlt hc15).1 (by decide) (by decide) kq) ?_
    show Go p e below _ _ T (mkF m 30 #[.val (.int c1), .val (.int (own_dig c1)), .val (.long ((c1.toInt64) - (48 : Int64))), .second, .unset, .unset] [])
    refine Go.of (fun _ kq => XS.iconst X.here hx rfl (hb hby at_30) kq) ?_
    show Go p e below _ _ T (mkF m 31 #[.val (.int c1), .val (.int (own_dig c1)), .val (.long ((c1.toInt64) - (48 : Int64))), .second, .unset, .unset] [(.int (0 : Int32))])
    refine Go.of (fun _ kq => XS.istore X.here hx rfl (hb hby at_31) rfl (l' := #[.val (.int c1), .val (.int (own_dig c1)), .val (.long ((c1.toInt64) - (48 : Int64))), .second, .val (.int (0 : Int32)), .unset]) rfl kq) ?_
    show Go p e below _ _ T (mkF m 33 #[.val (.int c1), .val (.int (own_dig c1)), .val (.long ((c1.toInt64) - (48 : Int64))), .second, .val (.int (0 : Int32)), .unset] [])
    refine Go.of (fun _ kq => XS.iloadN X.here hx rfl (hb hby at_33) rfl kq) ?_
    show Go p e below _ _ T (mkF m 34 #[.val (.int c1), .val (.int (own_dig c1)), .val (.long ((c1.toInt64) - (48 : Int64))), .second, .val (.int (0 : Int32)), .unset] [(.int (own_dig c1))])
    refine Go.of (fun _ kq => XS.iload X.here hx rfl (hb hby at_34) rfl kq) ?_
    show Go p e below _ _ T (mkF m 36 #[.val (.int c1), .val (.int (own_dig c1)), .val (.long ((c1.toInt64) - (48 : Int64))), .second, .val (.int (0 : Int32)), .unset] [(.int (0 : Int32)), (.int (own_dig c1))])
    refine Go.of (fun _ kq => XS.icmpYes X.here hx rfl (pc0 := 36) (pc' := 41) rfl (hb hby at_36) rfl (teq (own_lt0 hc15)).1 (by decide) (by decide) kq) ?_
    show Go p e below _ _ T (mkF m 41 #[.val (.int c1), .val (.int (own_dig c1)), .val (.long ((c1.toInt64) - (48 : Int64))), .second, .val (.int (0 : Int32)), .unset] [])
    refine Go.of (fun _ kq => XS.iload X.here hx rfl (hb hby at_41) rfl kq) ?_
    show Go p e below _ _ T (mkF m 43 #[.val (.int c1), .val (.int (own_dig c1)), .val (.long ((c1.toInt64) - (48 : Int64))), .second, .val (.int (0 : Int32)), .unset] [(.int (0 : Int32))])
    refine Go.of (fun _ kq => XS.ifYes X.here hx rfl (pc0 := 43) (pc' := 68) rfl (hb hby at_43) rfl ((if0 _ _).trans (teq (by decide)).1) (by decide) (by decide) kq) ?_
    show Go p e below _ _ T (mkF m 68 #[.val (.int c1), .val (.int (own_dig c1)), .val (.long ((c1.toInt64) - (48 : Int64))), .second, .val (.int (0 : Int32)), .unset] [])
    refine Go.of (fun _ kq => XS.iconst X.here hx rfl (hb hby at_68) kq) ?_
    show Go p e below _ _ T (mkF m 69 #[.val (.int c1), .val (.int (own_dig c1)), .val (.long ((c1.toInt64) - (48 : Int64))), .second, .val (.int (0 : Int32)), .unset] [(.int (1 : Int32))])
    refine Go.retN X hx hret (by simp) hlk (hb hby at_69) (fun _ _ q e_ => own_finW hS (by rw [e_, eT]; exact hk) q (by decide) (by decide)) ?_
    try rw [eT]
    exact ⟨rfl, N⟩
  · refine Go.of (fun _ kq => XS.ifNo X.here hx rfl (hb hby at_15) rfl (cFlt hc15).1 kq) ?_
    show Go p e below _ _ T (mkF m 18 #[.val (.int c1), .val (.int (own_dig c1)), .val (.long ((c1.toInt64) - (48 : Int64))), .second, .unset, .unset] [])
    refine Go.of (fun _ kq => XS.lloadN X.here hx rfl (hb hby at_18) rfl kq) ?_
    show Go p e below _ _ T (mkF m 19 #[.val (.int c1), .val (.int (own_dig c1)), .val (.long ((c1.toInt64) - (48 : Int64))), .second, .unset, .unset] [(.long ((c1.toInt64) - (48 : Int64)))])
    refine Go.of (X.ldc2Long hx hown (mvT hZ (hw _ (List.mem_of_getElem? (i := 5) rfl))) (g := (mkF m 19 #[.val (.int c1), .val (.int (own_dig c1)), .val (.long ((c1.toInt64) - (48 : Int64))), .second, .unset, .unset] [(.long ((c1.toInt64) - (48 : Int64)))])) rfl (hb hby at_19)) ?_
    show Go p e below _ _ T (mkF m 22 #[.val (.int c1), .val (.int (own_dig c1)), .val (.long ((c1.toInt64) - (48 : Int64))), .second, .unset, .unset] [(.long (10 : Int64)), (.long ((c1.toInt64) - (48 : Int64)))])
    refine Go.of (fun _ kq => XS.lcmp X.here hx rfl (hb hby at_22) rfl kq) ?_
    show Go p e below _ _ T (mkF m 23 #[.val (.int c1), .val (.int (own_dig c1)), .val (.long ((c1.toInt64) - (48 : Int64))), .second, .unset, .unset] [(.int (lcmpW ((c1.toInt64) - (48 : Int64)) (10 : Int64)))])
    by_cases hc23 : ((c1.toInt64) - (48 : Int64)) < (10 : Int64)
    · refine Go.of (fun _ kq => XS.ifNo X.here hx rfl (hb hby at_23) rfl (cZlt hc23).2 kq) ?_
      show Go p e below _ _ T (mkF m 26 #[.val (.int c1), .val (.int (own_dig c1)), .val (.long ((c1.toInt64) - (48 : Int64))), .second, .unset, .unset] [])
      refine Go.of (fun _ kq => XS.iconst X.here hx rfl (hb hby at_26) kq) ?_
      show Go p e below _ _ T (mkF m 27 #[.val (.int c1), .val (.int (own_dig c1)), .val (.long ((c1.toInt64) - (48 : Int64))), .second, .unset, .unset] [(.int (1 : Int32))])
      refine Go.of (fun _ kq => XS.goto X.here hx rfl (pc0 := 27) (pc' := 31) rfl (hb hby at_27) (by decide) (by decide) kq) ?_
      show Go p e below _ _ T (mkF m 31 #[.val (.int c1), .val (.int (own_dig c1)), .val (.long ((c1.toInt64) - (48 : Int64))), .second, .unset, .unset] [(.int (1 : Int32))])
      refine Go.of (fun _ kq => XS.istore X.here hx rfl (hb hby at_31) rfl (l' := #[.val (.int c1), .val (.int (own_dig c1)), .val (.long ((c1.toInt64) - (48 : Int64))), .second, .val (.int (1 : Int32)), .unset]) rfl kq) ?_
      show Go p e below _ _ T (mkF m 33 #[.val (.int c1), .val (.int (own_dig c1)), .val (.long ((c1.toInt64) - (48 : Int64))), .second, .val (.int (1 : Int32)), .unset] [])
      refine Go.of (fun _ kq => XS.iloadN X.here hx rfl (hb hby at_33) rfl kq) ?_
      show Go p e below _ _ T (mkF m 34 #[.val (.int c1), .val (.int (own_dig c1)), .val (.long ((c1.toInt64) - (48 : Int64))), .second, .val (.int (1 : Int32)), .unset] [(.int (own_dig c1))])
      refine Go.of (fun _ kq => XS.iload X.here hx rfl (hb hby at_34) rfl kq) ?_
      show Go p e below _ _ T (mkF m 36 #[.val (.int c1), .val (.int (own_dig c1)), .val (.long ((c1.toInt64) - (48 : Int64))), .second, .val (.int (1 : Int32)), .unset] [(.int (1 : Int32)), (.int (own_dig c1))])
      refine Go.of (fun _ kq => XS.icmpYes X.here hx rfl (pc0 := 36) (pc' := 41) rfl (hb hby at_36) rfl (teq (own_one hc15 hc23)).1 (by decide) (by decide) kq) ?_
      show Go p e below _ _ T (mkF m 41 #[.val (.int c1), .val (.int (own_dig c1)), .val (.long ((c1.toInt64) - (48 : Int64))), .second, .val (.int (1 : Int32)), .unset] [])
      refine Go.of (fun _ kq => XS.iload X.here hx rfl (hb hby at_41) rfl kq) ?_
      show Go p e below _ _ T (mkF m 43 #[.val (.int c1), .val (.int (own_dig c1)), .val (.long ((c1.toInt64) - (48 : Int64))), .second, .val (.int (1 : Int32)), .unset] [(.int (1 : Int32))])
      refine Go.of (fun _ kq => XS.ifNo X.here hx rfl (hb hby at_43) rfl ((if0 _ _).trans (feq (by decide)).1) kq) ?_
      show Go p e below _ _ T (mkF m 46 #[.val (.int c1), .val (.int (own_dig c1)), .val (.long ((c1.toInt64) - (48 : Int64))), .second, .val (.int (1 : Int32)), .unset] [])
      obtain ⟨b46, T, h, k1, sb, skc, X, eT, E, hS, hk, hZ, hown, E_b46, F_coder_b46, F_value_b46, A_sb, -, -, -, stq⟩ := RoadKit.ldcSV X hx hZ hown (hw _ (List.mem_of_getElem? (i := 6) rfl)) (own_wS hw) eT hS hk (show Fr Z.heap.size _ by rw [hh0, ← hn0]; exact N) (fun b cl q => q) IB.start (by simp) hh hcw (vs := _) (z := 10) ⟨by decide, rfl⟩ (by decide) (by decide) (g := (mkF m 46 #[.val (.int c1), .val (.int (own_dig c1)), .val (.long ((c1.toInt64) - (48 : Int64))), .second, .val (.int (1 : Int32)), .unset] [])) rfl (hb hby at_46) (n := 40) (by decide) (by decide) (by decide) (by decide)
      refine Go.of stq ?_
      have K := K.ext E
      have S_cs := S_cs.ext E
      have S_si := S_si.ext E
      have V_sb : AV Z h sb .byte 10 (fun j => .int (own_b j)) := (AV.of_arv A_sb).congr (fun j hj => by match j, hj with | 0, _ => rfl | 1, _ => rfl | 2, _ => rfl | 3, _ => rfl | 4, _ => rfl | 5, _ => rfl | 6, _ => rfl | 7, _ => rfl | 8, _ => rfl | 9, _ => rfl)
      show Go p e below _ _ T (mkF m 48 #[.val (.int c1), .val (.int (own_dig c1)), .val (.long ((c1.toInt64) - (48 : Int64))), .second, .val (.int (1 : Int32)), .unset] [(.ref b46)])
      refine Go.of (fun _ kq => XS.astore X.here hx rfl (hb hby at_48) rfl rfl (l' := #[.val (.int c1), .val (.int (own_dig c1)), .val (.long ((c1.toInt64) - (48 : Int64))), .second, .val (.int (1 : Int32)), .val (.ref b46)]) rfl kq) ?_
      show Go p e below _ _ T (mkF m 50 #[.val (.int c1), .val (.int (own_dig c1)), .val (.long ((c1.toInt64) - (48 : Int64))), .second, .val (.int (1 : Int32)), .val (.ref b46)] [])
      refine Go.of (fun _ kq => XS.aload X.here hx rfl (hb hby at_50) rfl rfl kq) ?_
      show Go p e below _ _ T (mkF m 52 #[.val (.int c1), .val (.int (own_dig c1)), .val (.long ((c1.toInt64) - (48 : Int64))), .second, .val (.int (1 : Int32)), .val (.ref b46)] [(.ref b46)])
      refine Go.of (fun _ kq => XS.lloadN X.here hx rfl (hb hby at_52) rfl kq) ?_
      show Go p e below _ _ T (mkF m 53 #[.val (.int c1), .val (.int (own_dig c1)), .val (.long ((c1.toInt64) - (48 : Int64))), .second, .val (.int (1 : Int32)), .val (.ref b46)] [(.long ((c1.toInt64) - (48 : Int64))), (.ref b46)])
      refine Go.of (fun _ kq => XS.l2i X.here hx rfl (hb hby at_53) rfl kq) ?_
      show Go p e below _ _ T (mkF m 54 #[.val (.int c1), .val (.int (own_dig c1)), .val (.long ((c1.toInt64) - (48 : Int64))), .second, .val (.int (1 : Int32)), .val (.ref b46)] [(.int (((c1.toInt64) - (48 : Int64)).toInt32)), (.ref b46)])
      refine Go.virtual (a := b46) X hx hZ hown (hw _ (List.mem_of_getElem? (i := 14) rfl)) (hw _ (List.mem_of_getElem? (i := 15) rfl)) (notFace_of_selects (args := #[]) (mvT hZ (hw _ (List.mem_of_getElem? (i := 17) rfl)))) (hw _ (List.mem_of_getElem? (i := 17) rfl)) (hw _ (List.mem_of_getElem? (i := 16) rfl)) (hw _ (List.mem_of_getElem? (i := 7) rfl)) (hw _ (List.mem_of_getElem? (i := 18) rfl)) (by decide) (rmCh hw b46 sb (((c1.toInt64) - (48 : Int64)).toInt32) zc fm _ n0 S_cs S_si E_b46 F_coder_b46 F_value_b46 V_sb hz rf (own_inb hc15 hc23).1 (own_inb hc15 hc23).2) eT E_b46 0 (by decide) (by decide) (by decide) (by decide) (by rw [hml]; rfl) (argsL := [(.int (((c1.toInt64) - (48 : Int64)).toInt32))]) [] (lenOf pd5 rfl) rfl rfl (Nat.le_of_eq rfl) (hb hby at_54) ?_
      intro v T L' X hQ
      obtain ⟨rfl, N', eT⟩ := hQ
      have N := Fr.app N N'
      show Go p e below _ _ T (mkF m 57 #[.val (.int c1), .val (.int (own_dig c1)), .val (.long ((c1.toInt64) - (48 : Int64))), .second, .val (.int (1 : Int32)), .val (.ref b46)] [(.int (nar .char (own_chr (((c1.toInt64) - (48 : Int64)).toInt32))))])
      refine Go.of (fun _ kq => XS.iloadN X.here hx rfl (hb hby at_57) rfl kq) ?_
      show Go p e below _ _ T (mkF m 58 #[.val (.int c1), .val (.int (own_dig c1)), .val (.long ((c1.toInt64) - (48 : Int64))), .second, .val (.int (1 : Int32)), .val (.ref b46)] [(.int c1), (.int (nar .char (own_chr (((c1.toInt64) - (48 : Int64)).toInt32))))])
      refine Go.of (fun _ kq => XS.i2c X.here hx rfl (hb hby at_58) rfl kq) ?_
      show Go p e below _ _ T (mkF m 59 #[.val (.int c1), .val (.int (own_dig c1)), .val (.long ((c1.toInt64) - (48 : Int64))), .second, .val (.int (1 : Int32)), .val (.ref b46)] [(.int (c1.toUInt32.toUInt16.toUInt32.toInt32)), (.int (nar .char (own_chr (((c1.toInt64) - (48 : Int64)).toInt32))))])
      refine Go.of (fun _ kq => XS.icmpNo X.here hx rfl (hb hby at_59) rfl (teq (own_last hc15 hc23)).2 kq) ?_
      show Go p e below _ _ T (mkF m 62 #[.val (.int c1), .val (.int (own_dig c1)), .val (.long ((c1.toInt64) - (48 : Int64))), .second, .val (.int (1 : Int32)), .val (.ref b46)] [])
      refine Go.of (fun _ kq => XS.iconst X.here hx rfl (hb hby at_62) kq) ?_
      show Go p e below _ _ T (mkF m 63 #[.val (.int c1), .val (.int (own_dig c1)), .val (.long ((c1.toInt64) - (48 : Int64))), .second, .val (.int (1 : Int32)), .val (.ref b46)] [(.int (1 : Int32))])
      refine Go.of (fun _ kq => XS.goto X.here hx rfl (pc0 := 63) (pc' := 67) rfl (hb hby at_63) (by decide) (by decide) kq) ?_
      show Go p e below _ _ T (mkF m 67 #[.val (.int c1), .val (.int (own_dig c1)), .val (.long ((c1.toInt64) - (48 : Int64))), .second, .val (.int (1 : Int32)), .val (.ref b46)] [(.int (1 : Int32))])
      refine Go.retN X hx hret (by simp) hlk (hb hby at_67) (fun _ _ q e_ => own_finW hS (by rw [e_, eT]; exact hk) q (by decide) (by decide)) ?_
      try rw [eT]
      exact ⟨rfl, N⟩
    · refine Go.of (fun _ kq => XS.ifYes X.here hx rfl (pc0 := 23) (pc' := 30) rfl (hb hby at_23) rfl (cFlt hc23).2 (by decide) (by decide) kq) ?_
      show Go p e below _ _ T (mkF m 30 #[.val (.int c1), .val (.int (own_dig c1)), .val (.long ((c1.toInt64) - (48 : Int64))), .second, .unset, .unset] [])
      refine Go.of (fun _ kq => XS.iconst X.here hx rfl (hb hby at_30) kq) ?_
      show Go p e below _ _ T (mkF m 31 #[.val (.int c1), .val (.int (own_dig c1)), .val (.long ((c1.toInt64) - (48 : Int64))), .second, .unset, .unset] [(.int (0 : Int32))])
      refine Go.of (fun _ kq => XS.istore X.here hx rfl (hb hby at_31) rfl (l' := #[.val (.int c1), .val (.int (own_dig c1)), .val (.long ((c1.toInt64) - (48 : Int64))), .second, .val (.int (0 : Int32)), .unset]) rfl kq) ?_
      show Go p e below _ _ T (mkF m 33 #[.val (.int c1), .val (.int (own_dig c1)), .val (.long ((c1.toInt64) - (48 : Int64))), .second, .val (.int (0 : Int32)), .unset] [])
      refine Go.of (fun _ kq => XS.iloadN X.here hx rfl (hb hby at_33) rfl kq) ?_
      show Go p e below _ _ T (mkF m 34 #[.val (.int c1), .val (.int (own_dig c1)), .val (.long ((c1.toInt64) - (48 : Int64))), .second, .val (.int (0 : Int32)), .unset] [(.int (own_dig c1))])
      refine Go.of (fun _ kq => XS.iload X.here hx rfl (hb hby at_34) rfl kq) ?_
      show Go p e below _ _ T (mkF m 36 #[.val (.int c1), .val (.int (own_dig c1)), .val (.long ((c1.toInt64) - (48 : Int64))), .second, .val (.int (0 : Int32)), .unset] [(.int (0 : Int32)), (.int (own_dig c1))])
      refine Go.of (fun _ kq => XS.icmpYes X.here hx rfl (pc0 := 36) (pc' := 41) rfl (hb hby at_36) rfl (teq (own_ge hc23)).1 (by decide) (by decide) kq) ?_
      show Go p e below _ _ T (mkF m 41 #[.val (.int c1), .val (.int (own_dig c1)), .val (.long ((c1.toInt64) - (48 : Int64))), .second, .val (.int (0 : Int32)), .unset] [])
      refine Go.of (fun _ kq => XS.iload X.here hx rfl (hb hby at_41) rfl kq) ?_
      show Go p e below _ _ T (mkF m 43 #[.val (.int c1), .val (.int (own_dig c1)), .val (.long ((c1.toInt64) - (48 : Int64))), .second, .val (.int (0 : Int32)), .unset] [(.int (0 : Int32))])
      refine Go.of (fun _ kq => XS.ifYes X.here hx rfl (pc0 := 43) (pc' := 68) rfl (hb hby at_43) rfl ((if0 _ _).trans (teq (by decide)).1) (by decide) (by decide) kq) ?_
      show Go p e below _ _ T (mkF m 68 #[.val (.int c1), .val (.int (own_dig c1)), .val (.long ((c1.toInt64) - (48 : Int64))), .second, .val (.int (0 : Int32)), .unset] [])
      refine Go.of (fun _ kq => XS.iconst X.here hx rfl (hb hby at_68) kq) ?_
      show Go p e below _ _ T (mkF m 69 #[.val (.int c1), .val (.int (own_dig c1)), .val (.long ((c1.toInt64) - (48 : Int64))), .second, .val (.int (0 : Int32)), .unset] [(.int (1 : Int32))])
      refine Go.retN X hx hret (by simp) hlk (hb hby at_69) (fun _ _ q e_ => own_finW hS (by rw [e_, eT]; exact hk) q (by decide) (by decide)) ?_
      try rw [eT]
      exact ⟨rfl, N⟩
set_option maxRecDepth 65536 in
set_option maxHeartbeats 40000000 in
theorem comes_1 {Post : Tables → Env → Array Value → State → Outcome → State → Prop} (hpost : ∀ tb e args s v u, (limb_1_1.after args s (.returned v) u = true ∧ limb_1_2.after args s (.returned v) u = true ∧ True) → ReturnedEndW s (.returned v) u (Jvm.fieldLocs frame_1_writes args s ++ Jvm.arrayLocs frame_1_arrays args s ++ Jvm.staticLocs frame_1_statics s) 8 1088 → Post tb e args s (.returned v) u) :
    ArmFor flags0 classFile x code maxLocals ret World_1 tables_1 room_1 Calls_1 rest_1 Pre_1 Post := by
  intro l hfl _ _ p e ha hc hk s m args below hf hA hF happ hP
  obtain ⟨hcalls, hrest, hpre⟩ := hP
  obtain ⟨-, -, -, hnamed, -, -, -, hat⟩ := (Spec.applies_iff hf).mp happ
  obtain ⟨hg, hn⟩ := and_e (Cond.before_iff.mp (show (Jvm.Cond.and given_1 narrow_1).before args s = true from hpre))
  obtain ⟨gc, g0⟩ := and_e hg
  obtain ⟨w0, rfl⟩ : ∃ w0 : Value, args = #[w0] := by
    have hs : args.size = 1 := by simpa [Cond.value, given_1] using gc
    obtain ⟨L⟩ := args
    match L, hs with
    | [w0], _ => exact ⟨w0, rfl⟩
  have hw := fun d (hd : d ∈ tables_1) => atoms_spec (ws := Jvm.Cond.code x code maxLocals ret :: tables_1) hat d (List.mem_cons_of_mem _ hd)
  obtain ⟨hsets, hown0⟩ := atoms_of _ (rest_1_c_eq ▸ (show rest_1_c.before _ s = true from hrest))
  obtain ⟨i0, ei0⟩ := is_v g0
  obtain rfl : w0 = (.int i0) := Option.some.inj ei0
  obtain ⟨zc, ezc⟩ := is_v (Cond.before_iff.mp (hsets _ (List.mem_of_getElem? (i := 1) rfl)))
  have S12 : Sta s s.heap "java/lang/String" "COMPACT_STRINGS" "Z" (.int zc) := Sta.start ezc (Or.inl (hsets _ (List.mem_of_getElem? (i := 0) rfl)))
  obtain ⟨fm, efm, rfm⟩ := isR_v (Cond.before_iff.mp (hsets _ (List.mem_of_getElem? (i := 8) rfl)))
  have S16 : Sta s s.heap "jdk/internal/util/Preconditions" "SIOOBE_FORMATTER" "Ljava/util/function/BiFunction;" fm := Sta.start efm (Or.inl (hsets _ (List.mem_of_getElem? (i := 7) rfl)))
  have c17 : ¬ (zc = (0 : Int32)) := gotF (Cond.eq_ints ezc (Term.int_eval (0))) (not_v (Cond.before_iff.mp (hsets _ (List.mem_of_getElem? (i := 2) rfl))))
  obtain ⟨n, o, h1, h2, h3, _, L, rfl, ⟨rfl, N⟩, hq⟩ := rm0 (l := l) (Z := s) hw i0 zc fm s.heap s.heap.size rfl rfl (Nat.le_refl _) S12 S16 c17 rfm (hcalls.1 ("com/example/text_to_shapes/texttoshapes/idl/SourceReaderIsDigitPinLaw", 17) (by simp [consts_1])) (hsets _ (List.mem_of_getElem? (i := 2) rfl)) p e ha hc hk s m _ below hf ((Spec.applies_iff_loose hf).mp happ).1 ⟨rfl, rfl⟩ trivial
  refine ⟨n, _, h1, h2, h3, hpost _ _ _ _ _ _ ⟨Cond.after_iff.mpr rfl, Cond.after_iff.mpr (eq_i res_at (Term.int_eval (1)) rfl), trivial⟩ ⟨hq.1, hq.2.1, hq.2.2.1, (hq.2.2.2.sift fun y hy => Or.inr (N y hy)).mono (by decide) (by decide)⟩⟩
theorem main_1_1 : Claimed_1_1 := comes_1 fun _ _ _ _ _ _ h hF => ⟨h.1, hF⟩
theorem main_1_2 : Claimed_1_2 := comes_1 fun _ _ _ _ _ _ h hF => ⟨h.2.1, hF⟩
end Jvm.Pilot.@@N@@
namespace Jvm.Pilot.@@N@@
open Jvm Jvm.ClassFile Sem Op Lib Jvm.Free Jvm.Stand Jvm.Pilot.@@N@@.Jvm.D
/-! MADE BY PROGRAM (witnessworld.py) out of the Statement's table words and the real class files: 17 classes; the members and pool entries that the words name. The judged class is class 1, her method 1. -/
namespace start1
open Jvm.ClassFile
def u (s : String) : CpInfo := .utf8 (stringToUtf16 s)
/-- a pool by its gaps: so many unusable entries, then the entry; so many at the end -/
def gap : Nat → List CpInfo → List CpInfo
  | 0, r => r
  | n + 1, r => .unusable :: gap n r
def poolList (es : List (Nat × CpInfo)) (last : Nat) : List CpInfo := es.foldr (fun e r => gap e.1 (e.2 :: r)) (gap last [])
def pool (es : List (Nat × CpInfo)) (last : Nat) : Array CpInfo := ⟨poolList es last⟩
def fileOf (pool : Array CpInfo) (this : Nat) (attrs : Array Attribute := #[]) (ms : Array MethodInfo := #[]) (fl : Nat := 33) (sup : Nat := 0) (ifs : Array Nat := #[]) (fds : Array FieldInfo := #[]) : ClassFile where
  minorVersion := 0
  majorVersion := 65
  constantPool := pool
  accessFlags := fl
  thisClass := this
  superClass := sup
  interfaces := ifs
  fields := fds
  methods := ms
  attributes := attrs
def plain (name : String) (sup : Option ClassId) : Class where
  name := name
  kind := .ordinary
  loader := none
  accessFlags := 33
  super := sup
  interfaces := #[]
  cf := none
  fields := #[]
  methods := #[]
  instanceTypes := #[]
  staticTypes := #[]
  resolved := #[]
  callSites := []
  init := .initialized
  statics := none
  mirror := none

def pool0 : Array CpInfo := pool [(5, u "<init>"), (0, u "()V"), (1, .class_ 10), (1, u "java/lang/Object")] 113

def k0m0 : Method := { name := "<init>", desc := "()V", sig := { parameters := [], returnType := none }, accessFlags := 1, code := none }
/-- java/lang/Object -/
def k0 : Class := { plain "java/lang/Object" none with
  accessFlags := 33
  interfaces := #[]
  cf := some (fileOf pool0 8 #[] #[{ accessFlags := 1, nameIndex := 5, descriptorIndex := 6, attributes := #[] }] 33 0 #[] #[])
  fields := #[]
  methods := #[k0m0]
  instanceTypes := #[]
  staticTypes := #[]
  resolved := Array.replicate 124 none
  statics := none }

def pool1 : Array CpInfo := pool [(2, .class_ 4), (1, u "java/lang/Object"), (0, u "<init>"), (0, u "()V"), (0, .methodref 8 9), (0, .class_ 10), (0, .nameAndType 11 12), (0, u "com/example/text_to_shapes/texttoshapes/idl/SourceReader"), (0, u "isDigit"), (0, u "(I)Z"), (0, .long 48), (1, .long 10), (1, .string 18), (0, u "0123456789"), (0, .methodref 20 21), (0, .class_ 22), (0, .nameAndType 23 24), (0, u "java/lang/String"), (0, u "charAt"), (0, u "(I)C"), (0, .class_ 26), (0, u "com/example/text_to_shapes/texttoshapes/idl/SourceReaderIsDigitPinLaw"), (2, u "law")] 3

def k1m0 : Method := { name := "<init>", desc := "()V", sig := { parameters := [], returnType := none }, accessFlags := 1, code := none }
def k1c1 : Code := { maxStack := 4, maxLocals := 6, code := code, exceptionTable := #[], attributes := #[] }
def k1m1 : Method := { name := "law", desc := "(I)Z", sig := { parameters := [.int], returnType := some .boolean }, accessFlags := 9, code := some k1c1 }
/-- com/example/text_to_shapes/texttoshapes/idl/SourceReaderIsDigitPinLaw -/
def k1 : Class := { plain "com/example/text_to_shapes/texttoshapes/idl/SourceReaderIsDigitPinLaw" (some 0) with
  accessFlags := 49
  interfaces := #[]
  cf := some (fileOf pool1 25 #[] #[{ accessFlags := 1, nameIndex := 5, descriptorIndex := 6, attributes := #[] }, { accessFlags := 9, nameIndex := 29, descriptorIndex := 12, attributes := #[] }] 49 2 #[] #[])
  fields := #[]
  methods := #[k1m0, k1m1]
  instanceTypes := #[]
  staticTypes := #[]
  resolved := Array.replicate 33 none
  statics := none }

def pool2 : Array CpInfo := pool [(20, .class_ 22), (1, u "com/example/text_to_shapes/texttoshapes/idl/SourceReader"), (2, .class_ 26), (0, u "java/lang/Object"), (2, u "line"), (0, u "I"), (2, u "documentationBounds"), (0, u "[I"), (2, u "countedLineStart"), (2, u "path"), (0, u "Ljava/lang/String;"), (2, u "text"), (0, u "[C"), (2, u "textLength"), (2, u "names"), (0, u "Lcom/example/text_to_shapes/texttoshapes/idl/Names;"), (0, .class_ 54), (0, u "com/example/text_to_shapes/texttoshapes/idl/SourceReader$Mark"), (2, u "offset"), (2, u "lineStart"), (29, u "countedOffset"), (2, u "countedCodePoints"), (47, u "(I)Z"), (31, u "documentationLines"), (41, u "IDENTIFIER_PARTS"), (0, u "[Z"), (27, u "NAMESPACE_PARTS"), (8, u "SHAPE_ID_PARTS"), (80, .class_ 335), (0, u "com/example/text_to_shapes/texttoshapes/idl/SourceReader$Line"), (18, u "isDigit"), (124, u "END"), (2, u "TEXT_BLOCK"), (0, u "TOO_DEEP"), (2, u "ESCAPED"), (0, u "EXPANDED"), (0, u "HEX_DIGITS"), (0, u "IDENTIFIER"), (1, u "NAMESPACE"), (1, u "SHAPE_ID")] 94

def k2c0 : Code := { maxStack := 2, maxLocals := 1, code := prog_36_method_36_code, exceptionTable := #[], attributes := #[] }
def k2m0 : Method := { name := "isDigit", desc := "(I)Z", sig := { parameters := [.int], returnType := some .boolean }, accessFlags := 8, code := some k2c0 }
/-- com/example/text_to_shapes/texttoshapes/idl/SourceReader -/
def k2 : Class := { plain "com/example/text_to_shapes/texttoshapes/idl/SourceReader" (some 0) with
  accessFlags := 32
  interfaces := #[]
  cf := some (fileOf pool2 20 #[.nestMembers #[334, 53]] #[{ accessFlags := 8, nameIndex := 354, descriptorIndex := 141, attributes := #[] }] 32 25 #[] #[{ accessFlags := 24, nameIndex := 479, descriptorIndex := 30, attributes := #[] }, { accessFlags := 24, nameIndex := 482, descriptorIndex := 41, attributes := #[] }, { accessFlags := 24, nameIndex := 483, descriptorIndex := 41, attributes := #[] }, { accessFlags := 26, nameIndex := 486, descriptorIndex := 41, attributes := #[] }, { accessFlags := 26, nameIndex := 487, descriptorIndex := 41, attributes := #[] }, { accessFlags := 26, nameIndex := 488, descriptorIndex := 41, attributes := #[] }, { accessFlags := 26, nameIndex := 215, descriptorIndex := 216, attributes := #[] }, { accessFlags := 26, nameIndex := 244, descriptorIndex := 216, attributes := #[] }, { accessFlags := 26, nameIndex := 253, descriptorIndex := 216, attributes := #[] }, { accessFlags := 26, nameIndex := 489, descriptorIndex := 30, attributes := #[] }, { accessFlags := 26, nameIndex := 491, descriptorIndex := 30, attributes := #[] }, { accessFlags := 26, nameIndex := 493, descriptorIndex := 30, attributes := #[] }, { accessFlags := 18, nameIndex := 40, descriptorIndex := 41, attributes := #[] }, { accessFlags := 18, nameIndex := 44, descriptorIndex := 45, attributes := #[] }, { accessFlags := 18, nameIndex := 48, descriptorIndex := 30, attributes := #[] }, { accessFlags := 18, nameIndex := 51, descriptorIndex := 52, attributes := #[] }, { accessFlags := 2, nameIndex := 57, descriptorIndex := 30, attributes := #[] }, { accessFlags := 2, nameIndex := 29, descriptorIndex := 30, attributes := #[] }, { accessFlags := 2, nameIndex := 60, descriptorIndex := 30, attributes := #[] }, { accessFlags := 2, nameIndex := 33, descriptorIndex := 34, attributes := #[] }, { accessFlags := 2, nameIndex := 173, descriptorIndex := 30, attributes := #[] }, { accessFlags := 2, nameIndex := 37, descriptorIndex := 30, attributes := #[] }, { accessFlags := 2, nameIndex := 90, descriptorIndex := 30, attributes := #[] }, { accessFlags := 2, nameIndex := 93, descriptorIndex := 30, attributes := #[] }])
  fields := #[{ name := "END", type := .int, accessFlags := 24, slot := 0, constantValue := 0 }, { name := "TEXT_BLOCK", type := (.object "java/lang/String"), accessFlags := 24, slot := 1, constantValue := 0 }, { name := "TOO_DEEP", type := (.object "java/lang/String"), accessFlags := 24, slot := 2, constantValue := 0 }, { name := "ESCAPED", type := (.object "java/lang/String"), accessFlags := 26, slot := 3, constantValue := 0 }, { name := "EXPANDED", type := (.object "java/lang/String"), accessFlags := 26, slot := 4, constantValue := 0 }, { name := "HEX_DIGITS", type := (.object "java/lang/String"), accessFlags := 26, slot := 5, constantValue := 0 }, { name := "IDENTIFIER_PARTS", type := (.array .boolean), accessFlags := 26, slot := 6, constantValue := 0 }, { name := "NAMESPACE_PARTS", type := (.array .boolean), accessFlags := 26, slot := 7, constantValue := 0 }, { name := "SHAPE_ID_PARTS", type := (.array .boolean), accessFlags := 26, slot := 8, constantValue := 0 }, { name := "IDENTIFIER", type := .int, accessFlags := 26, slot := 9, constantValue := 0 }, { name := "NAMESPACE", type := .int, accessFlags := 26, slot := 10, constantValue := 0 }, { name := "SHAPE_ID", type := .int, accessFlags := 26, slot := 11, constantValue := 0 }, { name := "path", type := (.object "java/lang/String"), accessFlags := 18, slot := 0, constantValue := 0 }, { name := "text", type := (.array .char), accessFlags := 18, slot := 1, constantValue := 0 }, { name := "textLength", type := .int, accessFlags := 18, slot := 2, constantValue := 0 }, { name := "names", type := (.object "com/example/text_to_shapes/texttoshapes/idl/Names"), accessFlags := 18, slot := 3, constantValue := 0 }, { name := "offset", type := .int, accessFlags := 2, slot := 4, constantValue := 0 }, { name := "line", type := .int, accessFlags := 2, slot := 5, constantValue := 0 }, { name := "lineStart", type := .int, accessFlags := 2, slot := 6, constantValue := 0 }, { name := "documentationBounds", type := (.array .int), accessFlags := 2, slot := 7, constantValue := 0 }, { name := "documentationLines", type := .int, accessFlags := 2, slot := 8, constantValue := 0 }, { name := "countedLineStart", type := .int, accessFlags := 2, slot := 9, constantValue := 0 }, { name := "countedOffset", type := .int, accessFlags := 2, slot := 10, constantValue := 0 }, { name := "countedCodePoints", type := .int, accessFlags := 2, slot := 11, constantValue := 0 }]
  methods := #[k2m0]
  instanceTypes := #[(.object "java/lang/String"), (.array .char), .int, (.object "com/example/text_to_shapes/texttoshapes/idl/Names"), .int, .int, .int, (.array .int), .int, .int, .int, .int]
  staticTypes := #[.int, (.object "java/lang/String"), (.object "java/lang/String"), (.object "java/lang/String"), (.object "java/lang/String"), (.object "java/lang/String"), (.array .boolean), (.array .boolean), (.array .boolean), .int, .int, .int]
  resolved := Array.replicate 588 none
  statics := none }

def pool3 : Array CpInfo := pool [(1, .class_ 2), (0, u "java/io/Serializable"), (0, .class_ 4), (0, u "java/lang/Object")] 2

/-- java/io/Serializable -/
def k3 : Class := { plain "java/io/Serializable" (some 0) with
  accessFlags := 1537
  interfaces := #[]
  cf := some (fileOf pool3 1 #[] #[] 1537 3 #[] #[])
  fields := #[]
  methods := #[]
  instanceTypes := #[]
  staticTypes := #[]
  resolved := Array.replicate 7 none
  statics := none }

def pool4 : Array CpInfo := pool [(1, .class_ 2), (0, u "java/lang/Comparable"), (0, .class_ 4), (0, u "java/lang/Object")] 7

/-- java/lang/Comparable -/
def k4 : Class := { plain "java/lang/Comparable" (some 0) with
  accessFlags := 1537
  interfaces := #[]
  cf := some (fileOf pool4 1 #[] #[] 1537 3 #[] #[])
  fields := #[]
  methods := #[]
  instanceTypes := #[]
  staticTypes := #[]
  resolved := Array.replicate 12 none
  statics := none }

def pool5 : Array CpInfo := pool [(2, .class_ 4), (1, u "java/lang/CharSequence"), (42, .class_ 48), (0, u "java/lang/CharSequence$1CodePointIterator"), (10, .class_ 60), (0, u "java/lang/CharSequence$1CharIterator"), (5, .class_ 67), (0, u "java/lang/Object")] 63

/-- java/lang/CharSequence -/
def k5 : Class := { plain "java/lang/CharSequence" (some 0) with
  accessFlags := 1537
  interfaces := #[]
  cf := some (fileOf pool5 2 #[.nestMembers #[47, 59]] #[] 1537 66 #[] #[])
  fields := #[]
  methods := #[]
  instanceTypes := #[]
  staticTypes := #[]
  resolved := Array.replicate 131 none
  statics := none }

def pool6 : Array CpInfo := pool [(1, .class_ 2), (0, u "java/lang/constant/Constable"), (0, .class_ 4), (0, u "java/lang/Object")] 6

/-- java/lang/constant/Constable -/
def k6 : Class := { plain "java/lang/constant/Constable" (some 0) with
  accessFlags := 1537
  interfaces := #[]
  cf := some (fileOf pool6 1 #[] #[] 1537 3 #[] #[])
  fields := #[]
  methods := #[]
  instanceTypes := #[]
  staticTypes := #[]
  resolved := Array.replicate 11 none
  statics := none }

def pool7 : Array CpInfo := pool [(1, .class_ 2), (0, u "java/lang/constant/ConstantDesc"), (0, .class_ 4), (0, u "java/lang/Object")] 32

/-- java/lang/constant/ConstantDesc -/
def k7 : Class := { plain "java/lang/constant/ConstantDesc" (some 0) with
  accessFlags := 1537
  interfaces := #[]
  cf := some (fileOf pool7 1 #[] #[] 1537 3 #[] #[])
  fields := #[]
  methods := #[]
  instanceTypes := #[]
  staticTypes := #[]
  resolved := Array.replicate 37 none
  statics := none }

def pool8 : Array CpInfo := pool [(2, .class_ 4), (1, u "java/lang/Object"), (0, u "<init>"), (0, u "()V"), (2, .fieldref 10 11), (0, .class_ 12), (0, .nameAndType 13 14), (0, u "java/lang/String"), (0, u "value"), (0, u "[B"), (0, .fieldref 10 16), (0, .nameAndType 17 18), (0, u "coder"), (0, u "B"), (2, u "hash"), (0, u "I"), (2, u "hashIsZero"), (0, u "Z"), (11, .fieldref 10 39), (0, .nameAndType 40 26), (0, u "COMPACT_STRINGS"), (66, .class_ 109), (1, u "java/lang/StringLatin1"), (32, u "()Z"), (220, u "([BI)C"), (27, u "(II)V"), (35, u "(I)C"), (64, .methodref 10 493), (0, .nameAndType 494 142), (0, u "isLatin1"), (0, .methodref 107 496), (0, .nameAndType 497 363), (0, u "charAt"), (3, u "checkIndex"), (73, .class_ 576), (0, u "java/lang/CharSequence"), (22, u "CASE_INSENSITIVE_ORDER"), (0, u "Ljava/util/Comparator;"), (452, .fieldref 1054 1055), (0, .class_ 1056), (0, .nameAndType 1057 1058), (0, u "jdk/internal/util/Preconditions"), (0, u "SIOOBE_FORMATTER"), (0, u "Ljava/util/function/BiFunction;"), (0, .methodref 1054 1060), (0, .nameAndType 501 1061), (0, u "(IILjava/util/function/BiFunction;)I"), (39, u "serialPersistentFields"), (0, u "[Ljava/io/ObjectStreamField;"), (0, .class_ 1104), (0, u "java/lang/String$CaseInsensitiveComparator"), (1, .class_ 1107), (0, u "java/io/Serializable"), (0, .class_ 1109), (0, u "java/lang/Comparable"), (0, .class_ 1111), (0, u "java/lang/constant/Constable"), (0, .class_ 1113), (0, u "java/lang/constant/ConstantDesc"), (2, u "serialVersionUID"), (0, u "J"), (3, u "REPL"), (0, u "C"), (2, u "LATIN1"), (1, u "UTF16")] 323

def k8m0 : Method := { name := "<init>", desc := "()V", sig := { parameters := [], returnType := none }, accessFlags := 1, code := none }
def k8c1 : Code := { maxStack := 2, maxLocals := 2, code := jdk_42_method_56_code, exceptionTable := #[], attributes := #[] }
def k8m1 : Method := { name := "charAt", desc := "(I)C", sig := { parameters := [.int], returnType := some .char }, accessFlags := 1, code := some k8c1 }
def k8c2 : Code := { maxStack := 1, maxLocals := 1, code := jdk_42_method_154_code, exceptionTable := #[], attributes := #[] }
def k8m2 : Method := { name := "isLatin1", desc := "()Z", sig := { parameters := [], returnType := some .boolean }, accessFlags := 0, code := some k8c2 }
def k8c3 : Code := { maxStack := 3, maxLocals := 2, code := jdk_42_method_155_code, exceptionTable := #[], attributes := #[] }
def k8m3 : Method := { name := "checkIndex", desc := "(II)V", sig := { parameters := [.int, .int], returnType := none }, accessFlags := 8, code := some k8c3 }
/-- java/lang/String -/
def k8 : Class := { plain "java/lang/String" (some 0) with
  accessFlags := 49
  interfaces := #[3, 4, 5, 6, 7]
  cf := some (fileOf pool8 10 #[.nestMembers #[1103]] #[{ accessFlags := 1, nameIndex := 5, descriptorIndex := 6, attributes := #[] }, { accessFlags := 1, nameIndex := 497, descriptorIndex := 427, attributes := #[] }, { accessFlags := 0, nameIndex := 494, descriptorIndex := 142, attributes := #[] }, { accessFlags := 8, nameIndex := 501, descriptorIndex := 391, attributes := #[] }] 49 2 #[1106, 1108, 575, 1110, 1112] #[{ accessFlags := 18, nameIndex := 13, descriptorIndex := 14, attributes := #[] }, { accessFlags := 18, nameIndex := 17, descriptorIndex := 18, attributes := #[] }, { accessFlags := 2, nameIndex := 21, descriptorIndex := 22, attributes := #[] }, { accessFlags := 2, nameIndex := 25, descriptorIndex := 26, attributes := #[] }, { accessFlags := 26, nameIndex := 1116, descriptorIndex := 1117, attributes := #[] }, { accessFlags := 24, nameIndex := 40, descriptorIndex := 26, attributes := #[] }, { accessFlags := 26, nameIndex := 1101, descriptorIndex := 1102, attributes := #[] }, { accessFlags := 26, nameIndex := 1121, descriptorIndex := 1122, attributes := #[] }, { accessFlags := 25, nameIndex := 599, descriptorIndex := 600, attributes := #[] }, { accessFlags := 24, nameIndex := 1125, descriptorIndex := 18, attributes := #[] }, { accessFlags := 24, nameIndex := 1127, descriptorIndex := 18, attributes := #[] }])
  fields := #[{ name := "value", type := (.array .byte), accessFlags := 18, slot := 0, constantValue := 0 }, { name := "coder", type := .byte, accessFlags := 18, slot := 1, constantValue := 0 }, { name := "hash", type := .int, accessFlags := 2, slot := 2, constantValue := 0 }, { name := "hashIsZero", type := .boolean, accessFlags := 2, slot := 3, constantValue := 0 }, { name := "serialVersionUID", type := .long, accessFlags := 26, slot := 0, constantValue := 0 }, { name := "COMPACT_STRINGS", type := .boolean, accessFlags := 24, slot := 1, constantValue := 0 }, { name := "serialPersistentFields", type := (.array (.object "java/io/ObjectStreamField")), accessFlags := 26, slot := 2, constantValue := 0 }, { name := "REPL", type := .char, accessFlags := 26, slot := 3, constantValue := 0 }, { name := "CASE_INSENSITIVE_ORDER", type := (.object "java/util/Comparator"), accessFlags := 25, slot := 4, constantValue := 0 }, { name := "LATIN1", type := .byte, accessFlags := 24, slot := 5, constantValue := 0 }, { name := "UTF16", type := .byte, accessFlags := 24, slot := 6, constantValue := 0 }]
  methods := #[k8m0, k8m1, k8m2, k8m3]
  instanceTypes := #[(.array .byte), .byte, .int, .boolean]
  staticTypes := #[.long, .boolean, (.array (.object "java/io/ObjectStreamField")), .char, (.object "java/util/Comparator"), .byte, .byte]
  resolved := Array.replicate 1451 none
  statics := some 0 }

def pool9 : Array CpInfo := pool [(1, .class_ 2), (0, u "java/lang/String"), (1, .class_ 6), (1, u "java/lang/Object"), (0, u "<init>"), (0, u "()V"), (0, .methodref 1 10), (0, .nameAndType 11 12), (0, u "checkIndex"), (0, u "(II)V"), (1, .class_ 16), (1, u "java/lang/StringLatin1"), (36, u "([BI)C"), (67, u "$assertionsDisabled"), (0, u "Z"), (98, .class_ 223), (1, u "java/lang/StringLatin1$LinesSpliterator"), (28, u "charAt"), (137, .class_ 391), (0, u "java/lang/StringLatin1$CharsSpliterator")] 3

def k9m0 : Method := { name := "<init>", desc := "()V", sig := { parameters := [], returnType := none }, accessFlags := 0, code := none }
def k9c1 : Code := { maxStack := 2, maxLocals := 2, code := jdk_43_method_2_code, exceptionTable := #[], attributes := #[] }
def k9m1 : Method := { name := "charAt", desc := "([BI)C", sig := { parameters := [(.array .byte), .int], returnType := some .char }, accessFlags := 9, code := some k9c1 }
/-- java/lang/StringLatin1 -/
def k9 : Class := { plain "java/lang/StringLatin1" (some 0) with
  accessFlags := 48
  interfaces := #[]
  cf := some (fileOf pool9 14 #[.nestMembers #[390, 221]] #[{ accessFlags := 0, nameIndex := 7, descriptorIndex := 8, attributes := #[] }, { accessFlags := 9, nameIndex := 252, descriptorIndex := 53, attributes := #[] }] 48 4 #[] #[{ accessFlags := 4120, nameIndex := 121, descriptorIndex := 122, attributes := #[] }])
  fields := #[{ name := "$assertionsDisabled", type := .boolean, accessFlags := 4120, slot := 0, constantValue := 0 }]
  methods := #[k9m0, k9m1]
  instanceTypes := #[]
  staticTypes := #[.boolean]
  resolved := Array.replicate 395 none
  statics := none }

def pool10 : Array CpInfo := pool [(2, .class_ 4), (1, u "java/lang/Object"), (0, u "<init>"), (0, u "()V"), (17, .class_ 26), (1, u "jdk/internal/util/Preconditions"), (6, u "checkIndex"), (21, .class_ 56), (0, u "jdk/internal/util/Preconditions$4"), (57, .class_ 115), (0, u "jdk/internal/util/Preconditions$1"), (7, u "SIOOBE_FORMATTER"), (0, u "Ljava/util/function/BiFunction;"), (0, .class_ 126), (0, u "jdk/internal/util/Preconditions$2"), (3, u "AIOOBE_FORMATTER"), (0, .class_ 132), (0, u "jdk/internal/util/Preconditions$3"), (3, u "IOOBE_FORMATTER"), (41, u "(IILjava/util/function/BiFunction;)I")] 15

def k10m0 : Method := { name := "<init>", desc := "()V", sig := { parameters := [], returnType := none }, accessFlags := 1, code := none }
def k10c1 : Code := { maxStack := 3, maxLocals := 3, code := jdk_41_method_11_code, exceptionTable := #[], attributes := #[] }
def k10m1 : Method := { name := "checkIndex", desc := "(IILjava/util/function/BiFunction;)I", sig := { parameters := [.int, .int, (.object "java/util/function/BiFunction")], returnType := some .int }, accessFlags := 9, code := some k10c1 }
/-- jdk/internal/util/Preconditions -/
def k10 : Class := { plain "jdk/internal/util/Preconditions" (some 0) with
  accessFlags := 33
  interfaces := #[]
  cf := some (fileOf pool10 24 #[.nestMembers #[55, 131, 125, 114]] #[{ accessFlags := 1, nameIndex := 5, descriptorIndex := 6, attributes := #[] }, { accessFlags := 9, nameIndex := 33, descriptorIndex := 178, attributes := #[] }] 33 2 #[] #[{ accessFlags := 25, nameIndex := 123, descriptorIndex := 124, attributes := #[] }, { accessFlags := 25, nameIndex := 130, descriptorIndex := 124, attributes := #[] }, { accessFlags := 25, nameIndex := 136, descriptorIndex := 124, attributes := #[] }])
  fields := #[{ name := "SIOOBE_FORMATTER", type := (.object "java/util/function/BiFunction"), accessFlags := 25, slot := 0, constantValue := 0 }, { name := "AIOOBE_FORMATTER", type := (.object "java/util/function/BiFunction"), accessFlags := 25, slot := 1, constantValue := 0 }, { name := "IOOBE_FORMATTER", type := (.object "java/util/function/BiFunction"), accessFlags := 25, slot := 2, constantValue := 0 }]
  methods := #[k10m0, k10m1]
  instanceTypes := #[]
  staticTypes := #[(.object "java/util/function/BiFunction"), (.object "java/util/function/BiFunction"), (.object "java/util/function/BiFunction")]
  resolved := Array.replicate 194 none
  statics := some 1 }

def pool11 : Array CpInfo := pool [(9, u "<init>"), (6, .class_ 18), (1, u "java/lang/Object"), (0, u "()V"), (1, .class_ 23), (1, u "jdk/internal/util/ArraysSupport"), (0, u "LOG2_ARRAY_LONG_INDEX_SCALE"), (0, u "I"), (2, u "U"), (0, u "Ljdk/internal/misc/Unsafe;"), (8, u "BIG_ENDIAN"), (0, u "Z"), (8, u "LOG2_BYTE_BIT_SIZE"), (4, u "LOG2_ARRAY_INT_INDEX_SCALE"), (54, u "JLA"), (0, u "Ljdk/internal/access/JavaLangAccess;"), (11, u "LOG2_ARRAY_BOOLEAN_INDEX_SCALE"), (9, u "LOG2_ARRAY_BYTE_INDEX_SCALE"), (5, u "LOG2_ARRAY_CHAR_INDEX_SCALE"), (5, u "LOG2_ARRAY_SHORT_INDEX_SCALE"), (18, u "LOG2_ARRAY_FLOAT_INDEX_SCALE"), (24, u "LOG2_ARRAY_DOUBLE_INDEX_SCALE"), (89, u "T_BOOLEAN"), (2, u "T_CHAR"), (1, u "T_FLOAT"), (1, u "T_DOUBLE"), (1, u "T_BYTE"), (1, u "T_SHORT"), (1, u "T_INT"), (1, u "T_LONG"), (1, u "SOFT_MAX_ARRAY_LENGTH")] 83

def k11m0 : Method := { name := "<init>", desc := "()V", sig := { parameters := [], returnType := none }, accessFlags := 2, code := none }
/-- jdk/internal/util/ArraysSupport -/
def k11 : Class := { plain "jdk/internal/util/ArraysSupport" (some 0) with
  accessFlags := 33
  interfaces := #[]
  cf := some (fileOf pool11 21 #[] #[{ accessFlags := 2, nameIndex := 9, descriptorIndex := 19, attributes := #[] }] 33 16 #[] #[{ accessFlags := 24, nameIndex := 28, descriptorIndex := 29, attributes := #[] }, { accessFlags := 26, nameIndex := 38, descriptorIndex := 39, attributes := #[] }, { accessFlags := 25, nameIndex := 121, descriptorIndex := 25, attributes := #[] }, { accessFlags := 25, nameIndex := 131, descriptorIndex := 25, attributes := #[] }, { accessFlags := 25, nameIndex := 137, descriptorIndex := 25, attributes := #[] }, { accessFlags := 25, nameIndex := 143, descriptorIndex := 25, attributes := #[] }, { accessFlags := 25, nameIndex := 53, descriptorIndex := 25, attributes := #[] }, { accessFlags := 25, nameIndex := 24, descriptorIndex := 25, attributes := #[] }, { accessFlags := 25, nameIndex := 162, descriptorIndex := 25, attributes := #[] }, { accessFlags := 25, nameIndex := 187, descriptorIndex := 25, attributes := #[] }, { accessFlags := 26, nameIndex := 48, descriptorIndex := 25, attributes := #[] }, { accessFlags := 25, nameIndex := 277, descriptorIndex := 25, attributes := #[] }, { accessFlags := 25, nameIndex := 280, descriptorIndex := 25, attributes := #[] }, { accessFlags := 25, nameIndex := 282, descriptorIndex := 25, attributes := #[] }, { accessFlags := 25, nameIndex := 284, descriptorIndex := 25, attributes := #[] }, { accessFlags := 25, nameIndex := 286, descriptorIndex := 25, attributes := #[] }, { accessFlags := 25, nameIndex := 288, descriptorIndex := 25, attributes := #[] }, { accessFlags := 25, nameIndex := 290, descriptorIndex := 25, attributes := #[] }, { accessFlags := 25, nameIndex := 292, descriptorIndex := 25, attributes := #[] }, { accessFlags := 26, nameIndex := 108, descriptorIndex := 109, attributes := #[] }, { accessFlags := 25, nameIndex := 294, descriptorIndex := 25, attributes := #[] }])
  fields := #[{ name := "U", type := (.object "jdk/internal/misc/Unsafe"), accessFlags := 24, slot := 0, constantValue := 0 }, { name := "BIG_ENDIAN", type := .boolean, accessFlags := 26, slot := 1, constantValue := 0 }, { name := "LOG2_ARRAY_BOOLEAN_INDEX_SCALE", type := .int, accessFlags := 25, slot := 2, constantValue := 0 }, { name := "LOG2_ARRAY_BYTE_INDEX_SCALE", type := .int, accessFlags := 25, slot := 3, constantValue := 0 }, { name := "LOG2_ARRAY_CHAR_INDEX_SCALE", type := .int, accessFlags := 25, slot := 4, constantValue := 0 }, { name := "LOG2_ARRAY_SHORT_INDEX_SCALE", type := .int, accessFlags := 25, slot := 5, constantValue := 0 }, { name := "LOG2_ARRAY_INT_INDEX_SCALE", type := .int, accessFlags := 25, slot := 6, constantValue := 0 }, { name := "LOG2_ARRAY_LONG_INDEX_SCALE", type := .int, accessFlags := 25, slot := 7, constantValue := 0 }, { name := "LOG2_ARRAY_FLOAT_INDEX_SCALE", type := .int, accessFlags := 25, slot := 8, constantValue := 0 }, { name := "LOG2_ARRAY_DOUBLE_INDEX_SCALE", type := .int, accessFlags := 25, slot := 9, constantValue := 0 }, { name := "LOG2_BYTE_BIT_SIZE", type := .int, accessFlags := 26, slot := 10, constantValue := 0 }, { name := "T_BOOLEAN", type := .int, accessFlags := 25, slot := 11, constantValue := 0 }, { name := "T_CHAR", type := .int, accessFlags := 25, slot := 12, constantValue := 0 }, { name := "T_FLOAT", type := .int, accessFlags := 25, slot := 13, constantValue := 0 }, { name := "T_DOUBLE", type := .int, accessFlags := 25, slot := 14, constantValue := 0 }, { name := "T_BYTE", type := .int, accessFlags := 25, slot := 15, constantValue := 0 }, { name := "T_SHORT", type := .int, accessFlags := 25, slot := 16, constantValue := 0 }, { name := "T_INT", type := .int, accessFlags := 25, slot := 17, constantValue := 0 }, { name := "T_LONG", type := .int, accessFlags := 25, slot := 18, constantValue := 0 }, { name := "JLA", type := (.object "jdk/internal/access/JavaLangAccess"), accessFlags := 26, slot := 19, constantValue := 0 }, { name := "SOFT_MAX_ARRAY_LENGTH", type := .int, accessFlags := 25, slot := 20, constantValue := 0 }]
  methods := #[k11m0]
  instanceTypes := #[]
  staticTypes := #[(.object "jdk/internal/misc/Unsafe"), .boolean, .int, .int, .int, .int, .int, .int, .int, .int, .int, .int, .int, .int, .int, .int, .int, .int, .int, (.object "jdk/internal/access/JavaLangAccess"), .int]
  resolved := Array.replicate 378 none
  statics := none }

def pool12 : Array CpInfo := pool [(1, u "java/lang/Cloneable"), (0, .class_ 1), (0, u "java/lang/Object"), (0, .class_ 3)] 3

/-- java/lang/Cloneable -/
def k12 : Class := { plain "java/lang/Cloneable" (some 0) with
  accessFlags := 1537
  interfaces := #[]
  cf := some (fileOf pool12 2 #[] #[] 1537 4 #[] #[])
  fields := #[]
  methods := #[]
  instanceTypes := #[]
  staticTypes := #[]
  resolved := Array.replicate 8 none
  statics := none }

/-- the primitive byte -/
def k13 : Class := { plain "byte" none with kind := .primitive 'B', accessFlags := 0x411 }
/-- [B -/
def k14 : Class := { plain "[B" (some 0) with kind := .array 13 .byte, interfaces := #[12, 3], accessFlags := 1041 }

/-- the primitive int -/
def k15 : Class := { plain "int" none with kind := .primitive 'I', accessFlags := 0x411 }
/-- [I -/
def k16 : Class := { plain "[I" (some 0) with kind := .array 15 .int, interfaces := #[12, 3], accessFlags := 1041 }

def heap : Heap := #[{ cls := 8, slots := #[.long 0, .int 1, .null, .int 0, .null, .int 0, .int 0], vm := .statics 8 },
  { cls := 10, slots := #[.null, .null, .null], vm := .statics 10 }]
def classes : Array Class := #[k0, k1, k2, k3, k4, k5, k6, k7, k8, k9, k10, k11, k12, k13, k14, k15, k16]
def interned : List (Array UInt16 × Addr) := []
def slotsUsed : Nat := 10
def theMethod : MethodId := ⟨1, 1⟩
def args0 : Array Value := #[.int 53]
def aboutOver (below : List Frame) : State where
  vm := { classes := classes, interned := interned.toArray }
  heap := heap
  slotsUsed := slotsUsed
  threads := #[{ frames := .invoking theMethod args0 :: below }]
def below0 : List Frame := [.native { method := ⟨0, 0⟩, args := #[] }]
def about1 : State := aboutOver below0
def p0 : Program := .bare "" "" ""
def e0 : Env := launch0.env 0 0 0
theorem w_frames : about1.frames = Frame.invoking theMethod args0 :: below0 := rfl
set_option maxRecDepth 65536 in
theorem w_args : argsFit about1.vm theMethod args0 = true := by decide +kernel
set_option maxRecDepth 65536 in
theorem w_heap : heapFits about1 = true := by decide +kernel
set_option maxRecDepth 65536 in
theorem w_runnable : about1.curStatus? = some .runnable := by decide +kernel
set_option maxRecDepth 65536 in
theorem w_alone : about1.alone = true := by decide +kernel
set_option maxRecDepth 65536 in
theorem w_named : about1.methodNamed? x = some theMethod := by decide +kernel
set_option maxRecDepth 65536 in
theorem w_hears : about1.hears theMethod below0 = true := by decide +kernel
set_option maxRecDepth 65536 in
theorem w_ripe : about1.ripe theMethod args0 below0 = true := by decide +kernel
theorem w_running : about1.status = .running := rfl
set_option maxRecDepth 65536 in
theorem w_room : about1.hasRoom e0.platform room_1 = true :=
  launch0.hasRoom_least _ room_1 (by decide +kernel) (by decide +kernel) (by decide +kernel) (by decide +kernel) (by decide +kernel) (by decide +kernel)
theorem allAtoms_all (ts : List Jvm.Cond) (a : Array Jvm.Value) (st : Jvm.State) : (allAtoms ts).before a st = ts.all (fun c => c.before a st) := by
  induction ts with
  | nil => rfl
  | cons c t ih =>
    show (Jvm.Cond.and c (allAtoms t)).before a st = _
    rw [Jvm.Cond.before_and, ih, List.all_cons]
def words1 : List Jvm.Cond := Jvm.Cond.code x code maxLocals ret :: tables_1
/-- a 'code' word, met by the world's own term for the bytes: nothing is compared byte by byte -/
theorem code_word {y : MethodName} {bytes : ByteArray} {mx : Nat} {rt : Option FieldType} {a : Array Value} {s : State} {m : MethodId} {meth : Method} {c : Code} (h1 : s.methodNamed? y = some m) (h2 : s.vm.method? m = some meth) (h3 : meth.code = some c) (h4 : c.code = bytes)
    (h5 : (c.maxLocals == mx && c.exceptionTable.isEmpty && decide (c.maxStack ≤ mostOperands) && decide (meth.sig.returnType = rt) && !meth.locks && decide (parseMethodDescriptor y.desc = some meth.sig)) = true) : (Jvm.Cond.code y bytes mx rt).before a s = true := by
  simp only [Bool.and_eq_true, beq_iff_eq, Bool.not_eq_true', decide_eq_true_eq] at h5
  obtain ⟨⟨⟨⟨⟨g1, g2⟩, g3⟩, g4⟩, g5⟩, g6⟩ := h5
  simp [Cond.before, Cond.holds, Cond.value, h1, h2, h3, h4, g1, g2, g3, g4, g5, g6]
def isCode : Jvm.Cond → Bool
  | .code _ _ _ _ => true
  | _ => false
theorem all_split {L : List Jvm.Cond} {P : Jvm.Cond → Bool} (h1 : L.all (fun c => isCode c || P c) = true) (h2 : ∀ c ∈ L.filter isCode, P c = true) : L.all P = true := by
  refine List.all_eq_true.mpr fun c hc => ?_
  have h := List.all_eq_true.mp h1 c hc
  rcases Bool.eq_false_or_eq_true (isCode c) with hi | hi
  · exact h2 c (List.mem_filter.mpr ⟨hc, hi⟩)
  · simpa [hi] using h
set_option maxRecDepth 65536 in
theorem w_c0 : (Jvm.Cond.code x code maxLocals ret).before args0 about1 = true := code_word (m := ⟨1, 1⟩) (meth := k1m1) (c := k1c1) (by decide +kernel) rfl rfl rfl (by decide +kernel)
set_option maxRecDepth 65536 in
theorem w_c1 : (Jvm.Cond.code ({ cls := "com/example/text_to_shapes/texttoshapes/idl/SourceReader", name := "isDigit", desc := "(I)Z" } : Jvm.MethodName) prog_36_method_36_code (1 : Nat) (Option.some Jvm.ClassFile.FieldType.boolean)).before args0 about1 = true := code_word (m := ⟨2, 0⟩) (meth := k2m0) (c := k2c0) (by decide +kernel) rfl rfl rfl (by decide +kernel)
set_option maxRecDepth 65536 in
theorem w_c2 : (Jvm.Cond.code ({ cls := "java/lang/String", name := "charAt", desc := "(I)C" } : Jvm.MethodName) jdk_42_method_56_code (2 : Nat) (Option.some Jvm.ClassFile.FieldType.char)).before args0 about1 = true := code_word (m := ⟨8, 1⟩) (meth := k8m1) (c := k8c1) (by decide +kernel) rfl rfl rfl (by decide +kernel)
set_option maxRecDepth 65536 in
theorem w_c3 : (Jvm.Cond.code ({ cls := "java/lang/String", name := "isLatin1", desc := "()Z" } : Jvm.MethodName) jdk_42_method_154_code (1 : Nat) (Option.some Jvm.ClassFile.FieldType.boolean)).before args0 about1 = true := code_word (m := ⟨8, 2⟩) (meth := k8m2) (c := k8c2) (by decide +kernel) rfl rfl rfl (by decide +kernel)
set_option maxRecDepth 65536 in
theorem w_c4 : (Jvm.Cond.code ({ cls := "java/lang/StringLatin1", name := "charAt", desc := "([BI)C" } : Jvm.MethodName) jdk_43_method_2_code (2 : Nat) (Option.some Jvm.ClassFile.FieldType.char)).before args0 about1 = true := code_word (m := ⟨9, 1⟩) (meth := k9m1) (c := k9c1) (by decide +kernel) rfl rfl rfl (by decide +kernel)
set_option maxRecDepth 65536 in
theorem w_c5 : (Jvm.Cond.code ({ cls := "java/lang/String", name := "checkIndex", desc := "(II)V" } : Jvm.MethodName) jdk_42_method_155_code (2 : Nat) (Option.none : Option Jvm.ClassFile.FieldType)).before args0 about1 = true := code_word (m := ⟨8, 3⟩) (meth := k8m3) (c := k8c3) (by decide +kernel) rfl rfl rfl (by decide +kernel)
set_option maxRecDepth 65536 in
theorem w_c6 : (Jvm.Cond.code ({ cls := "jdk/internal/util/Preconditions", name := "checkIndex", desc := "(IILjava/util/function/BiFunction;)I" } : Jvm.MethodName) jdk_41_method_11_code (3 : Nat) (Option.some Jvm.ClassFile.FieldType.int)).before args0 about1 = true := code_word (m := ⟨10, 1⟩) (meth := k10m1) (c := k10c1) (by decide +kernel) rfl rfl rfl (by decide +kernel)
def codes1 : List Jvm.Cond := [Jvm.Cond.code x code maxLocals ret, Jvm.Cond.code ({ cls := "com/example/text_to_shapes/texttoshapes/idl/SourceReader", name := "isDigit", desc := "(I)Z" } : Jvm.MethodName) prog_36_method_36_code (1 : Nat) (Option.some Jvm.ClassFile.FieldType.boolean), Jvm.Cond.code ({ cls := "java/lang/String", name := "charAt", desc := "(I)C" } : Jvm.MethodName) jdk_42_method_56_code (2 : Nat) (Option.some Jvm.ClassFile.FieldType.char), Jvm.Cond.code ({ cls := "java/lang/String", name := "isLatin1", desc := "()Z" } : Jvm.MethodName) jdk_42_method_154_code (1 : Nat) (Option.some Jvm.ClassFile.FieldType.boolean), Jvm.Cond.code ({ cls := "java/lang/StringLatin1", name := "charAt", desc := "([BI)C" } : Jvm.MethodName) jdk_43_method_2_code (2 : Nat) (Option.some Jvm.ClassFile.FieldType.char), Jvm.Cond.code ({ cls := "java/lang/String", name := "checkIndex", desc := "(II)V" } : Jvm.MethodName) jdk_42_method_155_code (2 : Nat) (Option.none : Option Jvm.ClassFile.FieldType), Jvm.Cond.code ({ cls := "jdk/internal/util/Preconditions", name := "checkIndex", desc := "(IILjava/util/function/BiFunction;)I" } : Jvm.MethodName) jdk_41_method_11_code (3 : Nat) (Option.some Jvm.ClassFile.FieldType.int)]
set_option maxRecDepth 65536 in
theorem codes_eq : words1.filter isCode = codes1 := rfl
theorem w_codes : ∀ c ∈ words1.filter isCode, c.before args0 about1 = true := by
  rw [codes_eq]
  intro c hc
  simp only [codes1, List.mem_cons, List.not_mem_nil, or_false] at hc
  rcases hc with rfl | rfl | rfl | rfl | rfl | rfl | rfl
  · exact w_c0
  · exact w_c1
  · exact w_c2
  · exact w_c3
  · exact w_c4
  · exact w_c5
  · exact w_c6
set_option maxRecDepth 65536 in
theorem w_t1 : (words1.take 24).all (fun c => isCode c || c.before args0 about1) = true := by decide +kernel
set_option maxRecDepth 65536 in
theorem w_t2 : (words1.drop 24).all (fun c => isCode c || c.before args0 about1) = true := by decide +kernel
theorem w_tables : (allAtoms (Jvm.Cond.code x code maxLocals ret :: tables_1)).before args0 about1 = true := by
  rw [allAtoms_all]
  show words1.all (fun c => c.before args0 about1) = true
  refine all_split ?_ w_codes
  rw [← List.take_append_drop 24 words1, List.all_append, w_t1, w_t2]
  rfl
set_option maxRecDepth 65536 in
theorem w_rest : rest_1_c.before args0 about1 = true := by decide +kernel
set_option maxRecDepth 65536 in
theorem w_case : (Jvm.Cond.and given_1 narrow_1).before args0 about1 = true := by decide +kernel
set_option maxRecDepth 65536 in
theorem w_consts : constsHeld consts_1 about1 := Jvm.Lit.constsHeldB_iff.mp (by decide +kernel)
theorem w_applies : (headSpec (Jvm.Cond.code x code maxLocals ret :: tables_1) room_1).applies x e0.platform about1 = true :=
  (Spec.applies_iff w_frames).mpr ⟨w_running, w_runnable, w_alone, w_named, w_hears, w_ripe, w_room, w_tables⟩
theorem atStart : AtStart classFile x code maxLocals ret World_1 tables_1 room_1 Calls_1 rest_1 Pre_1 launch0 p0 e0 about1 theMethod args0 below0 :=
  ⟨lists_1, trivial, launch0.admits_env _ _ _, launch0.least_env, fairChoices_fair.cas, fairChoices_fair.clock, w_frames, w_args, w_heap, w_applies, ⟨w_consts, trivial⟩, w_rest, w_case⟩
end start1
theorem witness_1 : WitnessClaimed_1 := ⟨start1.p0, start1.e0, start1.about1, start1.theMethod, start1.args0, start1.below0, start1.atStart⟩
end Jvm.Pilot.@@N@@
