import JvmDerived
import JvmDerived.Pilot.@@N@@Statement
import JvmDerived.Pilot.@@N@@Code
set_option linter.unusedVariables false
set_option linter.unusedSimpArgs false
namespace Jvm.RoadKit
open Sem ClassFile Op Lib Jvm.Stand Jvm.Free Jvm.LawKit
/-- what a walk knows of the method that it walks -/
def Own (Z : State) (y : MethodName) (bytes : ByteArray) (maxL : Nat) (ret : Option FieldType) (p : Program) (s : State) (m : MethodId) (meth : Method) (c : Code) : Prop :=
  p.tables.exec = Jvm.exec ∧ c.code = bytes ∧ c.maxLocals = maxL ∧ s.vm.findClass y.cls = some m.cls ∧ meth.name = y.name ∧ Z.Warmed39 s.vm ∧ meth.sig.returnType = ret ∧ meth.locks = false
/-- n: nothing is interned; w: strings may have been interned since; h: so too, and P is known of the tables at the start, E of those at the end; hp the heap at the start; nE what the end's written places lie above -/
def Wd : Type := Bool ⊕ {x : (Vm → Prop) × (Vm → Prop) × Heap × Nat // ∀ a b : Vm, b.interned = a.interned → x.1 a → x.2.1 b}
def Wd.n : Wd := Sum.inl false
def Wd.w : Wd := Sum.inl true
def Wd.h (P E : Vm → Prop) (hPE : ∀ a b : Vm, b.interned = a.interned → P a → E b) (hp : Heap) (nE : Nat) : Wd := Sum.inr ⟨(P, E, hp, nE), hPE⟩
def Wd.bound (wd : Wd) (n0 : Nat) : Nat := match wd with
  | .inl _ => n0
  | .inr x => min x.1.2.2.2 n0
theorem Wd.bound_le (wd : Wd) (n0 : Nat) : wd.bound n0 ≤ n0 := by
  rcases wd with b | x
  · exact Nat.le_refl _
  · exact Nat.min_le_right _ _
def GoRel (wd : Wd) (s0 s : State) (k : Nat) : Prop := match wd with
  | .inl false => s0 = s
  | .inl true => ∃ (vm0 : Vm) (k0 : Nat), s = s0.setVm vm0 ∧ s0.Since vm0 k0 ∧ k0 ≤ k
  | .inr x => (∃ (vm0 : Vm) (k0 : Nat), s = s0.setVm vm0 ∧ s0.Since vm0 k0 ∧ k0 ≤ k) ∧ x.1.1 s.vm ∧ s.heap = x.1.2.2.1
/-- the frame of the end -/
def GoEnd (wd : Wd) (s0 : State) (o : Outcome) (t : State) (L : List Loc) (K N : Nat) : Prop := match wd with
  | .inl false => FrameEnd s0 o t L K N
  | .inl true => ReturnedEndW s0 o t L K N
  | .inr x => ReturnedEndW s0 o t L K N ∧ x.1.2.1 t.vm
theorem GoRel.mono {wd : Wd} {s0 s : State} {k k' : Nat} (h : GoRel wd s0 s k) (q : k ≤ k') : GoRel wd s0 s k' := by
  rcases wd with (_ | _) | x
  · exact h
  · obtain ⟨vm0, k0, h1, h2, h3⟩ := h; exact ⟨vm0, k0, h1, h2, Nat.le_trans h3 q⟩
  · obtain ⟨⟨vm0, k0, h1, h2, h3⟩, h4⟩ := h; exact ⟨⟨vm0, k0, h1, h2, Nat.le_trans h3 q⟩, h4⟩
def Plain (wd : Wd) : Prop := (∀ (s : State) (k : Nat), GoRel wd s s k) ∧ ∀ n0, wd.bound n0 = n0
theorem plain_n : Plain .n := ⟨fun _ _ => rfl, fun _ => rfl⟩
theorem plain_w : Plain .w := ⟨fun s _ => ⟨s.vm, 0, rfl, (State.WarmedH.refl s).since 0, Nat.zero_le _⟩, fun _ => rfl⟩
theorem GoEnd.grow {wd : Wd} {s0 t : State} {o : Outcome} {L : List Loc} {K N : Nat} (h : GoEnd wd s0 o t L K N) : s0.heap.size ≤ t.heap.size := by
  rcases wd with (_ | _) | x
  · exact h.2.2.2.1
  · exact h.2.2.2.2.1
  · exact h.1.2.2.2.2.1
theorem GoRel.ended {wd : Wd} {s0 s : State} {v : Option Value} {U : State} {locs : List Loc} {c k c' k' : Nat} (h : GoRel wd s0 s U.heap.size) (hW : s.WarmedH U.vm) (hs : s.sameButNew ({ U with vm := s.vm } : State) locs c k) (hc : c ≤ c') (hk : k ≤ k') : GoEnd wd s0 (.returned v) U locs c' k' := by
  rcases wd with (_ | _) | x
  · obtain rfl : s0 = s := h
    exact ⟨⟨_, rfl⟩, hW, hs.mono hc hk⟩
  · obtain ⟨vm0, k0, rfl, h2, h3⟩ := h
    obtain ⟨q1, q2, q3⟩ := h2.ended hW h3 hs
    exact ⟨⟨_, rfl⟩, q1, q2, q3.mono hc hk⟩
  · obtain ⟨⟨vm0, k0, rfl, h2, h3⟩, hP, -⟩ := h
    obtain ⟨q1, q2, q3⟩ := h2.ended hW h3 hs
    exact ⟨⟨⟨_, rfl⟩, q1, q2, q3.mono hc hk⟩, x.2 _ _ hW.interned_eq hP⟩
/-- from pc, Ls, st over the heap h (so many cells and slots made so far) the walk comes to its end, and Q holds of what it returns and of the heap there; what it wrote lies at or above n0 -/
def Go (wd : Wd) (l : Launch) (R : Room) (Z : State) (y : MethodName) (bytes : ByteArray) (maxL : Nat) (ret : Option FieldType) (n0 K N : Nat) (Q : Option Value → Heap → Prop) (h : Heap) (cells slots pc : Nat) (Ls : Array Slot) (st : List Value) : Prop :=
  ∀ (p : Program) (e : Env) (s0 s : State) (m : MethodId) (args : Array Value) (below : List Frame) (meth : Method) (c : Code) (T : State) (locs : List Loc),
    GoRel wd s0 s h.size → Own Z y bytes maxL ret p s m meth c → Stand p l e R s m args below meth c T locs cells slots → T.heap = h → Fr n0 locs →
    ∃ s₂ o, Steps p.tables e below (T.setTop (mkF m pc Ls st)) s₂ ∧ s₂.status = .running ∧ Ended s₂ below o ∧ ∃ v L, o = .returned v ∧ (Q v s₂.heap ∧ Fr (wd.bound n0) L) ∧ GoEnd wd s0 o s₂ L K N
section GoLaws
variable {wd : Wd} {l : Launch} {R : Room} {Z : State} {y : MethodName} {bytes : ByteArray} {maxL : Nat} {ret : Option FieldType} {n0 K N : Nat} {Q : Option Value → Heap → Prop} {h : Heap} {cells slots pc pc' : Nat} {Ls Ls' : Array Slot} {st st' : List Value} {a0 : Array Value}
theorem Go.of (k : Go wd l R Z y bytes maxL ret n0 K N Q h cells slots pc' Ls' st')
    (q : ∀ (p : Program) (e : Env) (s : State) (m : MethodId) (args : Array Value) (below : List Frame) (meth : Method) (c : Code) (T : State) (locs : List Loc), Own Z y bytes maxL ret p s m meth c → Stand p l e R s m args below meth c T locs cells slots → T.heap = h →
      ∀ target, Steps p.tables e below (T.setTop (mkF m pc' Ls' st')) target → Steps p.tables e below (T.setTop (mkF m pc Ls st)) target) : Go wd l R Z y bytes maxL ret n0 K N Q h cells slots pc Ls st := by
  intro p e s0 s m args below meth c T locs hR O X eT F
  obtain ⟨s₂, o, h1, r⟩ := k p e s0 s m args below meth c T locs hR O X eT F
  exact ⟨s₂, o, q p e s m args below meth c T locs O X eT _ h1, r⟩
theorem Go.weaken {Q' : Option Value → Heap → Prop} (hQ : ∀ v h, Q' v h → Q v h) (k : Go wd l R Z y bytes maxL ret n0 K N Q' h cells slots pc Ls st) : Go wd l R Z y bytes maxL ret n0 K N Q h cells slots pc Ls st := by
  intro p e s0 s m args below meth c T locs hR O X eT F
  obtain ⟨s₂, o, h1, h2, h3, v, L, h4, h5, h6⟩ := k p e s0 s m args below meth c T locs hR O X eT F
  exact ⟨s₂, o, h1, h2, h3, v, L, h4, ⟨hQ _ _ h5.1, h5.2⟩, h6⟩
/-! plain steps -/
theorem Go.iload {k : Nat} {v : Int32} (hd : decode bytes pc = .ok (.iload k, 2)) (hl : Ls[k]? = some (.val (.int v))) (hp : pc + 2 = pc') (q : Go wd l R Z y bytes maxL ret n0 K N Q h cells slots pc' Ls (.int v :: st)) : Go wd l R Z y bytes maxL ret n0 K N Q h cells slots pc Ls st := by
  subst hp; exact Go.of q fun p e s m args below meth c T locs O X eT t hr => XS.iload X.here O.1 rfl (hb O.2.1 hd) hl hr
theorem Go.iloadN {k : Fin 4} {v : Int32} (hd : decode bytes pc = .ok (.iload_n k, 1)) (hl : Ls[k.val]? = some (.val (.int v))) (hp : pc + 1 = pc') (q : Go wd l R Z y bytes maxL ret n0 K N Q h cells slots pc' Ls (.int v :: st)) : Go wd l R Z y bytes maxL ret n0 K N Q h cells slots pc Ls st := by
  subst hp; exact Go.of q fun p e s m args below meth c T locs O X eT t hr => XS.iloadN X.here O.1 rfl (hb O.2.1 hd) hl hr
theorem Go.lload {k : Nat} {v : Int64} (hd : decode bytes pc = .ok (.lload k, 2)) (hl : Ls[k]? = some (.val (.long v))) (hp : pc + 2 = pc') (q : Go wd l R Z y bytes maxL ret n0 K N Q h cells slots pc' Ls (.long v :: st)) : Go wd l R Z y bytes maxL ret n0 K N Q h cells slots pc Ls st := by
  subst hp; exact Go.of q fun p e s m args below meth c T locs O X eT t hr => XS.lload X.here O.1 rfl (hb O.2.1 hd) hl hr
theorem Go.lloadN {k : Fin 4} {v : Int64} (hd : decode bytes pc = .ok (.lload_n k, 1)) (hl : Ls[k.val]? = some (.val (.long v))) (hp : pc + 1 = pc') (q : Go wd l R Z y bytes maxL ret n0 K N Q h cells slots pc' Ls (.long v :: st)) : Go wd l R Z y bytes maxL ret n0 K N Q h cells slots pc Ls st := by
  subst hp; exact Go.of q fun p e s m args below meth c T locs O X eT t hr => XS.lloadN X.here O.1 rfl (hb O.2.1 hd) hl hr
theorem Go.aload {k : Nat} {v : Value} (hd : decode bytes pc = .ok (.aload k, 2)) (hl : Ls[k]? = some (.val v)) (hv : v.isRef = true) (hp : pc + 2 = pc') (q : Go wd l R Z y bytes maxL ret n0 K N Q h cells slots pc' Ls (v :: st)) : Go wd l R Z y bytes maxL ret n0 K N Q h cells slots pc Ls st := by
  subst hp; exact Go.of q fun p e s m args below meth c T locs O X eT t hr => XS.aload X.here O.1 rfl (hb O.2.1 hd) hl hv hr
theorem Go.aloadN {k : Fin 4} {v : Value} (hd : decode bytes pc = .ok (.aload_n k, 1)) (hl : Ls[k.val]? = some (.val v)) (hv : v.isRef = true) (hp : pc + 1 = pc') (q : Go wd l R Z y bytes maxL ret n0 K N Q h cells slots pc' Ls (v :: st)) : Go wd l R Z y bytes maxL ret n0 K N Q h cells slots pc Ls st := by
  subst hp; exact Go.of q fun p e s m args below meth c T locs O X eT t hr => XS.aloadN X.here O.1 rfl (hb O.2.1 hd) hl hv hr
theorem Go.istore {k : Nat} {v : Int32} (hd : decode bytes pc = .ok (.istore k, 2)) (hl : storeLocals Ls k (.int v) = some Ls') (hp : pc + 2 = pc') (q : Go wd l R Z y bytes maxL ret n0 K N Q h cells slots pc' Ls' st) : Go wd l R Z y bytes maxL ret n0 K N Q h cells slots pc Ls (.int v :: st) := by
  subst hp; exact Go.of q fun p e s m args below meth c T locs O X eT t hr => XS.istore X.here O.1 rfl (hb O.2.1 hd) rfl hl hr
theorem Go.istoreN {k : Fin 4} {v : Int32} (hd : decode bytes pc = .ok (.istore_n k, 1)) (hl : storeLocals Ls k.val (.int v) = some Ls') (hp : pc + 1 = pc') (q : Go wd l R Z y bytes maxL ret n0 K N Q h cells slots pc' Ls' st) : Go wd l R Z y bytes maxL ret n0 K N Q h cells slots pc Ls (.int v :: st) := by
  subst hp; exact Go.of q fun p e s m args below meth c T locs O X eT t hr => XS.istoreN X.here O.1 rfl (hb O.2.1 hd) rfl hl hr
theorem Go.lstore {k : Nat} {v : Int64} (hd : decode bytes pc = .ok (.lstore k, 2)) (hl : storeLocals Ls k (.long v) = some Ls') (hp : pc + 2 = pc') (q : Go wd l R Z y bytes maxL ret n0 K N Q h cells slots pc' Ls' st) : Go wd l R Z y bytes maxL ret n0 K N Q h cells slots pc Ls (.long v :: st) := by
  subst hp; exact Go.of q fun p e s m args below meth c T locs O X eT t hr => XS.lstore X.here O.1 rfl (hb O.2.1 hd) rfl hl hr
theorem Go.lstoreN {k : Fin 4} {v : Int64} (hd : decode bytes pc = .ok (.lstore_n k, 1)) (hl : storeLocals Ls k.val (.long v) = some Ls') (hp : pc + 1 = pc') (q : Go wd l R Z y bytes maxL ret n0 K N Q h cells slots pc' Ls' st) : Go wd l R Z y bytes maxL ret n0 K N Q h cells slots pc Ls (.long v :: st) := by
  subst hp; exact Go.of q fun p e s m args below meth c T locs O X eT t hr => XS.lstoreN X.here O.1 rfl (hb O.2.1 hd) rfl hl hr
theorem Go.astore {k : Nat} {v : Value} (hd : decode bytes pc = .ok (.astore k, 2)) (hv : v.isRef = true) (hl : storeLocals Ls k v = some Ls') (hp : pc + 2 = pc') (q : Go wd l R Z y bytes maxL ret n0 K N Q h cells slots pc' Ls' st) : Go wd l R Z y bytes maxL ret n0 K N Q h cells slots pc Ls (v :: st) := by
  subst hp; exact Go.of q fun p e s m args below meth c T locs O X eT t hr => XS.astore X.here O.1 rfl (hb O.2.1 hd) rfl hv hl hr
theorem Go.astoreN {k : Fin 4} {v : Value} (hd : decode bytes pc = .ok (.astore_n k, 1)) (hv : v.isRef = true) (hl : storeLocals Ls k.val v = some Ls') (hp : pc + 1 = pc') (q : Go wd l R Z y bytes maxL ret n0 K N Q h cells slots pc' Ls' st) : Go wd l R Z y bytes maxL ret n0 K N Q h cells slots pc Ls (v :: st) := by
  subst hp; exact Go.of q fun p e s m args below meth c T locs O X eT t hr => XS.astoreN X.here O.1 rfl (hb O.2.1 hd) rfl hv hl hr
theorem Go.iinc {k : Nat} {cst : Int} {v w : Int32} (hd : decode bytes pc = .ok (.iinc k cst, 3)) (hl : Ls[k]? = some (.val (.int v))) (hw : v + Int32.ofInt cst = w) (hl' : storeLocals Ls k (.int w) = some Ls') (hp : pc + 3 = pc') (q : Go wd l R Z y bytes maxL ret n0 K N Q h cells slots pc' Ls' st) : Go wd l R Z y bytes maxL ret n0 K N Q h cells slots pc Ls st := by
  subst hp hw; exact Go.of q fun p e s m args below meth c T locs O X eT t hr => XS.iinc X.here O.1 rfl (hb O.2.1 hd) hl hl' hr
theorem Go.iconst {i : Int} {v : Int32} (hd : decode bytes pc = .ok (.iconst i, 1)) (hv : Int32.ofInt i = v) (hp : pc + 1 = pc') (q : Go wd l R Z y bytes maxL ret n0 K N Q h cells slots pc' Ls (.int v :: st)) : Go wd l R Z y bytes maxL ret n0 K N Q h cells slots pc Ls st := by
  subst hp hv; exact Go.of q fun p e s m args below meth c T locs O X eT t hr => XS.iconst X.here O.1 rfl (hb O.2.1 hd) hr
theorem Go.bipush {i : Int} {v : Int32} (hd : decode bytes pc = .ok (.bipush i, 2)) (hv : (Int8.ofInt i).toInt32 = v) (hp : pc + 2 = pc') (q : Go wd l R Z y bytes maxL ret n0 K N Q h cells slots pc' Ls (.int v :: st)) : Go wd l R Z y bytes maxL ret n0 K N Q h cells slots pc Ls st := by
  subst hp hv; exact Go.of q fun p e s m args below meth c T locs O X eT t hr => XS.bipush X.here O.1 rfl (hb O.2.1 hd) hr
theorem Go.sipush {i : Int} {v : Int32} (hd : decode bytes pc = .ok (.sipush i, 3)) (hv : (Int16.ofInt i).toInt32 = v) (hp : pc + 3 = pc') (q : Go wd l R Z y bytes maxL ret n0 K N Q h cells slots pc' Ls (.int v :: st)) : Go wd l R Z y bytes maxL ret n0 K N Q h cells slots pc Ls st := by
  subst hp hv; exact Go.of q fun p e s m args below meth c T locs O X eT t hr => XS.sipush X.here O.1 rfl (hb O.2.1 hd) hr
theorem Go.lconst {k : Fin 2} {v : Int64} (hd : decode bytes pc = .ok (.lconst k, 1)) (hv : Int64.ofNat k = v) (hp : pc + 1 = pc') (q : Go wd l R Z y bytes maxL ret n0 K N Q h cells slots pc' Ls (.long v :: st)) : Go wd l R Z y bytes maxL ret n0 K N Q h cells slots pc Ls st := by
  subst hp hv; exact Go.of q fun p e s m args below meth c T locs O X eT t hr => XS.lconst X.here O.1 rfl (hb O.2.1 hd) hr
theorem Go.aconstNull (hd : decode bytes pc = .ok (.aconst_null, 1)) (hp : pc + 1 = pc') (q : Go wd l R Z y bytes maxL ret n0 K N Q h cells slots pc' Ls (.null :: st)) : Go wd l R Z y bytes maxL ret n0 K N Q h cells slots pc Ls st := by
  subst hp; exact Go.of q fun p e s m args below meth c T locs O X eT t hr => XS.aconstNull X.here O.1 rfl (hb O.2.1 hd) hr
theorem Go.dup {v : Value} (hd : decode bytes pc = .ok (.dup, 1)) (hv : v.category = 1) (hp : pc + 1 = pc') (q : Go wd l R Z y bytes maxL ret n0 K N Q h cells slots pc' Ls (v :: v :: st)) : Go wd l R Z y bytes maxL ret n0 K N Q h cells slots pc Ls (v :: st) := by
  subst hp; exact Go.of q fun p e s m args below meth c T locs O X eT t hr => XS.dup X.here O.1 rfl (hb O.2.1 hd) rfl hv hr
theorem Go.dupX1 {v w : Value} (hd : decode bytes pc = .ok (.dup_x1, 1)) (hv : v.category = 1) (hw : w.category = 1) (hp : pc + 1 = pc') (q : Go wd l R Z y bytes maxL ret n0 K N Q h cells slots pc' Ls (v :: w :: v :: st)) : Go wd l R Z y bytes maxL ret n0 K N Q h cells slots pc Ls (v :: w :: st) := by
  subst hp; exact Go.of q fun p e s m args below meth c T locs O X eT t hr => XS.dupX1 X.here O.1 rfl (hb O.2.1 hd) rfl hv hw hr
theorem Go.dup2 {v w : Value} (hd : decode bytes pc = .ok (.dup2, 1)) (hv : v.category = 1) (hw : w.category = 1) (hp : pc + 1 = pc') (q : Go wd l R Z y bytes maxL ret n0 K N Q h cells slots pc' Ls (v :: w :: v :: w :: st)) : Go wd l R Z y bytes maxL ret n0 K N Q h cells slots pc Ls (v :: w :: st) := by
  subst hp; exact Go.of q fun p e s m args below meth c T locs O X eT t hr => XT.dup2 X.here O.1 rfl (hb O.2.1 hd) rfl hv hw hr
theorem Go.pop {v : Value} (hd : decode bytes pc = .ok (.pop, 1)) (hv : v.category = 1) (hp : pc + 1 = pc') (q : Go wd l R Z y bytes maxL ret n0 K N Q h cells slots pc' Ls st) : Go wd l R Z y bytes maxL ret n0 K N Q h cells slots pc Ls (v :: st) := by
  subst hp; exact Go.of q fun p e s m args below meth c T locs O X eT t hr => XS.pop X.here O.1 rfl (hb O.2.1 hd) rfl hv hr
theorem Go.goto {o : Int} (hd : decode bytes pc = .ok (.goto o, 3)) (ho : 0 ≤ (pc : Int) + o) (hp : ((pc : Int) + o).toNat = pc') (q : Go wd l R Z y bytes maxL ret n0 K N Q h cells slots pc' Ls st) : Go wd l R Z y bytes maxL ret n0 K N Q h cells slots pc Ls st :=
  Go.of q fun p e s m args below meth c T locs O X eT t hr => XS.goto X.here O.1 rfl (pc0 := pc) rfl (hb O.2.1 hd) ho hp hr
theorem Go.iadd {a : Int32} {b : Int32} (hd : decode bytes pc = .ok (.iadd, 1)) (hp : pc + 1 = pc') (q : Go wd l R Z y bytes maxL ret n0 K N Q h cells slots pc' Ls (.int (a + b) :: st)) : Go wd l R Z y bytes maxL ret n0 K N Q h cells slots pc Ls (.int b :: .int a :: st) := by
  subst hp; exact Go.of q fun p e s m args below meth c T locs O X eT t hr => XS.iadd X.here O.1 rfl (hb O.2.1 hd) rfl hr
theorem Go.isub {a : Int32} {b : Int32} (hd : decode bytes pc = .ok (.isub, 1)) (hp : pc + 1 = pc') (q : Go wd l R Z y bytes maxL ret n0 K N Q h cells slots pc' Ls (.int (a - b) :: st)) : Go wd l R Z y bytes maxL ret n0 K N Q h cells slots pc Ls (.int b :: .int a :: st) := by
  subst hp; exact Go.of q fun p e s m args below meth c T locs O X eT t hr => XS.isub X.here O.1 rfl (hb O.2.1 hd) rfl hr
theorem Go.imul {a : Int32} {b : Int32} (hd : decode bytes pc = .ok (.imul, 1)) (hp : pc + 1 = pc') (q : Go wd l R Z y bytes maxL ret n0 K N Q h cells slots pc' Ls (.int (a * b) :: st)) : Go wd l R Z y bytes maxL ret n0 K N Q h cells slots pc Ls (.int b :: .int a :: st) := by
  subst hp; exact Go.of q fun p e s m args below meth c T locs O X eT t hr => XS.imul X.here O.1 rfl (hb O.2.1 hd) rfl hr
theorem Go.iand {a : Int32} {b : Int32} (hd : decode bytes pc = .ok (.iand, 1)) (hp : pc + 1 = pc') (q : Go wd l R Z y bytes maxL ret n0 K N Q h cells slots pc' Ls (.int (a &&& b) :: st)) : Go wd l R Z y bytes maxL ret n0 K N Q h cells slots pc Ls (.int b :: .int a :: st) := by
  subst hp; exact Go.of q fun p e s m args below meth c T locs O X eT t hr => XS.iand X.here O.1 rfl (hb O.2.1 hd) rfl hr
theorem Go.ior {a : Int32} {b : Int32} (hd : decode bytes pc = .ok (.ior, 1)) (hp : pc + 1 = pc') (q : Go wd l R Z y bytes maxL ret n0 K N Q h cells slots pc' Ls (.int (a ||| b) :: st)) : Go wd l R Z y bytes maxL ret n0 K N Q h cells slots pc Ls (.int b :: .int a :: st) := by
  subst hp; exact Go.of q fun p e s m args below meth c T locs O X eT t hr => XS.ior X.here O.1 rfl (hb O.2.1 hd) rfl hr
theorem Go.ixor {a : Int32} {b : Int32} (hd : decode bytes pc = .ok (.ixor, 1)) (hp : pc + 1 = pc') (q : Go wd l R Z y bytes maxL ret n0 K N Q h cells slots pc' Ls (.int (a ^^^ b) :: st)) : Go wd l R Z y bytes maxL ret n0 K N Q h cells slots pc Ls (.int b :: .int a :: st) := by
  subst hp; exact Go.of q fun p e s m args below meth c T locs O X eT t hr => XS.ixor X.here O.1 rfl (hb O.2.1 hd) rfl hr
theorem Go.ishl {a : Int32} {b : Int32} (hd : decode bytes pc = .ok (.ishl, 1)) (hp : pc + 1 = pc') (q : Go wd l R Z y bytes maxL ret n0 K N Q h cells slots pc' Ls (.int (a <<< (b &&& 31)) :: st)) : Go wd l R Z y bytes maxL ret n0 K N Q h cells slots pc Ls (.int b :: .int a :: st) := by
  subst hp; exact Go.of q fun p e s m args below meth c T locs O X eT t hr => XS.ishl X.here O.1 rfl (hb O.2.1 hd) rfl hr
theorem Go.ishr {a : Int32} {b : Int32} (hd : decode bytes pc = .ok (.ishr, 1)) (hp : pc + 1 = pc') (q : Go wd l R Z y bytes maxL ret n0 K N Q h cells slots pc' Ls (.int (a >>> (b &&& 31)) :: st)) : Go wd l R Z y bytes maxL ret n0 K N Q h cells slots pc Ls (.int b :: .int a :: st) := by
  subst hp; exact Go.of q fun p e s m args below meth c T locs O X eT t hr => XS.ishr X.here O.1 rfl (hb O.2.1 hd) rfl hr
theorem Go.iushr {a : Int32} {b : Int32} (hd : decode bytes pc = .ok (.iushr, 1)) (hp : pc + 1 = pc') (q : Go wd l R Z y bytes maxL ret n0 K N Q h cells slots pc' Ls (.int ((a.toUInt32 >>> (b &&& 31).toUInt32).toInt32) :: st)) : Go wd l R Z y bytes maxL ret n0 K N Q h cells slots pc Ls (.int b :: .int a :: st) := by
  subst hp; exact Go.of q fun p e s m args below meth c T locs O X eT t hr => XS.iushr X.here O.1 rfl (hb O.2.1 hd) rfl hr
theorem Go.idiv {a : Int32} {b : Int32} (hd : decode bytes pc = .ok (.idiv, 1)) (hy : b ≠ 0) (hp : pc + 1 = pc') (q : Go wd l R Z y bytes maxL ret n0 K N Q h cells slots pc' Ls (.int (a / b) :: st)) : Go wd l R Z y bytes maxL ret n0 K N Q h cells slots pc Ls (.int b :: .int a :: st) := by
  subst hp; exact Go.of q fun p e s m args below meth c T locs O X eT t hr => XS.idiv X.here O.1 rfl (hb O.2.1 hd) rfl hy hr
theorem Go.ladd {a : Int64} {b : Int64} (hd : decode bytes pc = .ok (.ladd, 1)) (hp : pc + 1 = pc') (q : Go wd l R Z y bytes maxL ret n0 K N Q h cells slots pc' Ls (.long (a + b) :: st)) : Go wd l R Z y bytes maxL ret n0 K N Q h cells slots pc Ls (.long b :: .long a :: st) := by
  subst hp; exact Go.of q fun p e s m args below meth c T locs O X eT t hr => XS.ladd X.here O.1 rfl (hb O.2.1 hd) rfl hr
theorem Go.lsub {a : Int64} {b : Int64} (hd : decode bytes pc = .ok (.lsub, 1)) (hp : pc + 1 = pc') (q : Go wd l R Z y bytes maxL ret n0 K N Q h cells slots pc' Ls (.long (a - b) :: st)) : Go wd l R Z y bytes maxL ret n0 K N Q h cells slots pc Ls (.long b :: .long a :: st) := by
  subst hp; exact Go.of q fun p e s m args below meth c T locs O X eT t hr => XS.lsub X.here O.1 rfl (hb O.2.1 hd) rfl hr
theorem Go.lmul {a : Int64} {b : Int64} (hd : decode bytes pc = .ok (.lmul, 1)) (hp : pc + 1 = pc') (q : Go wd l R Z y bytes maxL ret n0 K N Q h cells slots pc' Ls (.long (a * b) :: st)) : Go wd l R Z y bytes maxL ret n0 K N Q h cells slots pc Ls (.long b :: .long a :: st) := by
  subst hp; exact Go.of q fun p e s m args below meth c T locs O X eT t hr => XS.lmul X.here O.1 rfl (hb O.2.1 hd) rfl hr
theorem Go.land {a : Int64} {b : Int64} (hd : decode bytes pc = .ok (.land, 1)) (hp : pc + 1 = pc') (q : Go wd l R Z y bytes maxL ret n0 K N Q h cells slots pc' Ls (.long (a &&& b) :: st)) : Go wd l R Z y bytes maxL ret n0 K N Q h cells slots pc Ls (.long b :: .long a :: st) := by
  subst hp; exact Go.of q fun p e s m args below meth c T locs O X eT t hr => XS.land X.here O.1 rfl (hb O.2.1 hd) rfl hr
theorem Go.lor {a : Int64} {b : Int64} (hd : decode bytes pc = .ok (.lor, 1)) (hp : pc + 1 = pc') (q : Go wd l R Z y bytes maxL ret n0 K N Q h cells slots pc' Ls (.long (a ||| b) :: st)) : Go wd l R Z y bytes maxL ret n0 K N Q h cells slots pc Ls (.long b :: .long a :: st) := by
  subst hp; exact Go.of q fun p e s m args below meth c T locs O X eT t hr => XS.lor X.here O.1 rfl (hb O.2.1 hd) rfl hr
theorem Go.lxor {a : Int64} {b : Int64} (hd : decode bytes pc = .ok (.lxor, 1)) (hp : pc + 1 = pc') (q : Go wd l R Z y bytes maxL ret n0 K N Q h cells slots pc' Ls (.long (a ^^^ b) :: st)) : Go wd l R Z y bytes maxL ret n0 K N Q h cells slots pc Ls (.long b :: .long a :: st) := by
  subst hp; exact Go.of q fun p e s m args below meth c T locs O X eT t hr => XS.lxor X.here O.1 rfl (hb O.2.1 hd) rfl hr
theorem Go.lshl {a : Int64} {b : Int32} (hd : decode bytes pc = .ok (.lshl, 1)) (hp : pc + 1 = pc') (q : Go wd l R Z y bytes maxL ret n0 K N Q h cells slots pc' Ls (.long (a <<< (b &&& 0x3f).toInt64) :: st)) : Go wd l R Z y bytes maxL ret n0 K N Q h cells slots pc Ls (.int b :: .long a :: st) := by
  subst hp; exact Go.of q fun p e s m args below meth c T locs O X eT t hr => XS.lshl X.here O.1 rfl (hb O.2.1 hd) rfl hr
theorem Go.lshr {a : Int64} {b : Int32} (hd : decode bytes pc = .ok (.lshr, 1)) (hp : pc + 1 = pc') (q : Go wd l R Z y bytes maxL ret n0 K N Q h cells slots pc' Ls (.long (a >>> (b &&& 0x3f).toInt64) :: st)) : Go wd l R Z y bytes maxL ret n0 K N Q h cells slots pc Ls (.int b :: .long a :: st) := by
  subst hp; exact Go.of q fun p e s m args below meth c T locs O X eT t hr => XS.lshr X.here O.1 rfl (hb O.2.1 hd) rfl hr
theorem Go.lushr {a : Int64} {b : Int32} (hd : decode bytes pc = .ok (.lushr, 1)) (hp : pc + 1 = pc') (q : Go wd l R Z y bytes maxL ret n0 K N Q h cells slots pc' Ls (.long ((a.toUInt64 >>> (b &&& 0x3f).toInt64.toUInt64).toInt64) :: st)) : Go wd l R Z y bytes maxL ret n0 K N Q h cells slots pc Ls (.int b :: .long a :: st) := by
  subst hp; exact Go.of q fun p e s m args below meth c T locs O X eT t hr => XS.lushr X.here O.1 rfl (hb O.2.1 hd) rfl hr
theorem Go.ldiv {a : Int64} {b : Int64} (hd : decode bytes pc = .ok (.ldiv, 1)) (hy : b ≠ 0) (hp : pc + 1 = pc') (q : Go wd l R Z y bytes maxL ret n0 K N Q h cells slots pc' Ls (.long (a / b) :: st)) : Go wd l R Z y bytes maxL ret n0 K N Q h cells slots pc Ls (.long b :: .long a :: st) := by
  subst hp; exact Go.of q fun p e s m args below meth c T locs O X eT t hr => XS.ldiv X.here O.1 rfl (hb O.2.1 hd) rfl hy hr
theorem Go.i2b {a : Int32} (hd : decode bytes pc = .ok (.i2b, 1)) (hp : pc + 1 = pc') (q : Go wd l R Z y bytes maxL ret n0 K N Q h cells slots pc' Ls (.int (a.toInt8.toInt32) :: st)) : Go wd l R Z y bytes maxL ret n0 K N Q h cells slots pc Ls (.int a :: st) := by
  subst hp; exact Go.of q fun p e s m args below meth c T locs O X eT t hr => XS.i2b X.here O.1 rfl (hb O.2.1 hd) rfl hr
theorem Go.i2c {a : Int32} (hd : decode bytes pc = .ok (.i2c, 1)) (hp : pc + 1 = pc') (q : Go wd l R Z y bytes maxL ret n0 K N Q h cells slots pc' Ls (.int (a.toUInt32.toUInt16.toUInt32.toInt32) :: st)) : Go wd l R Z y bytes maxL ret n0 K N Q h cells slots pc Ls (.int a :: st) := by
  subst hp; exact Go.of q fun p e s m args below meth c T locs O X eT t hr => XS.i2c X.here O.1 rfl (hb O.2.1 hd) rfl hr
theorem Go.i2s {a : Int32} (hd : decode bytes pc = .ok (.i2s, 1)) (hp : pc + 1 = pc') (q : Go wd l R Z y bytes maxL ret n0 K N Q h cells slots pc' Ls (.int (a.toInt16.toInt32) :: st)) : Go wd l R Z y bytes maxL ret n0 K N Q h cells slots pc Ls (.int a :: st) := by
  subst hp; exact Go.of q fun p e s m args below meth c T locs O X eT t hr => XS.i2s X.here O.1 rfl (hb O.2.1 hd) rfl hr
theorem Go.i2l {a : Int32} (hd : decode bytes pc = .ok (.i2l, 1)) (hp : pc + 1 = pc') (q : Go wd l R Z y bytes maxL ret n0 K N Q h cells slots pc' Ls (.long (a.toInt64) :: st)) : Go wd l R Z y bytes maxL ret n0 K N Q h cells slots pc Ls (.int a :: st) := by
  subst hp; exact Go.of q fun p e s m args below meth c T locs O X eT t hr => XS.i2l X.here O.1 rfl (hb O.2.1 hd) rfl hr
theorem Go.l2i {a : Int64} (hd : decode bytes pc = .ok (.l2i, 1)) (hp : pc + 1 = pc') (q : Go wd l R Z y bytes maxL ret n0 K N Q h cells slots pc' Ls (.int (a.toInt32) :: st)) : Go wd l R Z y bytes maxL ret n0 K N Q h cells slots pc Ls (.long a :: st) := by
  subst hp; exact Go.of q fun p e s m args below meth c T locs O X eT t hr => XS.l2i X.here O.1 rfl (hb O.2.1 hd) rfl hr
theorem Go.lneg {a : Int64} (hd : decode bytes pc = .ok (.lneg, 1)) (hp : pc + 1 = pc') (q : Go wd l R Z y bytes maxL ret n0 K N Q h cells slots pc' Ls (.long (-a) :: st)) : Go wd l R Z y bytes maxL ret n0 K N Q h cells slots pc Ls (.long a :: st) := by
  subst hp; exact Go.of q fun p e s m args below meth c T locs O X eT t hr => XS.lneg X.here O.1 rfl (hb O.2.1 hd) rfl hr
theorem Go.ineg {a : Int32} (hd : decode bytes pc = .ok (.ineg, 1)) (hp : pc + 1 = pc') (q : Go wd l R Z y bytes maxL ret n0 K N Q h cells slots pc' Ls (.int (-a) :: st)) : Go wd l R Z y bytes maxL ret n0 K N Q h cells slots pc Ls (.int a :: st) := by
  subst hp; exact Go.of q fun p e s m args below meth c T locs O X eT t hr => XS.ineg X.here O.1 rfl (hb O.2.1 hd) rfl hr
theorem Go.irem {a b : Int32} (hd : decode bytes pc = .ok (.irem, 1)) (hy : b ≠ 0) (hp : pc + 1 = pc') (q : Go wd l R Z y bytes maxL ret n0 K N Q h cells slots pc' Ls (.int (a % b) :: st)) : Go wd l R Z y bytes maxL ret n0 K N Q h cells slots pc Ls (.int b :: .int a :: st) := by
  subst hp; exact Go.of q fun p e s m args below meth c T locs O X eT t hr => iremM X O.1 rfl (hb O.2.1 hd) rfl hy hr
theorem Go.lrem {a b : Int64} (hd : decode bytes pc = .ok (.lrem, 1)) (hy : b ≠ 0) (hp : pc + 1 = pc') (q : Go wd l R Z y bytes maxL ret n0 K N Q h cells slots pc' Ls (.long (a % b) :: st)) : Go wd l R Z y bytes maxL ret n0 K N Q h cells slots pc Ls (.long b :: .long a :: st) := by
  subst hp; rw [← lrem_mod] at q; exact Go.of q fun p e s m args below meth c T locs O X eT t hr => XS.lrem X.here O.1 rfl (hb O.2.1 hd) rfl hy hr
theorem c_lremM (x y : Int64) (d : Int) (hy : y.toInt = d) : (0 ≤ x.toInt → (x % y).toInt = x.toInt % d) ∧ (x.toInt < 0 → (x % y).toInt = -((-x.toInt) % d)) := by rw [Int64.toInt_mod, hy]; exact tr _ _
/-! branches -/
def jc : ClassFile.Cond → Int32 → Int32 → Prop
  | .eq, x, y => x.toInt = y.toInt
  | .ne, x, y => x.toInt ≠ y.toInt
  | .lt, x, y => x.toInt < y.toInt
  | .ge, x, y => y.toInt ≤ x.toInt
  | .gt, x, y => y.toInt < x.toInt
  | .le, x, y => x.toInt ≤ y.toInt
def jn : ClassFile.Cond → Int32 → Int32 → Prop
  | .eq, x, y => x.toInt ≠ y.toInt
  | .ne, x, y => x.toInt = y.toInt
  | .lt, x, y => y.toInt ≤ x.toInt
  | .ge, x, y => x.toInt < y.toInt
  | .gt, x, y => x.toInt ≤ y.toInt
  | .le, x, y => y.toInt < x.toInt
def zc : ClassFile.Cond → Int32 → Prop
  | .eq, x => x.toInt = 0
  | .ne, x => x.toInt ≠ 0
  | .lt, x => x.toInt < 0
  | .ge, x => 0 ≤ x.toInt
  | .gt, x => 0 < x.toInt
  | .le, x => x.toInt ≤ 0
def zn : ClassFile.Cond → Int32 → Prop
  | .eq, x => x.toInt ≠ 0
  | .ne, x => x.toInt = 0
  | .lt, x => 0 ≤ x.toInt
  | .ge, x => x.toInt < 0
  | .gt, x => x.toInt ≤ 0
  | .le, x => 0 < x.toInt
def wc : ClassFile.Cond → Int64 → Int64 → Prop
  | .eq, x, y => x.toInt = y.toInt
  | .ne, x, y => x.toInt ≠ y.toInt
  | .lt, x, y => x.toInt < y.toInt
  | .ge, x, y => y.toInt ≤ x.toInt
  | .gt, x, y => y.toInt < x.toInt
  | .le, x, y => x.toInt ≤ y.toInt
def wn : ClassFile.Cond → Int64 → Int64 → Prop
  | .eq, x, y => x.toInt ≠ y.toInt
  | .ne, x, y => x.toInt = y.toInt
  | .lt, x, y => y.toInt ≤ x.toInt
  | .ge, x, y => x.toInt < y.toInt
  | .gt, x, y => x.toInt ≤ y.toInt
  | .le, x, y => y.toInt < x.toInt
theorem jc_or (cd : ClassFile.Cond) (x y : Int32) : (if_icmp.holds cd x y = true ∧ jc cd x y) ∨ (if_icmp.holds cd x y = false ∧ jn cd x y) := by
  have i : x = y ↔ x.toInt = y.toInt := Int32.toInt_inj.symm
  cases cd <;> simp only [if_icmp.holds, jc, jn, beq_iff_eq, bne_iff_ne, beq_eq_false_iff_ne, bne_eq_false_iff_eq, decide_eq_true_eq, decide_eq_false_iff_not, Int32.lt_iff_toInt_lt, Int32.le_iff_toInt_le, ge_iff_le, gt_iff_lt, ne_eq, i] <;> omega
theorem zc_or (cd : ClassFile.Cond) (x : Int32) : (ifCond.holds cd x = true ∧ zc cd x) ∨ (ifCond.holds cd x = false ∧ zn cd x) := by
  have z : (0 : Int32).toInt = 0 := rfl
  rcases jc_or cd x 0 with ⟨q, r⟩ | ⟨q, r⟩
  · left; rw [if0]; refine ⟨q, ?_⟩; cases cd <;> simp only [jc, zc, z] at r ⊢ <;> exact r
  · right; rw [if0]; refine ⟨q, ?_⟩; cases cd <;> simp only [jn, zn, z] at r ⊢ <;> exact r
theorem wc_or (cd : ClassFile.Cond) (x y : Int64) : (ifCond.holds cd (lcmpW x y) = true ∧ wc cd x y) ∨ (ifCond.holds cd (lcmpW x y) = false ∧ wn cd x y) := by
  have e := c_lcmp x y
  rcases zc_or cd (lcmpW x y) with ⟨q, r⟩ | ⟨q, r⟩
  · left; refine ⟨q, ?_⟩; cases cd <;> simp only [zc, wc, ne_eq] at r ⊢ <;> omega
  · right; refine ⟨q, ?_⟩; cases cd <;> simp only [zn, wn, ne_eq] at r ⊢ <;> omega
theorem Go.icmp {cd : ClassFile.Cond} {o : Int} {x z : Int32} {pc1 pc2 : Nat} (hd : decode bytes pc = .ok (.if_icmp cd o, 3)) (ho : 0 ≤ (pc : Int) + o) (hp : ((pc : Int) + o).toNat = pc1) (hp2 : pc + 3 = pc2)
    (q1 : jc cd x z → Go wd l R Z y bytes maxL ret n0 K N Q h cells slots pc1 Ls st) (q2 : jn cd x z → Go wd l R Z y bytes maxL ret n0 K N Q h cells slots pc2 Ls st) : Go wd l R Z y bytes maxL ret n0 K N Q h cells slots pc Ls (.int z :: .int x :: st) := by
  rcases jc_or cd x z with ⟨hc, r⟩ | ⟨hc, r⟩
  · exact Go.of (q1 r) fun p e s m args below meth c T locs O X eT t hr => XS.icmpYes X.here O.1 rfl (pc0 := pc) rfl (hb O.2.1 hd) rfl hc ho hp hr
  · subst hp2; exact Go.of (q2 r) fun p e s m args below meth c T locs O X eT t hr => XS.icmpNo X.here O.1 rfl (hb O.2.1 hd) rfl hc hr
theorem Go.ifc {cd : ClassFile.Cond} {o : Int} {x : Int32} {pc1 pc2 : Nat} (hd : decode bytes pc = .ok (.ifCond cd o, 3)) (ho : 0 ≤ (pc : Int) + o) (hp : ((pc : Int) + o).toNat = pc1) (hp2 : pc + 3 = pc2)
    (q1 : zc cd x → Go wd l R Z y bytes maxL ret n0 K N Q h cells slots pc1 Ls st) (q2 : zn cd x → Go wd l R Z y bytes maxL ret n0 K N Q h cells slots pc2 Ls st) : Go wd l R Z y bytes maxL ret n0 K N Q h cells slots pc Ls (.int x :: st) := by
  rcases zc_or cd x with ⟨hc, r⟩ | ⟨hc, r⟩
  · exact Go.of (q1 r) fun p e s m args below meth c T locs O X eT t hr => XS.ifYes X.here O.1 rfl (pc0 := pc) rfl (hb O.2.1 hd) rfl hc ho hp hr
  · subst hp2; exact Go.of (q2 r) fun p e s m args below meth c T locs O X eT t hr => XS.ifNo X.here O.1 rfl (hb O.2.1 hd) rfl hc hr
theorem Go.lcmp {a b : Int64} (hd : decode bytes pc = .ok (.lcmp, 1)) (hp : pc + 1 = pc') (q : Go wd l R Z y bytes maxL ret n0 K N Q h cells slots pc' Ls (.int (lcmpW a b) :: st)) : Go wd l R Z y bytes maxL ret n0 K N Q h cells slots pc Ls (.long b :: .long a :: st) := by
  subst hp; exact Go.of q fun p e s m args below meth c T locs O X eT t hr => XS.lcmp X.here O.1 rfl (hb O.2.1 hd) rfl hr
theorem Go.ifw {cd : ClassFile.Cond} {o : Int} {a b : Int64} {pc1 pc2 : Nat} (hd : decode bytes pc = .ok (.ifCond cd o, 3)) (ho : 0 ≤ (pc : Int) + o) (hp : ((pc : Int) + o).toNat = pc1) (hp2 : pc + 3 = pc2)
    (q1 : wc cd a b → Go wd l R Z y bytes maxL ret n0 K N Q h cells slots pc1 Ls st) (q2 : wn cd a b → Go wd l R Z y bytes maxL ret n0 K N Q h cells slots pc2 Ls st) : Go wd l R Z y bytes maxL ret n0 K N Q h cells slots pc Ls (.int (lcmpW a b) :: st) := by
  rcases wc_or cd a b with ⟨hc, r⟩ | ⟨hc, r⟩
  · exact Go.of (q1 r) fun p e s m args below meth c T locs O X eT t hr => XS.ifYes X.here O.1 rfl (pc0 := pc) rfl (hb O.2.1 hd) rfl hc ho hp hr
  · subst hp2; exact Go.of (q2 r) fun p e s m args below meth c T locs O X eT t hr => XS.ifNo X.here O.1 rfl (hb O.2.1 hd) rfl hc hr
theorem Go.nonnullYes {o : Int} {a : Addr} (hd : decode bytes pc = .ok (.ifnonnull o, 3)) (ho : 0 ≤ (pc : Int) + o) (hp : ((pc : Int) + o).toNat = pc') (q : Go wd l R Z y bytes maxL ret n0 K N Q h cells slots pc' Ls st) : Go wd l R Z y bytes maxL ret n0 K N Q h cells slots pc Ls (.ref a :: st) :=
  Go.of q fun p e s m args below meth c T locs O X eT t hr => XS.ifnonnullYes X.here O.1 rfl (pc0 := pc) rfl (hb O.2.1 hd) rfl ho hp hr
theorem Go.nonnullNo {o : Int} (hd : decode bytes pc = .ok (.ifnonnull o, 3)) (hp : pc + 3 = pc') (q : Go wd l R Z y bytes maxL ret n0 K N Q h cells slots pc' Ls st) : Go wd l R Z y bytes maxL ret n0 K N Q h cells slots pc Ls (.null :: st) := by
  subst hp; exact Go.of q fun p e s m args below meth c T locs O X eT t hr => XS.ifnonnullNo X.here O.1 rfl (hb O.2.1 hd) rfl hr
theorem Go.nullYes {o : Int} (hd : decode bytes pc = .ok (.ifnull o, 3)) (ho : 0 ≤ (pc : Int) + o) (hp : ((pc : Int) + o).toNat = pc') (q : Go wd l R Z y bytes maxL ret n0 K N Q h cells slots pc' Ls st) : Go wd l R Z y bytes maxL ret n0 K N Q h cells slots pc Ls (.null :: st) :=
  Go.of q fun p e s m args below meth c T locs O X eT t hr => XS.ifnullYes X.here O.1 rfl (pc0 := pc) rfl (hb O.2.1 hd) rfl ho hp hr
theorem Go.nullNo {o : Int} {a : Addr} (hd : decode bytes pc = .ok (.ifnull o, 3)) (hp : pc + 3 = pc') (q : Go wd l R Z y bytes maxL ret n0 K N Q h cells slots pc' Ls st) : Go wd l R Z y bytes maxL ret n0 K N Q h cells slots pc Ls (.ref a :: st) := by
  subst hp; exact Go.of q fun p e s m args below meth c T locs O X eT t hr => XS.ifnullNo X.here O.1 rfl (hb O.2.1 hd) rfl hr
/-- if_acmp: q1 where they are the same, q2 where they aren't -/
theorem Go.acmp {cd : ACond} {o : Int} {u w : Value} {pc1 pc2 : Nat} (hd : decode bytes pc = .ok (.if_acmp cd o, 3)) (hu : u.isRef = true) (hw : w.isRef = true) (ho : 0 ≤ (pc : Int) + o) (hp : (if acV cd true = true then ((pc : Int) + o).toNat else pc + 3) = pc1) (hp2 : (if acV cd false = true then ((pc : Int) + o).toNat else pc + 3) = pc2)
    (q1 : u = w → Go wd l R Z y bytes maxL ret n0 K N Q h cells slots pc1 Ls st) (q2 : u ≠ w → Go wd l R Z y bytes maxL ret n0 K N Q h cells slots pc2 Ls st) : Go wd l R Z y bytes maxL ret n0 K N Q h cells slots pc Ls (w :: u :: st) := by
  by_cases r : u = w
  · exact Go.of (q1 r) fun p e s m args below meth c T locs O X eT t hr => RoadKit.acmp X O.1 rfl hu hw (pc0 := pc) (same := true) rfl (hb O.2.1 hd) rfl (decide_eq_true r) ho hp.symm hr
  · exact Go.of (q2 r) fun p e s m args below meth c T locs O X eT t hr => RoadKit.acmp X O.1 rfl hu hw (pc0 := pc) (same := false) rfl (hb O.2.1 hd) rfl (decide_eq_false r) ho hp2.symm hr
/-! constants of the pool -/
theorem Go.ldcI {i : Nat} {v : Int32} (w : (Cond.constant y.cls i v).before a0 Z = true) (hd : decode bytes pc = .ok (.ldc i, 2)) (hp : pc + 2 = pc') (q : Go wd l R Z y bytes maxL ret n0 K N Q h cells slots pc' Ls (.int v :: st)) : Go wd l R Z y bytes maxL ret n0 K N Q h cells slots pc Ls st := by
  subst hp; exact Go.of q fun p e s m args below meth c T locs O X eT t hr => X.ldcInt O.1 O.2.2.2.1 (mvT O.2.2.2.2.2.1 w) (g := mkF m pc Ls st) rfl (hb O.2.1 hd) t hr
theorem Go.ldcW {i : Nat} {v : Int32} (w : (Cond.constant y.cls i v).before a0 Z = true) (hd : decode bytes pc = .ok (.ldc_w i, 3)) (hp : pc + 3 = pc') (q : Go wd l R Z y bytes maxL ret n0 K N Q h cells slots pc' Ls (.int v :: st)) : Go wd l R Z y bytes maxL ret n0 K N Q h cells slots pc Ls st := by
  subst hp; exact Go.of q fun p e s m args below meth c T locs O X eT t hr => X.ldcwInt O.1 O.2.2.2.1 (mvT O.2.2.2.2.2.1 w) (g := mkF m pc Ls st) rfl (hb O.2.1 hd) t hr
theorem Go.ldcL {i : Nat} {v : Int64} (w : (Cond.constantLong y.cls i v).before a0 Z = true) (hd : decode bytes pc = .ok (.ldc2_w i, 3)) (hp : pc + 3 = pc') (q : Go wd l R Z y bytes maxL ret n0 K N Q h cells slots pc' Ls (.long v :: st)) : Go wd l R Z y bytes maxL ret n0 K N Q h cells slots pc Ls st := by
  subst hp; exact Go.of q fun p e s m args below meth c T locs O X eT t hr => X.ldc2Long O.1 O.2.2.2.1 (mvT O.2.2.2.2.2.1 w) (g := mkF m pc Ls st) rfl (hb O.2.1 hd) t hr
/-! the ends -/
theorem Go.leave {v : Option Value} (hv : ret = none → v = none) (hQ : Q v h) (hk : cells ≤ K) (hn : slots ≤ N)
    (q : ∀ (p : Program) (e : Env) (s : State) (m : MethodId) (args : Array Value) (below : List Frame) (meth : Method) (c : Code) (T : State) (locs : List Loc) (fs : List Frame), Own Z y bytes maxL ret p s m meth c → Stand p l e R s m args below meth c T locs cells slots →
      (∀ (f : JFrame) (acts : List Action), f.method = m → f.locked = none → f.entered = [] → (doReturn e (T.setTop f) acts v).1 = T.setFrames fs) → Steps p.tables e below (T.setTop (mkF m pc Ls st)) (T.setFrames fs)) : Go wd l R Z y bytes maxL ret n0 K N Q h cells slots pc Ls st := by
  intro p e s0 s m args below meth c T locs hR O X eT F
  obtain ⟨fs, hr, hrun, hended, hW, hsame⟩ := X.leave (v := v) (fun r => hv (by rw [← O.2.2.2.2.2.2.1]; exact r)) O.2.2.2.2.2.2.2
  have hE : GoEnd wd s0 (.returned v) (T.setFrames fs) locs K N := GoRel.ended (U := T.setFrames fs) (by show GoRel wd s0 s T.heap.size; rw [eT]; exact hR) hW hsame hk hn
  refine ⟨_, _, q p e s m args below meth c T locs fs O X hr, hrun, hended, v, locs, rfl, ⟨?_, fun y hy => Nat.le_trans (wd.bound_le n0) (F y hy)⟩, hE⟩
  show Q v T.heap
  rw [eT]; exact hQ
theorem Go.ret0 (hd : decode bytes pc = .ok (.return_, 1)) (hr : ret = none) (hQ : Q none h) (hk : cells ≤ K) (hn : slots ≤ N) : Go wd l R Z y bytes maxL ret n0 K N Q h cells slots pc Ls [] :=
  Go.leave (v := none) (fun _ => rfl) hQ hk hn fun p e s m args below meth c T locs fs O X hl => X.returnOut O.1 (O.2.2.2.2.2.2.1.trans hr) (hb O.2.1 hd) hl
theorem Go.retI {v : Int32} (hd : decode bytes pc = .ok (.ireturn, 1)) (hr : ret = some .int) (hQ : Q (some (.int v)) h) (hk : cells ≤ K) (hn : slots ≤ N) : Go wd l R Z y bytes maxL ret n0 K N Q h cells slots pc Ls (.int v :: st) :=
  Go.leave (v := some (.int v)) (fun r => by rw [hr] at r; cases r) hQ hk hn fun p e s m args below meth c T locs fs O X hl => retOut X O.1 (O.2.2.2.2.2.2.1.trans hr) rfl (Or.inl ⟨rfl, Or.inl rfl, _, rfl⟩) (hb O.2.1 hd) hl
theorem Go.retN {v : Int32} {t : FieldType} (hd : decode bytes pc = .ok (.ireturn, 1)) (hr : ret = some t) (ht : t = .boolean ∨ t = .byte ∨ t = .char ∨ t = .short) (hv : nar t v = v) (hQ : Q (some (.int v)) h) (hk : cells ≤ K) (hn : slots ≤ N) : Go wd l R Z y bytes maxL ret n0 K N Q h cells slots pc Ls (.int v :: st) :=
  Go.leave (v := some (.int v)) (fun r => by rw [hr] at r; cases r) hQ hk hn fun p e s m args below meth c T locs fs O X hl => RoadKit.retN X O.1 (O.2.2.2.2.2.2.1.trans hr) ht (hb O.2.1 hd) (by rw [hv]; exact hl)
theorem Go.retL {v : Int64} (hd : decode bytes pc = .ok (.lreturn, 1)) (hr : ret = some .long) (hQ : Q (some (.long v)) h) (hk : cells ≤ K) (hn : slots ≤ N) : Go wd l R Z y bytes maxL ret n0 K N Q h cells slots pc Ls (.long v :: st) :=
  Go.leave (v := some (.long v)) (fun r => by rw [hr] at r; cases r) hQ hk hn fun p e s m args below meth c T locs fs O X hl => retOut X O.1 (O.2.2.2.2.2.2.1.trans hr) rfl (Or.inr (Or.inl ⟨rfl, rfl, _, rfl⟩)) (hb O.2.1 hd) hl
theorem Go.retA {v : Value} {t : FieldType} (hd : decode bytes pc = .ok (.areturn, 1)) (hr : ret = some t) (ht : t.isReference = true) (hv : v.isRef = true) (hQ : Q (some v) h) (hk : cells ≤ K) (hn : slots ≤ N) : Go wd l R Z y bytes maxL ret n0 K N Q h cells slots pc Ls (v :: st) :=
  Go.leave (v := some v) (fun r => by rw [hr] at r; cases r) hQ hk hn fun p e s m args below meth c T locs fs O X hl => retOut X O.1 (O.2.2.2.2.2.2.1.trans hr) (by cases t <;> first | rfl | (cases ht; done)) (Or.inr (Or.inr (Or.inr (Or.inr ⟨rfl, ht, hv⟩)))) (hb O.2.1 hd) hl
/-! the heap -/
theorem Go.newO {C : String} {i n : Nat} (w1 : (Cond.classLink y.cls i C).before a0 Z = true) (w2 : (Cond.instantiable C n).before a0 Z = true) (w3 : (Cond.initialized C).before a0 Z = true) (hd : decode bytes pc = .ok (.new i, 3)) (hc : cells + 1 ≤ R.cells) (hs : slots + n ≤ R.slots) (hp : pc + 3 = pc')
    (q : ∀ (h' : Heap) (a : Addr), a = h.size → Ext h h' → Exa Z h' a C → (∀ {O nm d : String} {ty : FieldType}, Laid Z a0 C O nm d → parseFieldDescriptor d = some ty → Fld Z h' a O nm d (defaultValue ty)) → Go wd l R Z y bytes maxL ret n0 K N Q h' (cells + 1) (slots + n) pc' Ls (.ref a :: st)) : Go wd l R Z y bytes maxL ret n0 K N Q h cells slots pc Ls st := by
  subst hp
  intro p e s0 s m args below meth c T locs hR O X eT F
  obtain ⟨T2, h2, X2, e2, E2, A2, D2, -, st2⟩ := RoadKit.newO X O.1 O.2.2.2.2.2.1 O.2.2.2.1 w1 w2 w3 eT (g := mkF m pc Ls st) rfl (hb O.2.1 hd) hc hs
  obtain ⟨s₂, o, h1, r⟩ := q h2 _ rfl E2 A2 D2 p e s0 s m args below meth c T2 locs (hR.mono E2.1) O X2 e2 F
  exact ⟨s₂, o, st2 _ h1, r⟩
theorem Go.initO {i W : Nat} {a : Addr} (w1 : (Cond.methodLink y.cls i Lib.objectInit).before a0 Z = true) (w2 : (Cond.instanceMethod Lib.objectInit).before a0 Z = true) (w3 : (Cond.code Lib.objectInit ⟨#[0xb1]⟩ 1 none).before a0 Z = true) (hd : decode bytes pc = .ok (.invokespecial i, 3)) (hz : Ls.size = maxL)
    (hf : 1 ≤ R.frames) (hW : (st.map fun v => v.category).sum ≤ W) (hl : W + 12 ≤ R.locals) (hp : pc + 3 = pc') (q : Go wd l R Z y bytes maxL ret n0 K N Q h cells slots pc' Ls st) : Go wd l R Z y bytes maxL ret n0 K N Q h cells slots pc Ls (.ref a :: st) := by
  subst hp
  intro p e s0 s m args below meth c T locs hR O X eT F
  obtain ⟨T2, X2, e2, st2⟩ := RoadKit.initO X O.1 O.2.2.2.2.2.1 O.2.2.2.1 w1 w2 w3 eT (g := mkF m pc Ls (.ref a :: st)) rfl (hz.trans O.2.2.1.symm) rfl (hb O.2.1 hd) hf (W := W) (by show 2 * 0 + _ ≤ _; omega) hl
  obtain ⟨s₂, o, h1, r⟩ := q p e s0 s m args below meth c T2 locs hR O X2 e2 F
  exact ⟨s₂, o, st2 _ h1, r⟩
theorem Go.getF {C n d : String} {i : Nat} {a : Addr} {v : Value} (w : (Cond.fieldLink y.cls i C n d).before a0 Z = true) (hF : Fld Z h a C n d v) (hd : decode bytes pc = .ok (.getfield i, 3)) (hp : pc + 3 = pc') (q : Go wd l R Z y bytes maxL ret n0 K N Q h cells slots pc' Ls (v :: st)) : Go wd l R Z y bytes maxL ret n0 K N Q h cells slots pc Ls (.ref a :: st) := by
  subst hp
  intro p e s0 s m args below meth c T locs hR O X eT F
  obtain ⟨T2, X2, e2, st2⟩ := RoadKit.getF X O.1 O.2.2.2.2.2.1 O.2.2.2.1 (host := "") (Or.inl w) Via.refl eT hF (g := mkF m pc Ls (.ref a :: st)) rfl rfl (hb O.2.1 hd)
  obtain ⟨s₂, o, h1, r⟩ := q p e s0 s m args below meth c T2 locs hR O X2 e2 F
  exact ⟨s₂, o, st2 _ h1, r⟩
theorem Go.getS {C n d : String} {i : Nat} {v : Value} (w : (Cond.fieldLink y.cls i C n d).before a0 Z = true) (hF : Sta Z h C n d v) (hd : decode bytes pc = .ok (.getstatic i, 3)) (hp : pc + 3 = pc') (q : Go wd l R Z y bytes maxL ret n0 K N Q h cells slots pc' Ls (v :: st)) : Go wd l R Z y bytes maxL ret n0 K N Q h cells slots pc Ls st := by
  subst hp
  intro p e s0 s m args below meth c T locs hR O X eT F
  obtain ⟨T2, X2, e2, st2⟩ := RoadKit.getS2 X O.1 O.2.2.2.2.2.1 O.2.2.2.1 (host := "") (Or.inl w) Via.refl eT hF (g := mkF m pc Ls st) rfl (hb O.2.1 hd)
  obtain ⟨s₂, o, h1, r⟩ := q p e s0 s m args below meth c T2 locs hR O X2 e2 F
  exact ⟨s₂, o, st2 _ h1, r⟩
theorem Go.putF {C n d : String} {i kk : Nat} {ty : FieldType} {a : Addr} {v old : Value} (w : (Cond.fieldLink y.cls i C n d).before a0 Z = true) (hF : Fld Z h a C n d old) (hE : Exa Z h a C) (hL : (Cond.lays C C n d).before a0 Z = true ∨ ((Cond.laysFinal C C n d).before a0 Z = true ∧ y.cls = C ∧ y.name = "<init>")) (wi : (Cond.instantiable C kk).before a0 Z = true)
    (hty : parseFieldDescriptor d = some ty) (hn : narrow ty v = v) (hf : fits ty v = true) (hd : decode bytes pc = .ok (.putfield i, 3)) (ha : n0 ≤ a) (hp : pc + 3 = pc') (q : ∀ h', Wr h h' a (slotOf Z C n d) v → Go wd l R Z y bytes maxL ret n0 K N Q h' cells slots pc' Ls st) : Go wd l R Z y bytes maxL ret n0 K N Q h cells slots pc Ls (v :: .ref a :: st) := by
  subst hp
  intro p e s0 s m args below meth c T locs hR O X eT F
  obtain ⟨T2, h2, X2, e2, W2, st2⟩ := RoadKit.putF X O.1 O.2.2.2.2.2.1 O.2.2.2.1 (host := "") (Or.inl w) Via.refl eT hF hE (hL.imp_right fun r => ⟨r.1, r.2.1, O.2.2.2.2.1.trans r.2.2⟩) wi hty hn hf (g := mkF m pc Ls (v :: .ref a :: st)) rfl rfl (hb O.2.1 hd)
  obtain ⟨s₂, o, h1, r⟩ := q h2 W2 p e s0 s m args below meth c T2 _ (hR.mono (Nat.le_of_eq W2.size.symm)) O X2 e2 (Fr.snoc X2 F ha)
  exact ⟨s₂, o, st2 _ h1, r⟩
/-! facts carried from heap to heap -/
def Sm (h h' : Heap) (a : Addr) : Prop := ∀ c : Cell, h[a]? = some c → h'[a]? = some c
theorem Sm.ext {h h' : Heap} {a : Addr} (E : Ext h h') : Sm h h' a := fun c q => E.2 a c q
theorem Sm.keep {h h' : Heap} {a : Addr} {ws : List Addr} (E : Keep h h' ws) (q : a ∉ ws) : Sm h h' a := fun c r => E.2.1 a c r q
theorem Sm.wr {h h' : Heap} {a b : Addr} {sl : Nat} {v : Value} (W : Wr h h' b sl v) (q : a ≠ b) : Sm h h' a := Sm.keep (Keep.of_wr W) (by simpa using q)
theorem Sm.trans {h h' h'' : Heap} {a : Addr} (A : Sm h h' a) (B : Sm h' h'' a) : Sm h h'' a := fun c r => B c (A c r)
theorem Fld.sm {h h' : Heap} {a : Addr} {C n d : String} {v : Value} (F : Fld Z h a C n d v) (S : Sm h h' a) : Fld Z h' a C n d v := by
  obtain ⟨cell, cf, k, i, f, h1, r⟩ := F; exact ⟨cell, cf, k, i, f, S _ h1, r⟩
theorem Exa.sm {h h' : Heap} {a : Addr} {C : String} (F : Exa Z h a C) (S : Sm h h' a) : Exa Z h' a C := by
  obtain ⟨cell, k, h1, r⟩ := F; exact ⟨cell, k, S _ h1, r⟩
theorem Arr.sm {h h' : Heap} {a : Addr} {c : Cell} {ty : FieldType} (F : Arr Z h a c ty) (S : Sm h h' a) : Arr Z h' a c ty := ⟨S _ F.1, F.2⟩
/-- the array at a holds just these values -/
def Ary (Z : State) (h : Heap) (a : Addr) (ty : FieldType) (vs : List Value) : Prop := ∃ c : Cell, Arr Z h a c ty ∧ c.slots = vs.toArray
theorem Ary.sm {h h' : Heap} {a : Addr} {ty : FieldType} {vs : List Value} (F : Ary Z h a ty vs) (S : Sm h h' a) : Ary Z h' a ty vs := by
  obtain ⟨c, A, r⟩ := F; exact ⟨c, A.sm S, r⟩
theorem Ary.lt {h : Heap} {a : Addr} {ty : FieldType} {vs : List Value} (F : Ary Z h a ty vs) : a < h.size := by
  obtain ⟨c, A, r⟩ := F; exact A.lt
theorem Ary.eq {h : Heap} {a : Addr} {ty : FieldType} {vs vs' : List Value} (F : Ary Z h a ty vs) (q : vs = vs') : Ary Z h a ty vs' := q ▸ F
theorem Ary.set {h h' : Heap} {a : Addr} {ty : FieldType} {vs : List Value} {k : Nat} {v : Value} (F : Ary Z h a ty vs) (W : Wr h h' a k v) : Ary Z h' a ty (vs.set k v) := by
  obtain ⟨c, A, r⟩ := F
  refine ⟨_, A.same W, ?_⟩
  show c.slots.setIfInBounds k v = _
  rw [r]; simp
theorem clamp_of {j : Int32} {k : Nat} (hj : j.toInt = (k : Int)) : j.toNatClampNeg = k := by
  show j.toInt.toNat = k; omega
theorem inb {j : Int32} {k : Nat} {c : Cell} {vs : List Value} (hj : j.toInt = (k : Int)) (hc : c.slots = vs.toArray) (hk : k < vs.length) : ¬ (j < 0 ∨ c.slots.size ≤ j.toNatClampNeg) := by
  have z : (0 : Int32).toInt = 0 := rfl
  rw [clamp_of hj, hc, Int32.lt_iff_toInt_lt, z]; simp; omega
theorem lt_of_get {vs : List Value} {k : Nat} {v : Value} (h : vs[k]? = some v) : k < vs.length := (List.getElem?_eq_some_iff.mp h).1
theorem Go.newA {aty : ArrayType} {n : Int32} {k : Nat} {ty : FieldType} (w : (Cond.arrayClass ty).before a0 Z = true) (hty : newarray.typeOf aty = ty) (hn : n.toInt = (k : Int)) {cap : Nat} (hcap : k ≤ cap) (hb8 : cap * 8 ≤ 536870912) (hd : decode bytes pc = .ok (.newarray aty, 2)) (hc : cells + 1 ≤ R.cells) (hs : slots + cap ≤ R.slots) (hp : pc + 2 = pc')
    (q : ∀ (h' : Heap) (a : Addr), a = h.size → Ext h h' → Ary Z h' a ty (List.replicate k (defaultValue ty)) → Go wd l R Z y bytes maxL ret n0 K N Q h' (cells + 1) (slots + cap) pc' Ls (.ref a :: st)) : Go wd l R Z y bytes maxL ret n0 K N Q h cells slots pc Ls (.int n :: st) := by
  subst hp hty
  intro p e s0 s m args below meth c T locs hR O X eT F
  have z : (0 : Int32).toInt = 0 := rfl
  have hn0 : ¬ n < 0 := by rw [Int32.lt_iff_toInt_lt, z]; omega
  obtain ⟨T2, h2, cA, X2, e2, E2, A2, st2⟩ := RoadKit.newP X O.1 O.2.2.2.2.2.1 w eT (g := mkF m pc Ls (.int n :: st)) rfl (hb O.2.1 hd) rfl hn0 (cap := cap) (by rw [clamp_of hn]; exact hcap) hb8 hc hs
  obtain ⟨s₂, o, h1, r⟩ := q h2 _ rfl E2 ⟨_, A2, by simp [RoadKit.newA, clamp_of hn]⟩ p e s0 s m args below meth c T2 locs (hR.mono E2.1) O X2 e2 F
  exact ⟨s₂, o, st2 _ h1, r⟩
theorem Go.alen {a : Addr} {ty : FieldType} {vs : List Value} {z : Int32} (hA : Ary Z h a ty vs) (hz : z.toInt = (vs.length : Int)) (hd : decode bytes pc = .ok (.arraylength, 1)) (hp : pc + 1 = pc') (q : Go wd l R Z y bytes maxL ret n0 K N Q h cells slots pc' Ls (.int z :: st)) : Go wd l R Z y bytes maxL ret n0 K N Q h cells slots pc Ls (.ref a :: st) := by
  subst hp
  obtain ⟨cl, A, r⟩ := hA
  have e1 : cl.slots.size.toInt32 = z := by
    have := z.toInt_lt
    rw [r]; apply Int32.toInt_inj.mp
    rw [hz]
    have q1 : vs.toArray.size = vs.length := by simp
    rw [q1]; exact len_toInt (by omega)
  exact Go.of q fun p e s m args below meth c T locs O X eT t hr => X.arraylength O.1 (cell := cl) (by rw [eT]; exact A.1) (State.isArrayOf_alike O.2.2.2.2.2.1.alike A.2.1) (g := mkF m pc Ls (.ref a :: st)) rfl (rest := st) rfl (hb O.2.1 hd) _ (by rw [e1]; exact hr)
theorem Go.ldI {a : Addr} {vs : List Value} {j : Int32} {k : Nat} {v : Value} (hA : Ary Z h a .int vs) (hj : j.toInt = (k : Int)) (hv : vs[k]? = some v) (hd : decode bytes pc = .ok (.iaload, 1)) (hp : pc + 1 = pc') (q : Go wd l R Z y bytes maxL ret n0 K N Q h cells slots pc' Ls (v :: st)) : Go wd l R Z y bytes maxL ret n0 K N Q h cells slots pc Ls (.int j :: .ref a :: st) := by
  subst hp
  obtain ⟨cl, A, r⟩ := hA
  exact Go.of q fun p e s m args below meth c T locs O X eT t hr => X.iaload O.1 (j := j) (v := v) (by rw [eT]; exact A.1) (State.isArrayOf_alike O.2.2.2.2.2.1.alike A.2.1) A.2.2 (inb hj r (lt_of_get hv)) (by rw [clamp_of hj, r]; simpa using hv) (g := mkF m pc Ls (.int j :: .ref a :: st)) rfl rfl (hb O.2.1 hd) _ hr
theorem Go.ldJ {a : Addr} {vs : List Value} {j : Int32} {k : Nat} {v : Value} (hA : Ary Z h a .long vs) (hj : j.toInt = (k : Int)) (hv : vs[k]? = some v) (hd : decode bytes pc = .ok (.laload, 1)) (hp : pc + 1 = pc') (q : Go wd l R Z y bytes maxL ret n0 K N Q h cells slots pc' Ls (v :: st)) : Go wd l R Z y bytes maxL ret n0 K N Q h cells slots pc Ls (.int j :: .ref a :: st) := by
  subst hp
  obtain ⟨cl, A, r⟩ := hA
  exact Go.of q fun p e s m args below meth c T locs O X eT t hr => X.laload O.1 (j := j) (v := v) (by rw [eT]; exact A.1) (State.isArrayOf_alike O.2.2.2.2.2.1.alike A.2.1) A.2.2 (inb hj r (lt_of_get hv)) (by rw [clamp_of hj, r]; simpa using hv) (g := mkF m pc Ls (.int j :: .ref a :: st)) rfl rfl (hb O.2.1 hd) _ hr
theorem Go.ldC {a : Addr} {vs : List Value} {j : Int32} {k : Nat} {v : Value} (hA : Ary Z h a .char vs) (hj : j.toInt = (k : Int)) (hv : vs[k]? = some v) (hd : decode bytes pc = .ok (.caload, 1)) (hp : pc + 1 = pc') (q : Go wd l R Z y bytes maxL ret n0 K N Q h cells slots pc' Ls (v :: st)) : Go wd l R Z y bytes maxL ret n0 K N Q h cells slots pc Ls (.int j :: .ref a :: st) := by
  subst hp
  obtain ⟨cl, A, r⟩ := hA
  exact Go.of q fun p e s m args below meth c T locs O X eT t hr => X.caload O.1 (j := j) (v := v) (by rw [eT]; exact A.1) (State.isArrayOf_alike O.2.2.2.2.2.1.alike A.2.1) A.2.2 (inb hj r (lt_of_get hv)) (by rw [clamp_of hj, r]; simpa using hv) (g := mkF m pc Ls (.int j :: .ref a :: st)) rfl rfl (hb O.2.1 hd) _ hr
theorem Go.ldA {a : Addr} {ty : FieldType} {vs : List Value} {j : Int32} {k : Nat} {v : Value} (hA : Ary Z h a ty vs) (hty : ty.isReference = true) (hj : j.toInt = (k : Int)) (hv : vs[k]? = some v) (hd : decode bytes pc = .ok (.aaload, 1)) (hp : pc + 1 = pc') (q : Go wd l R Z y bytes maxL ret n0 K N Q h cells slots pc' Ls (v :: st)) : Go wd l R Z y bytes maxL ret n0 K N Q h cells slots pc Ls (.int j :: .ref a :: st) := by
  subst hp
  obtain ⟨cl, A, r⟩ := hA
  exact Go.of q fun p e s m args below meth c T locs O X eT t hr => X.aaload O.1 (j := j) (v := v) (by rw [eT]; exact A.1) (State.isArrayOf_alike O.2.2.2.2.2.1.alike A.2.1) hty A.2.2 (inb hj r (lt_of_get hv)) (by rw [clamp_of hj, r]; simpa using hv) (g := mkF m pc Ls (.int j :: .ref a :: st)) rfl rfl (hb O.2.1 hd) _ hr
theorem Go.stI {a : Addr} {vs : List Value} {j v : Int32} {k : Nat} (hA : Ary Z h a .int vs) (hj : j.toInt = (k : Int)) (hk : k < vs.length) (hd : decode bytes pc = .ok (.iastore, 1)) (ha : n0 ≤ a) (hp : pc + 1 = pc')
    (q : ∀ h', Wr h h' a k (.int v) → Ary Z h' a .int (vs.set k (.int v)) → Go wd l R Z y bytes maxL ret n0 K N Q h' cells slots pc' Ls st) : Go wd l R Z y bytes maxL ret n0 K N Q h cells slots pc Ls (.int v :: .int j :: .ref a :: st) := by
  subst hp
  have hA' := hA
  obtain ⟨cl, A, r⟩ := hA
  intro p e s0 s m args below meth c T locs hR O X eT F
  obtain ⟨T2, h2, X2, e2, W2, st2⟩ := RoadKit.stI X O.1 O.2.2.2.2.2.1 eT A (j := j) (x := v) (inb hj r hk) (g := mkF m pc Ls (.int v :: .int j :: .ref a :: st)) rfl rfl (hb O.2.1 hd)
  rw [clamp_of hj] at X2 W2
  obtain ⟨s₂, o, h1, r⟩ := q h2 W2 (hA'.set W2) p e s0 s m args below meth c T2 _ (hR.mono (Nat.le_of_eq W2.size.symm)) O X2 e2 (Fr.snoc X2 F ha)
  exact ⟨s₂, o, st2 _ h1, r⟩
theorem Go.stJ {a : Addr} {vs : List Value} {j : Int32} {v : Int64} {k : Nat} (hA : Ary Z h a .long vs) (hj : j.toInt = (k : Int)) (hk : k < vs.length) (hd : decode bytes pc = .ok (.lastore, 1)) (ha : n0 ≤ a) (hp : pc + 1 = pc')
    (q : ∀ h', Wr h h' a k (.long v) → Ary Z h' a .long (vs.set k (.long v)) → Go wd l R Z y bytes maxL ret n0 K N Q h' cells slots pc' Ls st) : Go wd l R Z y bytes maxL ret n0 K N Q h cells slots pc Ls (.long v :: .int j :: .ref a :: st) := by
  subst hp
  have hA' := hA
  obtain ⟨cl, A, r⟩ := hA
  intro p e s0 s m args below meth c T locs hR O X eT F
  obtain ⟨T2, h2, X2, e2, W2, st2⟩ := RoadKit.stJ X O.1 O.2.2.2.2.2.1 eT A (j := j) (x := v) (inb hj r hk) (g := mkF m pc Ls (.long v :: .int j :: .ref a :: st)) rfl rfl (hb O.2.1 hd)
  rw [clamp_of hj] at X2 W2
  obtain ⟨s₂, o, h1, r⟩ := q h2 W2 (hA'.set W2) p e s0 s m args below meth c T2 _ (hR.mono (Nat.le_of_eq W2.size.symm)) O X2 e2 (Fr.snoc X2 F ha)
  exact ⟨s₂, o, st2 _ h1, r⟩
theorem Go.stC {a : Addr} {vs : List Value} {j v : Int32} {k : Nat} (hA : Ary Z h a .char vs) (hj : j.toInt = (k : Int)) (hk : k < vs.length) (hd : decode bytes pc = .ok (.castore, 1)) (ha : n0 ≤ a) (hp : pc + 1 = pc')
    (q : ∀ h', Wr h h' a k (.int (nar .char v)) → Ary Z h' a .char (vs.set k (.int (nar .char v))) → Go wd l R Z y bytes maxL ret n0 K N Q h' cells slots pc' Ls st) : Go wd l R Z y bytes maxL ret n0 K N Q h cells slots pc Ls (.int v :: .int j :: .ref a :: st) := by
  subst hp
  have hA' := hA
  obtain ⟨cl, A, r⟩ := hA
  intro p e s0 s m args below meth c T locs hR O X eT F
  obtain ⟨T2, h2, X2, e2, W2, st2⟩ := RoadKit.stC X O.1 O.2.2.2.2.2.1 eT A (j := j) (x := v) (inb hj r hk) (g := mkF m pc Ls (.int v :: .int j :: .ref a :: st)) rfl rfl (hb O.2.1 hd)
  rw [clamp_of hj] at X2 W2
  obtain ⟨s₂, o, h1, r⟩ := q h2 W2 (hA'.set W2) p e s0 s m args below meth c T2 _ (hR.mono (Nat.le_of_eq W2.size.symm)) O X2 e2 (Fr.snoc X2 F ha)
  exact ⟨s₂, o, st2 _ h1, r⟩
/-! a method by its contract -/
def Mt (wd : Wd) (l : Launch) (Z : State) (y : MethodName) (bytes : ByteArray) (maxL : Nat) (ret : Option FieldType) (rm : Room) (n0 : Nat) (Q : Option Value → Heap → Prop) (h : Heap) (as' : Array Value) : Prop :=
  MetFree l y (head1 [Cond.code y bytes maxL ret] rm) (fun a U => a = as' ∧ Z.Warmed39 U.vm ∧ U.heap = h) (fun _ _ _ _ _ => True) (fun _ U o U' => ∃ v L, o = .returned v ∧ ((Q v U'.heap ∧ h.size ≤ U'.heap.size) ∧ Fr n0 L) ∧ GoEnd wd U o U' L rm.cells rm.slots)
theorem met_go {rm : Room} {ws : List Jvm.Cond} {as' : Array Value} (hp : plainFor y = true) (hef : ∀ m, entryFrame m as' maxL = mkF m 0 Ls []) (g : Go wd l rm Z y bytes maxL ret n0 K N Q h 0 0 0 Ls []) (hpw : Plain wd := by first | exact plain_n | exact plain_w) :
    MetFree l y (head1 (Jvm.Cond.code y bytes maxL ret :: ws) rm) (fun a U => a = as' ∧ Z.Warmed39 U.vm ∧ U.heap = h) (fun _ _ _ _ _ => True) (fun _ U o U' => ∃ v L, o = .returned v ∧ ((Q v U'.heap ∧ h.size ≤ U'.heap.size) ∧ Fr n0 L) ∧ GoEnd wd U o U' L K N) := by
  refine MetFree.of_bodySF hp hisR ?_
  intro p e s m args below meth c s₁ Bd hml0 hP hK
  obtain ⟨rfl, hZ, hh⟩ := hP
  have O : Own Z y bytes maxL ret p s m meth c := ⟨Bd.exec, Bd.bytes, hml0, findClass_of_methodNamed Bd.named, (name_of_methodNamed Bd.named Bd.method).1, hZ, Bd.returns, Bd.notSynchronized⟩
  have X0 : Stand p l e rm s m args below meth c s₁ [] 0 0 := Stand.of_body Bd
  have e0 : s₁.heap = h := by rw [← hh, Bd.state]; rfl
  obtain ⟨s₂, o, h1, h2, h3, v, L, h4, h5, h6⟩ := g p e s s m args below meth c s₁ [] (hpw.1 _ _) O X0 e0 (Fr.nil n0)
  exact ⟨s₂, o, castTop (hef m) h1, h2, h3, v, L, h4, ⟨⟨h5.1, hh ▸ h6.grow⟩, (hpw.2 n0) ▸ h5.2⟩, h6⟩
theorem Mt.go {rm : Room} {as' : Array Value} (hp : plainFor y = true) (hef : ∀ m, entryFrame m as' maxL = mkF m 0 Ls []) (g : Go wd l rm Z y bytes maxL ret n0 rm.cells rm.slots Q h 0 0 0 Ls []) (hpw : Plain wd := by first | exact plain_n | exact plain_w) : Mt wd l Z y bytes maxL ret rm n0 Q h as' := met_go (ws := []) hp hef g hpw
variable {y2 : MethodName} {bytes2 : ByteArray} {maxL2 : Nat} {ret2 : Option FieldType} {rm : Room} {i W : Nat} {as' : Array Value} {argsL rest : List Value} {Q2 : Option Value → Heap → Prop} {ps : List FieldType} {r2 : Option FieldType}
theorem Go.callS (w1 : (Cond.methodLink y.cls i y2).before a0 Z = true) (w2 : (Cond.static y2).before a0 Z = true) (w3 : (Cond.initialized y2.cls).before a0 Z = true) (w4 : (Cond.code y2 bytes2 maxL2 ret2).before a0 Z = true) (hy : y2.cls ≠ "java/lang/invoke/MethodHandle" ∧ y2.cls ≠ "java/lang/invoke/VarHandle")
    (hM : Mt .n l Z y2 bytes2 maxL2 ret2 rm n0 Q2 h argsL.toArray) (hd : decode bytes pc = .ok (.invokestatic i, 3)) (hz : Ls.size = maxL) (hpd : parseMethodDescriptor y2.desc = some ⟨ps, r2⟩) (hlen : argsL.length = ps.length) (hst : st = argsL.reverse ++ rest)
    (hW : (rest.map fun v => v.category).sum ≤ W) (hf : rm.frames + 1 ≤ R.frames) (hl : W + (maxL2 + 11) + rm.locals ≤ R.locals) (hc : cells + rm.cells ≤ R.cells) (hs : slots + rm.slots ≤ R.slots) (hp : pc + 3 = pc')
    (q : ∀ v h', Q2 v h' → Go wd l R Z y bytes maxL ret n0 K N Q h' (cells + rm.cells) (slots + rm.slots) pc' Ls (v.toList ++ rest)) : Go wd l R Z y bytes maxL ret n0 K N Q h cells slots pc Ls st := by
  subst hp hst
  intro p e s0 s m args below meth c T locs hR O X eT F
  obtain ⟨v, vm₁, ⟨T2, L2, k2, n2⟩, -, X2, ⟨Lc, hQ, l2, y2, z2⟩, st2⟩ := Jvm.LawKit.callS X O.1 (y := y2) O.2.2.2.1 (mvT O.2.2.2.2.2.1 w1) (mvT O.2.2.2.2.2.1 w2) (mvT O.2.2.2.2.2.1 w3) (mvT O.2.2.2.2.2.1 w4) hy
    (backOf (W := W) (Q := fun v h' L => (Q2 v h' ∧ h.size ≤ h'.size) ∧ Fr n0 L) hM O.2.2.2.2.2.1 w4 w3 hf hl) (g := mkF m pc Ls (argsL.reverse ++ rest)) rfl (hz.trans O.2.2.1.symm) (argsL := argsL) (rest := rest) (lenOf hpd hlen) rfl (by show 2 * 0 + _ ≤ _; omega) (hb O.2.1 hd) (fun _ _ => ⟨rfl, eT, hc, hs⟩)
  dsimp only [Pt.U, Pt.locs, Pt.cells, Pt.slots] at X2 l2 y2 z2 st2 hQ
  subst l2 y2 z2
  obtain ⟨s₂, o, h1, r⟩ := q v T2.heap hQ.1.1 p e s0 s m args below meth c T2 _ (hR.mono hQ.1.2) O X2 rfl (Fr.app F hQ.2)
  exact ⟨s₂, o, st2 _ h1, r⟩
theorem Go.callN {a : Addr} (hy1 : y2.name = "<init>") (w1 : (Cond.methodLink y.cls i y2).before a0 Z = true) (w2 : (Cond.instanceMethod y2).before a0 Z = true) (w3 : (Cond.initialized y2.cls).before a0 Z = true) (w4 : (Cond.code y2 bytes2 maxL2 none).before a0 Z = true) (hy : y2.cls ≠ "java/lang/invoke/MethodHandle" ∧ y2.cls ≠ "java/lang/invoke/VarHandle")
    (hM : Mt .n l Z y2 bytes2 maxL2 none rm n0 Q2 h (.ref a :: argsL).toArray) (hd : decode bytes pc = .ok (.invokespecial i, 3)) (hz : Ls.size = maxL) (hpd : parseMethodDescriptor y2.desc = some ⟨ps, r2⟩) (hlen : argsL.length = ps.length) (hst : st = argsL.reverse ++ .ref a :: rest)
    (hW : (rest.map fun v => v.category).sum ≤ W) (hf : rm.frames + 1 ≤ R.frames) (hl : W + (maxL2 + 11) + rm.locals ≤ R.locals) (hc : cells + rm.cells ≤ R.cells) (hs : slots + rm.slots ≤ R.slots) (hp : pc + 3 = pc')
    (q : ∀ v h', Q2 v h' → Go wd l R Z y bytes maxL ret n0 K N Q h' (cells + rm.cells) (slots + rm.slots) pc' Ls (v.toList ++ rest)) : Go wd l R Z y bytes maxL ret n0 K N Q h cells slots pc Ls st := by
  subst hp hst
  intro p e s0 s m args below meth c T locs hR O X eT F
  obtain ⟨v, vm₁, ⟨T2, L2, k2, n2⟩, -, X2, ⟨Lc, hQ, l2, y2, z2⟩, st2⟩ := X.specialBack O.1 (y := y2) hy1 O.2.2.2.1 (mvT O.2.2.2.2.2.1 w1) (mvT O.2.2.2.2.2.1 w2) (mvT O.2.2.2.2.2.1 w4) hy
    (backOf (W := W) (Q := fun v h' L => (Q2 v h' ∧ h.size ≤ h'.size) ∧ Fr n0 L) hM O.2.2.2.2.2.1 w4 w3 hf hl) (g := mkF m pc Ls (argsL.reverse ++ .ref a :: rest)) rfl (hz.trans O.2.2.1.symm) (Steps.refl _) (a := a) (argsL := argsL) (rest := rest) (lenOf hpd hlen) rfl (by show 2 * 0 + _ ≤ _; omega) (hb O.2.1 hd) (fun _ _ => ⟨rfl, eT, hc, hs⟩)
  dsimp only [Pt.U, Pt.locs, Pt.cells, Pt.slots] at X2 l2 y2 z2 st2 hQ
  subst l2 y2 z2
  obtain ⟨s₂, o, h1, r⟩ := q v T2.heap hQ.1.1 p e s0 s m args below meth c T2 _ (hR.mono hQ.1.2) O X2 rfl (Fr.app F hQ.2)
  exact ⟨s₂, o, st2.trans h1, r⟩
theorem Go.callV {a : Addr} {C : String} (w1 : (Cond.methodLink y.cls i y2).before a0 Z = true) (w2 : (Cond.declares y2).before a0 Z = true) (w5 : (Cond.selects C y2 y2).before a0 Z = true) (w6 : (Cond.instanceMethod y2).before a0 Z = true) (w3 : (Cond.initialized y2.cls).before a0 Z = true) (w4 : (Cond.code y2 bytes2 maxL2 ret2).before a0 Z = true)
    (hy : y2.cls ≠ "java/lang/invoke/MethodHandle" ∧ y2.cls ≠ "java/lang/invoke/VarHandle") (hE : Exa Z h a C)
    (hM : Mt .n l Z y2 bytes2 maxL2 ret2 rm n0 Q2 h (.ref a :: argsL).toArray) (hd : decode bytes pc = .ok (.invokevirtual i, 3)) (hz : Ls.size = maxL) (hpd : parseMethodDescriptor y2.desc = some ⟨ps, r2⟩) (hlen : argsL.length = ps.length) (hst : st = argsL.reverse ++ .ref a :: rest)
    (hW : (rest.map fun v => v.category).sum ≤ W) (hf : rm.frames + 1 ≤ R.frames) (hl : W + (maxL2 + 11) + rm.locals ≤ R.locals) (hc : cells + rm.cells ≤ R.cells) (hs : slots + rm.slots ≤ R.slots) (hp : pc + 3 = pc')
    (q : ∀ v h', Q2 v h' → Go wd l R Z y bytes maxL ret n0 K N Q h' (cells + rm.cells) (slots + rm.slots) pc' Ls (v.toList ++ rest)) : Go wd l R Z y bytes maxL ret n0 K N Q h cells slots pc Ls st := by
  subst hp hst
  intro p e s0 s m args below meth c T locs hR O X eT F
  obtain ⟨cq, kq, qa, qb, qc⟩ := isOf (T := T) O.2.2.2.2.2.1 eT hE
  obtain ⟨v, vm₁, ⟨T2, L2, k2, n2⟩, -, X2, ⟨Lc, hQ, l2, y2, z2⟩, st2⟩ := X.virtualBack O.1 (y := y2) (z := y2) O.2.2.2.1 (mvT O.2.2.2.2.2.1 w1) (mvT O.2.2.2.2.2.1 w2) (notFace_of_selects (args := #[]) (mvT O.2.2.2.2.2.1 w5)) (mvT O.2.2.2.2.2.1 w5) (mvT O.2.2.2.2.2.1 w6) hy
    (backOf (W := W) (Q := fun v h' L => (Q2 v h' ∧ h.size ≤ h'.size) ∧ Fr n0 L) hM O.2.2.2.2.2.1 w4 w3 hf hl) qa qc (g := mkF m pc Ls (argsL.reverse ++ .ref a :: rest)) rfl (hz.trans O.2.2.1.symm) (Steps.refl _) (argsL := argsL) (rest := rest) (lenOf hpd hlen) rfl (by show 2 * 0 + _ ≤ _; omega) (hb O.2.1 hd) (fun _ _ => ⟨rfl, eT, hc, hs⟩)
  dsimp only [Pt.U, Pt.locs, Pt.cells, Pt.slots] at X2 l2 y2 z2 st2 hQ
  subst l2 y2 z2
  obtain ⟨s₂, o, h1, r⟩ := q v T2.heap hQ.1.1 p e s0 s m args below meth c T2 _ (hR.mono hQ.1.2) O X2 rfl (Fr.app F hQ.2)
  exact ⟨s₂, o, st2.trans h1, r⟩
end GoLaws
end Jvm.RoadKit
namespace Jvm.RoadKit
open Sem ClassFile Op Lib Jvm.Stand Jvm.Free Jvm.LawKit
section GoPriv
variable {wd : Wd} {l : Launch} {R : Room} {Z : State} {y : MethodName} {bytes : ByteArray} {maxL : Nat} {ret : Option FieldType} {n0 K N : Nat} {Q : Option Value → Heap → Prop} {h : Heap} {cells slots pc pc' : Nat} {Ls Ls' : Array Slot} {st st' : List Value} {a0 : Array Value}
variable {y2 : MethodName} {bytes2 : ByteArray} {maxL2 : Nat} {ret2 : Option FieldType} {rm : Room} {i W : Nat} {as' : Array Value} {argsL rest : List Value} {Q2 : Option Value → Heap → Prop} {ps : List FieldType} {r2 : Option FieldType}
/-- invokevirtual of a private method; that its class is no interface comes out of another word on that class -/
theorem Go.callP {a : Addr} {C C3 : String} {y4 y5 : MethodName} (w1 : (Cond.methodLink y.cls i y2).before a0 Z = true) (w6 : (Cond.instanceMethod y2).before a0 Z = true) (w7 : (Cond.privateMethod y2).before a0 Z = true) (w3 : (Cond.initialized y2.cls).before a0 Z = true) (w4 : (Cond.code y2 bytes2 maxL2 ret2).before a0 Z = true) (w8 : (Cond.selects C3 y4 y5).before a0 Z = true) (h5 : y5.cls = y2.cls)
    (hy : y2.cls ≠ "java/lang/invoke/MethodHandle" ∧ y2.cls ≠ "java/lang/invoke/VarHandle") (hE : Exa Z h a C)
    (hM : Mt .n l Z y2 bytes2 maxL2 ret2 rm n0 Q2 h (.ref a :: argsL).toArray) (hd : decode bytes pc = .ok (.invokevirtual i, 3)) (hz : Ls.size = maxL) (hpd : parseMethodDescriptor y2.desc = some ⟨ps, r2⟩) (hlen : argsL.length = ps.length) (hst : st = argsL.reverse ++ .ref a :: rest)
    (hW : (rest.map fun v => v.category).sum ≤ W) (hf : rm.frames + 1 ≤ R.frames) (hl : W + (maxL2 + 11) + rm.locals ≤ R.locals) (hc : cells + rm.cells ≤ R.cells) (hs : slots + rm.slots ≤ R.slots) (hp : pc + 3 = pc')
    (q : ∀ v h', Q2 v h' → Go wd l R Z y bytes maxL ret n0 K N Q h' (cells + rm.cells) (slots + rm.slots) pc' Ls (v.toList ++ rest)) : Go wd l R Z y bytes maxL ret n0 K N Q h cells slots pc Ls st := by
  subst hp hst
  intro p e s0 s m args below meth c T locs hR O X eT F
  obtain ⟨cq, q1, q2⟩ := hE.cell
  have hsel0 : (Cond.selects C3 y4 y5).before args s = true := mvT O.2.2.2.2.2.1 w8
  obtain ⟨c2, rr, m2, -, -, q3, -, kP, hkP, hkPi⟩ := Cond.selects_spec hsel0
  have hcc := findClass_of_methodNamed q3
  rw [h5] at hcc
  have hpriv := Cond.privateMethod_at (mvP (args := #[]) O.2.2.2.2.2.1 w7)
  have hinst : (Cond.instanceMethod y2).before args s = true := mvT O.2.2.2.2.2.1 w6
  have hsel : (Cond.selects y2.cls y2 y2).before args s = true := selects_self_of_private hcc hkP hkPi hpriv hinst hy
  obtain ⟨v, vm₁, ⟨T2, L2, k2, n2⟩, -, X2, ⟨Lc, hQ, l2, y2, z2⟩, st2⟩ := X.privateBack O.1 (y := y2) O.2.2.2.1 (mvT O.2.2.2.2.2.1 w1) hinst hsel hpriv (mvT O.2.2.2.2.2.1 w4) hy
    (backOf (W := W) (Q := fun v h' L => (Q2 v h' ∧ h.size ≤ h'.size) ∧ Fr n0 L) hM O.2.2.2.2.2.1 w4 w3 hf hl) (g := mkF m pc Ls (argsL.reverse ++ .ref a :: rest)) rfl (hz.trans O.2.2.1.symm) (Steps.refl _) (a := a) (by rw [eT]; exact q1) q2 (argsL := argsL) (rest := rest) (lenOf hpd hlen) rfl (by show 2 * 0 + _ ≤ _; omega) (hb O.2.1 hd) (fun _ _ => ⟨rfl, eT, hc, hs⟩)
  dsimp only [Pt.U, Pt.locs, Pt.cells, Pt.slots] at X2 l2 y2 z2 st2 hQ
  subst l2 y2 z2
  obtain ⟨s₂, o, h1, r⟩ := q v T2.heap hQ.1.1 p e s0 s m args below meth c T2 _ (hR.mono hQ.1.2) O X2 rfl (Fr.app F hQ.2)
  exact ⟨s₂, o, st2.trans h1, r⟩
end GoPriv
end Jvm.RoadKit
namespace Jvm.RoadKit
open Sem ClassFile Op Lib Jvm.Stand Jvm.Free Jvm.LawKit
section GoCopy
variable {wd : Wd} {l : Launch} {R : Room} {Z : State} {y : MethodName} {bytes : ByteArray} {maxL : Nat} {ret : Option FieldType} {n0 K N : Nat} {Q : Option Value → Heap → Prop} {h : Heap} {cells slots pc pc' : Nat} {Ls Ls' : Array Slot} {st st' : List Value} {a0 : Array Value}
theorem Ary.arv {h : Heap} {a : Addr} {ty : FieldType} {vs : List Value} {z : Int32} (F : Ary Z h a ty vs) (hz : z.toInt = (vs.length : Int)) (hf : ∀ v ∈ vs, fits ty v = true) (dv : Value) : ∃ k, Arv Z h a k ty z vs dv := by
  obtain ⟨c, A, r⟩ := F
  have z0 : (0 : Int32).toInt = 0 := rfl
  have sz : c.slots.size = vs.length := by rw [r]; simp
  refine ⟨c.cls, c, A, rfl, by rw [sz, clamp_of hz], by rw [Int32.lt_iff_toInt_lt, z0]; omega, fun k hk => ?_, fun i hi => ?_⟩
  · rw [sz] at hk
    rw [r, List.getD_eq_getElem?_getD, List.getElem?_eq_getElem hk]; simp [hk]
  · rw [sz] at hi
    rw [List.getD_eq_getElem?_getD, List.getElem?_eq_getElem hi]
    exact hf _ (List.getElem_mem hi)
theorem Arv.ary {h : Heap} {a : Addr} {k : ClassId} {ty : FieldType} {vs : List Value} {z : Int32} {dv : Value} (F : Arv Z h a k ty z vs dv) (hz : z.toInt = (vs.length : Int)) : Ary Z h a ty vs := by
  obtain ⟨c, A, -, S, -, H, -⟩ := F
  rw [clamp_of hz] at S
  refine ⟨c, A, ?_⟩
  apply Array.ext_getElem?
  intro i
  by_cases hi : i < vs.length
  · rw [H i (by omega), List.getD_eq_getElem?_getD, List.getElem?_eq_getElem hi]; simp [hi]
  · rw [Array.getElem?_eq_none (by omega), Array.getElem?_eq_none (by simp; omega)]
theorem Go.acopy {i W i1 i2 k : Nat} {a b : Addr} {ty : FieldType} {vs vd res : List Value} {sp dp nn za zb : Int32}
    (w1 : (Cond.methodLink y.cls i Jvm.Stand.acN).before a0 Z = true) (w2 : (Cond.native Jvm.Stand.acN).before a0 Z = true) (w3 : (Cond.static Jvm.Stand.acN).before a0 Z = true) (w4 : (Cond.initialized "java/lang/System").before a0 Z = true)
    (hA : Ary Z h a ty vs) (hB : Ary Z h b ty vd) (hk : refKind ty = false) (fA : ∀ v ∈ vs, fits ty v = true) (fB : ∀ v ∈ vd, fits ty v = true) (za1 : za.toInt = (vs.length : Int)) (zb1 : zb.toInt = (vd.length : Int))
    (e1 : sp.toInt = (i1 : Int)) (e2 : dp.toInt = (i2 : Int)) (e3 : nn.toInt = (k : Int)) (b1 : i1 + k ≤ vs.length) (b2 : i2 + k ≤ vd.length) (hr : vd.take i2 ++ (vs.drop i1).take k ++ vd.drop (i2 + k) = res) (ge : n0 ≤ b)
    (hd : decode bytes pc = .ok (.invokestatic i, 3)) (hz : Ls.size = maxL) (hf : 1 ≤ R.frames) (hW : (st.map fun v => v.category).sum ≤ W) (hlo : W + (nativeFrameWords "java/lang/System" "arraycopy" 5 + 11) ≤ R.locals) (hp : pc + 3 = pc')
    (q : ∀ h', Keep h h' [b] → Ary Z h' b ty res → Go wd l R Z y bytes maxL ret n0 K N Q h' cells slots pc' Ls st) : Go wd l R Z y bytes maxL ret n0 K N Q h cells slots pc Ls (.int nn :: .int dp :: .ref b :: .int sp :: .ref a :: st) := by
  subst hp hr
  have z0 : (0 : Int32).toInt = 0 := rfl
  obtain ⟨ka, A⟩ := hA.arv za1 fA .null
  obtain ⟨kb, B⟩ := hB.arv zb1 fB .null
  intro p e s0 s m args below meth c T locs hR O X eT F
  have hus : (vs.drop i1).take k = (List.range nn.toNatClampNeg).map fun j => vs.getD (sp.toNatClampNeg + j) .null := by
    rw [clamp_of e1, clamp_of e3]
    apply List.ext_getElem
    · simp; omega
    · intro j hj1 hj2
      simp at hj1 hj2
      simp [List.getElem?_eq_getElem (show i1 + j < vs.length by omega)]
  obtain ⟨T2, h2, L2, X2, e2', N2, K2, B2, st2⟩ := cpA (us := (vs.drop i1).take k) X O.1 O.2.2.2.2.2.1 O.2.2.2.1 w1 w2 w3 w4 eT A B (Or.inl ⟨rfl, hk⟩) (sp := sp) (dp := dp) (nn := nn) (by rw [Int32.lt_iff_toInt_lt, z0]; omega) (by rw [Int32.lt_iff_toInt_lt, z0]; omega) (by rw [Int32.lt_iff_toInt_lt, z0]; omega)
    (by rw [clamp_of e1, clamp_of e3, clamp_of za1]; exact b1) (by rw [clamp_of e2, clamp_of e3, clamp_of zb1]; exact b2) hus (by rw [clamp_of e2, clamp_of e3]; exact b2) F ge (g := mkF m pc Ls (.int nn :: .int dp :: .ref b :: .int sp :: .ref a :: st)) rfl (hz.trans O.2.2.1.symm) rfl (hb O.2.1 hd) hf (W := W) (by show 2 * 0 + _ ≤ _; omega) hlo
  rw [clamp_of e2, clamp_of e3] at B2
  obtain ⟨s₂, o, h1, r⟩ := q h2 K2 (B2.ary (by rw [zb1]; simp; omega)) p e s0 s m args below meth c T2 L2 (hR.mono K2.1) O X2 e2' N2
  exact ⟨s₂, o, st2 _ h1, r⟩
end GoCopy
end Jvm.RoadKit
namespace Jvm.RoadKit
open Sem ClassFile Op Lib Jvm.Stand Jvm.Free Jvm.LawKit
section GoArr
variable {wd : Wd} {l : Launch} {R : Room} {Z : State} {y : MethodName} {bytes : ByteArray} {maxL : Nat} {ret : Option FieldType} {n0 K N : Nat} {Q : Option Value → Heap → Prop} {h : Heap} {cells slots pc pc' : Nat} {Ls Ls' : Array Slot} {st st' : List Value} {a0 : Array Value}
theorem Go.newAE {aty : ArrayType} {n : Int32} {k : Nat} {ty : FieldType} {ad : String} (w : (Cond.arrayClass ty).before a0 Z = true) (hty : newarray.typeOf aty = ty) (had : "[" ++ ty.toString = ad) (hn : n.toInt = (k : Int)) {cap : Nat} (hcap : k ≤ cap) (hb8 : cap * 8 ≤ 536870912) (hd : decode bytes pc = .ok (.newarray aty, 2)) (hc : cells + 1 ≤ R.cells) (hs : slots + cap ≤ R.slots) (hp : pc + 2 = pc')
    (q : ∀ (h' : Heap) (a : Addr), a = h.size → Ext h h' → Ary Z h' a ty (List.replicate k (defaultValue ty)) → Exa Z h' a ad → Go wd l R Z y bytes maxL ret n0 K N Q h' (cells + 1) (slots + cap) pc' Ls (.ref a :: st)) : Go wd l R Z y bytes maxL ret n0 K N Q h cells slots pc Ls (.int n :: st) := by
  subst hp hty
  intro p e s0 s m args below meth c T locs hR O X eT F
  have z : (0 : Int32).toInt = 0 := rfl
  have hn0 : ¬ n < 0 := by rw [Int32.lt_iff_toInt_lt, z]; omega
  obtain ⟨T2, h2, cA, X2, e2, E2, A2, B2, st2⟩ := RoadKit.newPE X O.1 O.2.2.2.2.2.1 w eT (g := mkF m pc Ls (.int n :: st)) rfl (hb O.2.1 hd) rfl hn0 (cap := cap) (by rw [clamp_of hn]; exact hcap) hb8 hc hs had
  obtain ⟨s₂, o, h1, r⟩ := q h2 _ rfl E2 ⟨_, A2, by simp [RoadKit.newA, clamp_of hn]⟩ B2 p e s0 s m args below meth c T2 locs (hR.mono E2.1) O X2 e2 F
  exact ⟨s₂, o, st2 _ h1, r⟩
/-- the array at a is one of arrays of the class C -/
def Ova (Z : State) (h : Heap) (a : Addr) (ty : FieldType) (C : String) : Prop := ∃ cl : Cell, h[a]? = some cl ∧ OvrA Z cl.cls ty C
theorem Ova.sm {h h' : Heap} {a : Addr} {ty : FieldType} {C : String} (F : Ova Z h a ty C) (S : Sm h h' a) : Ova Z h' a ty C := by
  obtain ⟨c, A, r⟩ := F; exact ⟨c, S _ A, r⟩
theorem Ova.wr {h h' : Heap} {a b : Addr} {ty : FieldType} {C : String} {sl : Nat} {v : Value} (W : Wr h h' b sl v) (F : Ova Z h a ty C) : Ova Z h' a ty C := by
  obtain ⟨c, A, r⟩ := F
  obtain ⟨c', B, r2⟩ := (Keep.of_wr W).2.2 a c A
  exact ⟨c', B, by rw [r2.1]; exact r⟩
theorem Go.newRA {C ad : String} {i : Nat} {n : Int32} {k : Nat} {ty : FieldType} (hC : (FieldType.array ty).toString = C) (w1 : (Cond.classLink y.cls i C).before a0 Z = true) (w2 : (Cond.arrayOver (.array ty)).before a0 Z = true) (had : "[" ++ C = ad) (hn : n.toInt = (k : Int)) {cap : Nat} (hcap : k ≤ cap) (hb8 : cap * 8 ≤ 536870912) (hd : decode bytes pc = .ok (.anewarray i, 3)) (hc : cells + 1 ≤ R.cells) (hs : slots + cap ≤ R.slots) (hp : pc + 3 = pc')
    (q : ∀ (h' : Heap) (a : Addr), a = h.size → Ext h h' → Ary Z h' a (.array ty) (List.replicate k .null) → Ova Z h' a ty C → Go wd l R Z y bytes maxL ret n0 K N Q h' (cells + 1) (slots + cap) pc' Ls (.ref a :: st)) : Go wd l R Z y bytes maxL ret n0 K N Q h cells slots pc Ls (.int n :: st) := by
  subst hp
  intro p e s0 s m args below meth c T locs hR O X eT F
  have z : (0 : Int32).toInt = 0 := rfl
  have hn0 : ¬ n < 0 := by rw [Int32.lt_iff_toInt_lt, z]; omega
  obtain ⟨T2, h2, cA, X2, e2, E2, A2, B2, V2, st2⟩ := RoadKit.newRA X O.1 O.2.2.2.2.2.1 O.2.2.2.1 hC w1 w2 eT (g := mkF m pc Ls (.int n :: st)) rfl (hb O.2.1 hd) rfl hn0 (cap := cap) (by rw [clamp_of hn]; exact hcap) hb8 hc hs had
  obtain ⟨s₂, o, h1, r⟩ := q h2 _ rfl E2 ⟨_, A2, by simp [RoadKit.newA, clamp_of hn, defaultValue]⟩ ⟨_, A2.1, V2⟩ p e s0 s m args below meth c T2 locs (hR.mono E2.1) O X2 e2 F
  exact ⟨s₂, o, st2 _ h1, r⟩
theorem Go.stR {a : Addr} {vs : List Value} {j : Int32} {v : Value} {k : Nat} {ty : FieldType} (hA : Ary Z h a ty vs) (hty : ty.isReference = true) (hS : Sto Z h a v) (hj : j.toInt = (k : Int)) (hk : k < vs.length) (hd : decode bytes pc = .ok (.aastore, 1)) (ha : n0 ≤ a) (hp : pc + 1 = pc')
    (q : ∀ h', Wr h h' a k v → Ary Z h' a ty (vs.set k v) → Go wd l R Z y bytes maxL ret n0 K N Q h' cells slots pc' Ls st) : Go wd l R Z y bytes maxL ret n0 K N Q h cells slots pc Ls (v :: .int j :: .ref a :: st) := by
  subst hp
  have hA' := hA
  obtain ⟨cl, A, r⟩ := hA
  intro p e s0 s m args below meth c T locs hR O X eT F
  obtain ⟨T2, h2, X2, e2, W2, st2⟩ := RoadKit.stR X O.1 O.2.2.2.2.2.1 eT A (j := j) (v := v) (inb hj r hk) hty hS (g := mkF m pc Ls (v :: .int j :: .ref a :: st)) rfl rfl (hb O.2.1 hd)
  rw [clamp_of hj] at X2 W2
  obtain ⟨s₂, o, h1, r⟩ := q h2 W2 (hA'.set W2) p e s0 s m args below meth c T2 _ (hR.mono (Nat.le_of_eq W2.size.symm)) O X2 e2 (Fr.snoc X2 F ha)
  exact ⟨s₂, o, st2 _ h1, r⟩
theorem Sto.ova {a b : Addr} {ty ty0 : FieldType} {C : String} {vs : List Value} (A : Ary Z h a ty0 vs) (V : Ova Z h a ty C) (I : Exa Z h b C) : Sto Z h a (.ref b) := by
  obtain ⟨c, A, -⟩ := A
  obtain ⟨c', B, r⟩ := V
  cases A.1.symm.trans B
  exact Sto.ofVA A rfl r (Ins.self I)
end GoArr
end Jvm.RoadKit
namespace Jvm.RoadKit
open Sem ClassFile Op Lib Jvm.Stand Jvm.Free Jvm.LawKit
section GoClone
variable {wd : Wd} {l : Launch} {R : Room} {Z : State} {y : MethodName} {bytes : ByteArray} {maxL : Nat} {ret : Option FieldType} {n0 K N : Nat} {Q : Option Value → Heap → Prop} {h : Heap} {cells slots pc pc' : Nat} {Ls Ls' : Array Slot} {st st' : List Value} {a0 : Array Value}
theorem Go.clone {ad : String} {i W cap : Nat} {a : Addr} {ty : FieldType} {vs : List Value}
    (w1 : (Cond.methodLink y.cls i ⟨ad, "clone", "()Ljava/lang/Object;"⟩).before a0 Z = true) (w2 : (Cond.sameMethod ad "java/lang/Object" "clone" "()Ljava/lang/Object;").before a0 Z = true) (w3 : (Cond.native ⟨"java/lang/Object", "clone", "()Ljava/lang/Object;"⟩).before a0 Z = true)
    (w4 : (Cond.instanceMethod ⟨"java/lang/Object", "clone", "()Ljava/lang/Object;"⟩).before a0 Z = true) (w5 : (Cond.selects ad ⟨ad, "clone", "()Ljava/lang/Object;"⟩ ⟨"java/lang/Object", "clone", "()Ljava/lang/Object;"⟩).before a0 Z = true) (w6 : (Cond.castable ad "java/lang/Cloneable").before a0 Z = true)
    (hA : Ary Z h a ty vs) (hE : Exa Z h a ad) (hF : ∀ v ∈ vs, fits ty v = true) (hd : decode bytes pc = .ok (.invokevirtual i, 3)) (hz : Ls.size = maxL) (hf : 1 ≤ R.frames) (hW : (st.map fun v => v.category).sum ≤ W) (hl : W + 14 ≤ R.locals) (hcap : vs.length ≤ cap) (hc : cells + 1 ≤ R.cells) (hs : slots + cap ≤ R.slots) (hp : pc + 3 = pc')
    (q : ∀ (h' : Heap) (b : Addr), b = h.size → Ext h h' → Ary Z h' b ty vs → Exa Z h' b ad → Go wd l R Z y bytes maxL ret n0 K N Q h' (cells + 1) (slots + cap) pc' Ls (.ref b :: st)) : Go wd l R Z y bytes maxL ret n0 K N Q h cells slots pc Ls (.ref a :: st) := by
  subst hp
  obtain ⟨cl, A, r0⟩ := hA
  have FC : FitC Z cl := fitC_of A fun j hj v hv => by
    rw [r0] at hv
    exact hF v (List.mem_of_getElem? (by simpa using hv))
  intro p e s0 s m args below meth c T locs hR O X eT F
  obtain ⟨T2, h2, X2, e2, E2, A2, B2, st2⟩ := RoadKit.cloneA X O.1 O.2.2.2.2.2.1 O.2.2.2.1 w1 w2 w3 w4 w5 w6 eT A hE FC (g := mkF m pc Ls (.ref a :: st)) rfl (hz.trans O.2.2.1.symm) rfl (hb O.2.1 hd) hf (W := W) (cap := cap) (by show 2 * 0 + _ ≤ _; omega) hl (by rw [r0]; simpa using hcap) hc hs
  obtain ⟨s₂, o, h1, r⟩ := q h2 _ rfl E2 ⟨_, A2, r0⟩ B2 p e s0 s m args below meth c T2 locs (hR.mono E2.1) O X2 e2 F
  exact ⟨s₂, o, st2 _ h1, r⟩
theorem Go.castTo {C : String} {i : Nat} {a : Addr} (w : (Cond.classLink y.cls i C).before a0 Z = true) (hI : Ins Z h a C true) (hd : decode bytes pc = .ok (.checkcast i, 3)) (hp : pc + 3 = pc') (q : Go wd l R Z y bytes maxL ret n0 K N Q h cells slots pc' Ls (.ref a :: st)) : Go wd l R Z y bytes maxL ret n0 K N Q h cells slots pc Ls (.ref a :: st) := by
  subst hp
  intro p e s0 s m args below meth c T locs hR O X eT F
  obtain ⟨T2, X2, e2, st2⟩ := RoadKit.castY X O.1 O.2.2.2.2.2.1 O.2.2.2.1 w eT hI (g := mkF m pc Ls (.ref a :: st)) rfl rfl (hb O.2.1 hd)
  obtain ⟨s₂, o, h1, r⟩ := q p e s0 s m args below meth c T2 locs hR O X2 e2 F
  exact ⟨s₂, o, st2 _ h1, r⟩
end GoClone
end Jvm.RoadKit
namespace Jvm.RoadKit
open Sem ClassFile Op Lib Jvm.Stand Jvm.Free Jvm.LawKit
section GoWide
variable {l : Launch} {R : Room} {Z : State} {y : MethodName} {bytes : ByteArray} {maxL : Nat} {ret : Option FieldType} {n0 K N : Nat} {Q : Option Value → Heap → Prop} {h : Heap} {cells slots pc pc' : Nat} {Ls Ls' : Array Slot} {st st' : List Value} {a0 : Array Value}
variable {y2 : MethodName} {bytes2 : ByteArray} {maxL2 : Nat} {ret2 : Option FieldType} {rm : Room} {i W : Nat} {as' : Array Value} {argsL rest : List Value} {Q2 : Option Value → Heap → Prop} {ps : List FieldType} {r2 : Option FieldType}
/-- ldc of a String constant that may be loaded here for the first time; of the String nothing is said -/
theorem Go.ldcS {text : String} {n : Nat} (w : (Cond.stringLink y.cls i text).before a0 Z = true) (wS : ∀ a ∈ Bundle.stringAtoms, a.before a0 Z = true) (hd : decode bytes pc = .ok (.ldc i, 2)) (hn : 4 * text.toList.length ≤ n) (hbig : n ≤ 536870912) (hc : cells + 2 ≤ R.cells) (hl : slots + (n + 4) ≤ R.slots) (hp : pc + 2 = pc')
    (q : ∀ (h' : Heap) (a : Addr), Ext h h' → Go .w l R Z y bytes maxL ret n0 K N Q h' (cells + 2) (slots + (n + 4)) pc' Ls (.ref a :: st)) : Go .w l R Z y bytes maxL ret n0 K N Q h cells slots pc Ls st := by
  subst hp
  intro p e s0 s m args below meth c T locs hR O X eT F
  obtain ⟨vm0, k0, rfl, hS, hk⟩ := hR
  obtain ⟨a, T2, h2, k1, X2, e2, E2, S2, hk1, hZ2, hown2, st2⟩ := RoadKit.ldcS X O.1 O.2.2.2.2.2.1 O.2.2.2.1 w wS eT hS hk (g := mkF m pc Ls st) rfl (hb O.2.1 hd) hn hbig hc hl
  obtain ⟨s₂, o, h1, r⟩ := q h2 a E2 p e s0 (s0.setVm T2.vm) m args below meth c T2 locs ⟨T2.vm, k1, rfl, S2, hk1⟩ ⟨O.1, O.2.1, O.2.2.1, hown2, O.2.2.2.2.1, hZ2, O.2.2.2.2.2.2.1, O.2.2.2.2.2.2.2⟩ X2 e2 F
  exact ⟨s₂, o, st2 _ h1, r⟩
theorem Go.callSW (w1 : (Cond.methodLink y.cls i y2).before a0 Z = true) (w2 : (Cond.static y2).before a0 Z = true) (w3 : (Cond.initialized y2.cls).before a0 Z = true) (w4 : (Cond.code y2 bytes2 maxL2 ret2).before a0 Z = true) (hy : y2.cls ≠ "java/lang/invoke/MethodHandle" ∧ y2.cls ≠ "java/lang/invoke/VarHandle")
    (hM : Mt .w l Z y2 bytes2 maxL2 ret2 rm n0 Q2 h argsL.toArray) (hd : decode bytes pc = .ok (.invokestatic i, 3)) (hz : Ls.size = maxL) (hpd : parseMethodDescriptor y2.desc = some ⟨ps, r2⟩) (hlen : argsL.length = ps.length) (hst : st = argsL.reverse ++ rest)
    (hW : (rest.map fun v => v.category).sum ≤ W) (hf : rm.frames + 1 ≤ R.frames) (hl : W + (maxL2 + 11) + rm.locals ≤ R.locals) (hc : cells + rm.cells ≤ R.cells) (hs : slots + rm.slots ≤ R.slots) (hp : pc + 3 = pc')
    (q : ∀ v h', Q2 v h' → Go .w l R Z y bytes maxL ret n0 K N Q h' (cells + rm.cells) (slots + rm.slots) pc' Ls (v.toList ++ rest)) : Go .w l R Z y bytes maxL ret n0 K N Q h cells slots pc Ls st := by
  subst hp hst
  intro p e s0 s m args below meth c T locs hR O X eT F
  obtain ⟨vm0, k0, rfl, hS, hk⟩ := hR
  obtain ⟨v, vm₁, ⟨T2, L2, k2, n2⟩, -, X2, S2, g2, ⟨Lc, hQ, l2, y2, z2⟩, st2⟩ := RoadKit.callSS X O.1 (y := y2) O.2.2.2.1 (mvT O.2.2.2.2.2.1 w1) (mvT O.2.2.2.2.2.1 w2) (mvT O.2.2.2.2.2.1 w3) (mvT O.2.2.2.2.2.1 w4) hy
    (backOfS (W := W) (Q := fun v h' L => (Q2 v h' ∧ h.size ≤ h'.size) ∧ Fr n0 L) hM O.2.2.2.2.2.1 w4 w3 hf hl) (g := mkF m pc Ls (argsL.reverse ++ rest)) rfl (hz.trans O.2.2.1.symm) (argsL := argsL) (rest := rest) (lenOf hpd hlen) rfl (by show 2 * 0 + _ ≤ _; omega) (hb O.2.1 hd) (fun _ _ => ⟨rfl, eT, hc, hs⟩)
  dsimp only [Pt.U, Pt.locs, Pt.cells, Pt.slots] at X2 l2 y2 z2 st2 hQ S2 g2
  subst l2 y2 z2
  rw [eT] at g2
  obtain ⟨X3, S3, hZ3, hown3⟩ := rebS hS hk X2 S2 g2 O.2.2.2.2.2.1 O.2.2.2.1
  obtain ⟨s₂, o, h1, r⟩ := q v T2.heap hQ.1.1 p e s0 (s0.setVm T2.vm) m args below meth c T2 _ ⟨T2.vm, _, rfl, S3, Nat.le_refl _⟩ ⟨O.1, O.2.1, O.2.2.1, hown3, O.2.2.2.2.1, hZ3, O.2.2.2.2.2.2.1, O.2.2.2.2.2.2.2⟩ X3 rfl (Fr.app F hQ.2)
  exact ⟨s₂, o, st2.trans h1, r⟩
theorem Go.callNW {a : Addr} (hy1 : y2.name = "<init>") (w1 : (Cond.methodLink y.cls i y2).before a0 Z = true) (w2 : (Cond.instanceMethod y2).before a0 Z = true) (w3 : (Cond.initialized y2.cls).before a0 Z = true) (w4 : (Cond.code y2 bytes2 maxL2 none).before a0 Z = true) (hy : y2.cls ≠ "java/lang/invoke/MethodHandle" ∧ y2.cls ≠ "java/lang/invoke/VarHandle")
    (hM : Mt .w l Z y2 bytes2 maxL2 none rm n0 Q2 h (.ref a :: argsL).toArray) (hd : decode bytes pc = .ok (.invokespecial i, 3)) (hz : Ls.size = maxL) (hpd : parseMethodDescriptor y2.desc = some ⟨ps, r2⟩) (hlen : argsL.length = ps.length) (hst : st = argsL.reverse ++ .ref a :: rest)
    (hW : (rest.map fun v => v.category).sum ≤ W) (hf : rm.frames + 1 ≤ R.frames) (hl : W + (maxL2 + 11) + rm.locals ≤ R.locals) (hc : cells + rm.cells ≤ R.cells) (hs : slots + rm.slots ≤ R.slots) (hp : pc + 3 = pc')
    (q : ∀ v h', Q2 v h' → Go .w l R Z y bytes maxL ret n0 K N Q h' (cells + rm.cells) (slots + rm.slots) pc' Ls (v.toList ++ rest)) : Go .w l R Z y bytes maxL ret n0 K N Q h cells slots pc Ls st := by
  subst hp hst
  intro p e s0 s m args below meth c T locs hR O X eT F
  obtain ⟨vm0, k0, rfl, hS, hk⟩ := hR
  obtain ⟨v, vm₁, ⟨T2, L2, k2, n2⟩, -, X2, S2, g2, ⟨Lc, hQ, l2, y2, z2⟩, st2⟩ := X.specialBackS O.1 (y := y2) hy1 O.2.2.2.1 (mvT O.2.2.2.2.2.1 w1) (mvT O.2.2.2.2.2.1 w2) (mvT O.2.2.2.2.2.1 w4) hy
    (backOfS (W := W) (Q := fun v h' L => (Q2 v h' ∧ h.size ≤ h'.size) ∧ Fr n0 L) hM O.2.2.2.2.2.1 w4 w3 hf hl) (g := mkF m pc Ls (argsL.reverse ++ .ref a :: rest)) rfl (hz.trans O.2.2.1.symm) (Steps.refl _) (a := a) (argsL := argsL) (rest := rest) (lenOf hpd hlen) rfl (by show 2 * 0 + _ ≤ _; omega) (hb O.2.1 hd) (fun _ _ => ⟨rfl, eT, hc, hs⟩)
  dsimp only [Pt.U, Pt.locs, Pt.cells, Pt.slots] at X2 l2 y2 z2 st2 hQ S2 g2
  subst l2 y2 z2
  rw [eT] at g2
  obtain ⟨X3, S3, hZ3, hown3⟩ := rebS hS hk X2 S2 g2 O.2.2.2.2.2.1 O.2.2.2.1
  obtain ⟨s₂, o, h1, r⟩ := q v T2.heap hQ.1.1 p e s0 (s0.setVm T2.vm) m args below meth c T2 _ ⟨T2.vm, _, rfl, S3, Nat.le_refl _⟩ ⟨O.1, O.2.1, O.2.2.1, hown3, O.2.2.2.2.1, hZ3, O.2.2.2.2.2.2.1, O.2.2.2.2.2.2.2⟩ X3 rfl (Fr.app F hQ.2)
  exact ⟨s₂, o, st2.trans h1, r⟩
theorem Go.callVW {a : Addr} {C : String} (w1 : (Cond.methodLink y.cls i y2).before a0 Z = true) (w2 : (Cond.declares y2).before a0 Z = true) (w5 : (Cond.selects C y2 y2).before a0 Z = true) (w6 : (Cond.instanceMethod y2).before a0 Z = true) (w3 : (Cond.initialized y2.cls).before a0 Z = true) (w4 : (Cond.code y2 bytes2 maxL2 ret2).before a0 Z = true)
    (hy : y2.cls ≠ "java/lang/invoke/MethodHandle" ∧ y2.cls ≠ "java/lang/invoke/VarHandle") (hE : Exa Z h a C)
    (hM : Mt .w l Z y2 bytes2 maxL2 ret2 rm n0 Q2 h (.ref a :: argsL).toArray) (hd : decode bytes pc = .ok (.invokevirtual i, 3)) (hz : Ls.size = maxL) (hpd : parseMethodDescriptor y2.desc = some ⟨ps, r2⟩) (hlen : argsL.length = ps.length) (hst : st = argsL.reverse ++ .ref a :: rest)
    (hW : (rest.map fun v => v.category).sum ≤ W) (hf : rm.frames + 1 ≤ R.frames) (hl : W + (maxL2 + 11) + rm.locals ≤ R.locals) (hc : cells + rm.cells ≤ R.cells) (hs : slots + rm.slots ≤ R.slots) (hp : pc + 3 = pc')
    (q : ∀ v h', Q2 v h' → Go .w l R Z y bytes maxL ret n0 K N Q h' (cells + rm.cells) (slots + rm.slots) pc' Ls (v.toList ++ rest)) : Go .w l R Z y bytes maxL ret n0 K N Q h cells slots pc Ls st := by
  subst hp hst
  intro p e s0 s m args below meth c T locs hR O X eT F
  obtain ⟨vm0, k0, rfl, hS, hk⟩ := hR
  obtain ⟨cq, kq, qa, qb, qc⟩ := isOf (T := T) O.2.2.2.2.2.1 eT hE
  obtain ⟨v, vm₁, ⟨T2, L2, k2, n2⟩, -, X2, S2, g2, ⟨Lc, hQ, l2, y2, z2⟩, st2⟩ := X.virtualBackS O.1 (y := y2) (z := y2) O.2.2.2.1 (mvT O.2.2.2.2.2.1 w1) (mvT O.2.2.2.2.2.1 w2) (notFace_of_selects (args := #[]) (mvT O.2.2.2.2.2.1 w5)) (mvT O.2.2.2.2.2.1 w5) (mvT O.2.2.2.2.2.1 w6) hy
    (backOfS (W := W) (Q := fun v h' L => (Q2 v h' ∧ h.size ≤ h'.size) ∧ Fr n0 L) hM O.2.2.2.2.2.1 w4 w3 hf hl) qa qc (g := mkF m pc Ls (argsL.reverse ++ .ref a :: rest)) rfl (hz.trans O.2.2.1.symm) (Steps.refl _) (argsL := argsL) (rest := rest) (lenOf hpd hlen) rfl (by show 2 * 0 + _ ≤ _; omega) (hb O.2.1 hd) (fun _ _ => ⟨rfl, eT, hc, hs⟩)
  dsimp only [Pt.U, Pt.locs, Pt.cells, Pt.slots] at X2 l2 y2 z2 st2 hQ S2 g2
  subst l2 y2 z2
  rw [eT] at g2
  obtain ⟨X3, S3, hZ3, hown3⟩ := rebS hS hk X2 S2 g2 O.2.2.2.2.2.1 O.2.2.2.1
  obtain ⟨s₂, o, h1, r⟩ := q v T2.heap hQ.1.1 p e s0 (s0.setVm T2.vm) m args below meth c T2 _ ⟨T2.vm, _, rfl, S3, Nat.le_refl _⟩ ⟨O.1, O.2.1, O.2.2.1, hown3, O.2.2.2.2.1, hZ3, O.2.2.2.2.2.2.1, O.2.2.2.2.2.2.2⟩ X3 rfl (Fr.app F hQ.2)
  exact ⟨s₂, o, st2.trans h1, r⟩
theorem Go.callPW {a : Addr} {C C3 : String} {y4 y5 : MethodName} (w1 : (Cond.methodLink y.cls i y2).before a0 Z = true) (w6 : (Cond.instanceMethod y2).before a0 Z = true) (w7 : (Cond.privateMethod y2).before a0 Z = true) (w3 : (Cond.initialized y2.cls).before a0 Z = true) (w4 : (Cond.code y2 bytes2 maxL2 ret2).before a0 Z = true) (w8 : (Cond.selects C3 y4 y5).before a0 Z = true) (h5 : y5.cls = y2.cls)
    (hy : y2.cls ≠ "java/lang/invoke/MethodHandle" ∧ y2.cls ≠ "java/lang/invoke/VarHandle") (hE : Exa Z h a C)
    (hM : Mt .w l Z y2 bytes2 maxL2 ret2 rm n0 Q2 h (.ref a :: argsL).toArray) (hd : decode bytes pc = .ok (.invokevirtual i, 3)) (hz : Ls.size = maxL) (hpd : parseMethodDescriptor y2.desc = some ⟨ps, r2⟩) (hlen : argsL.length = ps.length) (hst : st = argsL.reverse ++ .ref a :: rest)
    (hW : (rest.map fun v => v.category).sum ≤ W) (hf : rm.frames + 1 ≤ R.frames) (hl : W + (maxL2 + 11) + rm.locals ≤ R.locals) (hc : cells + rm.cells ≤ R.cells) (hs : slots + rm.slots ≤ R.slots) (hp : pc + 3 = pc')
    (q : ∀ v h', Q2 v h' → Go .w l R Z y bytes maxL ret n0 K N Q h' (cells + rm.cells) (slots + rm.slots) pc' Ls (v.toList ++ rest)) : Go .w l R Z y bytes maxL ret n0 K N Q h cells slots pc Ls st := by
  subst hp hst
  intro p e s0 s m args below meth c T locs hR O X eT F
  obtain ⟨vm0, k0, rfl, hS, hk⟩ := hR
  obtain ⟨cq, q1, q2⟩ := hE.cell
  have hsel0 : (Cond.selects C3 y4 y5).before args (s0.setVm vm0) = true := mvT O.2.2.2.2.2.1 w8
  obtain ⟨c2, rr, m2, -, -, q3, -, kP, hkP, hkPi⟩ := Cond.selects_spec hsel0
  have hcc := findClass_of_methodNamed q3
  rw [h5] at hcc
  have hpriv := Cond.privateMethod_at (mvP (args := #[]) O.2.2.2.2.2.1 w7)
  have hinst : (Cond.instanceMethod y2).before args (s0.setVm vm0) = true := mvT O.2.2.2.2.2.1 w6
  have hsel : (Cond.selects y2.cls y2 y2).before args (s0.setVm vm0) = true := selects_self_of_private hcc hkP hkPi hpriv hinst hy
  obtain ⟨v, vm₁, ⟨T2, L2, k2, n2⟩, -, X2, S2, g2, ⟨Lc, hQ, l2, y2, z2⟩, st2⟩ := X.privateBackS O.1 (y := y2) O.2.2.2.1 (mvT O.2.2.2.2.2.1 w1) hinst hsel hpriv (mvT O.2.2.2.2.2.1 w4) hy
    (backOfS (W := W) (Q := fun v h' L => (Q2 v h' ∧ h.size ≤ h'.size) ∧ Fr n0 L) hM O.2.2.2.2.2.1 w4 w3 hf hl) (g := mkF m pc Ls (argsL.reverse ++ .ref a :: rest)) rfl (hz.trans O.2.2.1.symm) (Steps.refl _) (a := a) (by rw [eT]; exact q1) q2 (argsL := argsL) (rest := rest) (lenOf hpd hlen) rfl (by show 2 * 0 + _ ≤ _; omega) (hb O.2.1 hd) (fun _ _ => ⟨rfl, eT, hc, hs⟩)
  dsimp only [Pt.U, Pt.locs, Pt.cells, Pt.slots] at X2 l2 y2 z2 st2 hQ S2 g2
  subst l2 y2 z2
  rw [eT] at g2
  obtain ⟨X3, S3, hZ3, hown3⟩ := rebS hS hk X2 S2 g2 O.2.2.2.2.2.1 O.2.2.2.1
  obtain ⟨s₂, o, h1, r⟩ := q v T2.heap hQ.1.1 p e s0 (s0.setVm T2.vm) m args below meth c T2 _ ⟨T2.vm, _, rfl, S3, Nat.le_refl _⟩ ⟨O.1, O.2.1, O.2.2.1, hown3, O.2.2.2.2.1, hZ3, O.2.2.2.2.2.2.1, O.2.2.2.2.2.2.2⟩ X3 rfl (Fr.app F hQ.2)
  exact ⟨s₂, o, st2.trans h1, r⟩
end GoWide
end Jvm.RoadKit
namespace Jvm.RoadKit
open Sem ClassFile Op Lib Jvm.Stand Jvm.Free Jvm.LawKit
theorem IB.cong {Z : State} {vm vm' : Vm} {Ts : List String} (I : IB Z vm Ts) (e : vm'.interned = vm.interned) : IB Z vm' Ts := by
  obtain ⟨more, h1, h2⟩ := I; exact ⟨more, e.trans h1, h2⟩
theorem IB.mono {Z : State} {vm : Vm} {Ts Ts' : List String} (I : IB Z vm Ts) (hs : ∀ t ∈ Ts, t ∈ Ts') : IB Z vm Ts' := by
  obtain ⟨more, h1, h2⟩ := I
  exact ⟨more, h1, fun q hq => by obtain ⟨t, ht, hd⟩ := h2 q hq; exact ⟨t, hs t ht, hd⟩⟩
/-- the mode in which the texts loaded since the start are among Ts, and at the end among Ts' -/
theorem ibE {Z : State} {Ts Ts' : List String} (hs : ∀ t ∈ Ts, t ∈ Ts') : ∀ a b : Vm, b.interned = a.interned → IB Z a Ts → IB Z b Ts' := fun _ _ e I => (I.cong e).mono hs
theorem ibL {Z : State} {Ts Ts' : List String} {own : String} {i : Nat} {x : Addr} (hs : ∀ t ∈ Ts, t ∈ Ts') : ∀ a b : Vm, b.interned = a.interned → (IB Z a Ts ∧ Lit (Z.setVm a) own i x) → IB Z b Ts' := fun _ _ e I => (I.1.cong e).mono hs
section GoHeld
variable {l : Launch} {R : Room} {Z : State} {y : MethodName} {bytes : ByteArray} {maxL : Nat} {ret : Option FieldType} {n0 K N : Nat} {Q : Option Value → Heap → Prop} {h : Heap} {cells slots pc pc' : Nat} {Ls Ls' : Array Slot} {st st' : List Value} {a0 : Array Value}
variable {y2 : MethodName} {bytes2 : ByteArray} {maxL2 : Nat} {ret2 : Option FieldType} {rm : Room} {i W : Nat} {as' : Array Value} {argsL rest : List Value} {Q2 : Option Value → Heap → Prop} {ps : List FieldType} {r2 : Option FieldType} {P E : Vm → Prop} {hPE : ∀ a b : Vm, b.interned = a.interned → P a → E b} {hp : Heap} {nE : Nat} {Ts Ts' Te : List String}
theorem bound_of {P2 E2 : Vm → Prop} {hPE2 : ∀ a b : Vm, b.interned = a.interned → P2 a → E2 b} {hp2 : Heap} {n1 : Nat} {L : List Loc} (h1 : nE ≤ n1) (F : Fr ((Wd.h P2 E2 hPE2 hp2 nE).bound n1) L) : Fr ((Wd.h P E hPE hp nE).bound n0) L := fun x hx => by
  have q := F x hx
  have e1 : (Wd.h P2 E2 hPE2 hp2 nE).bound n1 = nE := Nat.min_eq_left h1
  rw [e1] at q
  exact Nat.le_trans (Nat.min_le_left _ _) q
/-- ldc of a String constant whose text has not been loaded yet, read -/
theorem Go.ldcV {text : String} {n n1 : Nat} (w : (Cond.stringLink y.cls i text).before a0 Z = true) (wS : ∀ a ∈ Bundle.stringAtoms, a.before a0 Z = true) (hP : ∀ vm, P vm → IB Z vm Ts) (hnot : text ∉ Ts) (hkeep : ∀ (b : Addr) (cl : Cell), Z.heap[b]? = some cl → hp[b]? = some cl) (hsz : hp.size ≤ n0) (hh : Jvm.Lit.constHeld Z y.cls i) (hcw : Jvm.Lit.compactW.before a0 Z = true)
    {vs : List Value} {z : Int32} (ht : (∀ c ∈ text.toList, c.toNat < 256) ∧ text.toList.map (fun c => Value.int (Jvm.Lit.byteI c.toNat.toUInt16)) = vs) (hz : z.toInt = (vs.length : Int)) (hd : decode bytes pc = .ok (.ldc i, 2)) (hn : 4 * text.toList.length ≤ n) (hbig : n ≤ 536870912) (hc : cells + 2 ≤ R.cells) (hl : slots + (n + 4) ≤ R.slots) (hp' : pc + 2 = pc')
    (hE2 : ∀ a b : Vm, b.interned = a.interned → IB Z a (text :: Ts) → E b) (hn1 : nE ≤ n1) (hn2 : n1 ≤ n0)
    (q : ∀ (h' : Heap) (a b : Addr), Ext h h' → Exa Z h' a "java/lang/String" → Fld Z h' a "java/lang/String" "coder" "B" (.int 0) → Fld Z h' a "java/lang/String" "value" "[B" (.ref b) → Ary Z h' b .byte vs →
      Go (.h (fun vm => IB Z vm (text :: Ts) ∧ Lit (Z.setVm vm) y.cls i a) E (fun a b e k => hE2 a b e k.1) hp nE) l R Z y bytes maxL ret n1 K N Q h' (cells + 2) (slots + (n + 4)) pc' Ls (.ref a :: st)) : Go (.h P E hPE hp nE) l R Z y bytes maxL ret n0 K N Q h cells slots pc Ls st := by
  subst hp'
  intro p e s0 s m args below meth c T locs hR O X eT F
  obtain ⟨⟨vm0, k0, rfl, hS, hk⟩, hPv, hhp⟩ := hR
  have z0 : (0 : Int32).toInt = 0 := rfl
  have hhp' : s0.heap = hp := hhp
  obtain ⟨a, T2, h2, k1, b, kb, X2, e2, E2, S2, hk1, hZ2, hown2, xE, xC, xV, xA, la, lb, hI, hL, st2⟩ := RoadKit.ldcSVL X O.1 O.2.2.2.2.2.1 O.2.2.2.1 w wS eT hS hk (fun x hx => Nat.le_trans (by rw [hhp']; exact hsz) (F x hx)) (by rw [hhp']; exact hkeep) (hP _ hPv) hnot hh hcw ht (by rw [Int32.lt_iff_toInt_lt, z0]; omega) (clamp_of hz) (g := mkF m pc Ls st) rfl (hb O.2.1 hd) hn hbig hc hl
  obtain ⟨s₂, o, h1, r1, r2, v, L, r3, r4, r5⟩ := q h2 a b E2 xE xC xV (xA.ary hz) p e s0 (s0.setVm T2.vm) m args below meth c T2 locs ⟨⟨T2.vm, k1, rfl, S2, hk1⟩, ⟨hI, hL⟩, hhp⟩ ⟨O.1, O.2.1, O.2.2.1, hown2, O.2.2.2.2.1, hZ2, O.2.2.2.2.2.2.1, O.2.2.2.2.2.2.2⟩ X2 e2 (fun x hx => Nat.le_trans hn2 (F x hx))
  exact ⟨s₂, o, st2 _ h1, r1, r2, v, L, r3, ⟨r4.1, bound_of hn1 r4.2⟩, r5⟩
/-- a second load -/
theorem Go.ldcAg {text : String} {a : Addr} (w : (Cond.stringLink y.cls i text).before a0 Z = true) (hP : ∀ vm, P vm → Lit (Z.setVm vm) y.cls i a) (hd : decode bytes pc = .ok (.ldc i, 2)) (hp' : pc + 2 = pc')
    (q : Go (.h P E hPE hp nE) l R Z y bytes maxL ret n0 K N Q h cells slots pc' Ls (.ref a :: st)) : Go (.h P E hPE hp nE) l R Z y bytes maxL ret n0 K N Q h cells slots pc Ls st := by
  subst hp'
  intro p e s0 s m args below meth c T locs hR O X eT F
  obtain ⟨s₂, o, h1, r⟩ := q p e s0 s m args below meth c T locs hR O X eT F
  obtain ⟨⟨vm0, k0, rfl, hS, hk⟩, hPv, hhp⟩ := hR
  exact ⟨s₂, o, RoadKit.ldcAgain X O.1 O.2.2.2.2.2.1 O.2.2.2.1 w (hP _ hPv) (g := mkF m pc Ls st) rfl (hb O.2.1 hd) _ h1, r⟩
/-- a method that may load texts: those loaded before it are among Ts, those behind it among Te -/
def MtH (l : Launch) (Z : State) (y : MethodName) (bytes : ByteArray) (maxL : Nat) (ret : Option FieldType) (rm : Room) (n0 : Nat) (Q : Option Value → Heap → Prop) (h : Heap) (as' : Array Value) (Ts Te : List String) : Prop :=
  MetFree l y (head1 [Cond.code y bytes maxL ret] rm) (fun a U => a = as' ∧ Z.Warmed39 U.vm ∧ U.heap = h ∧ IB Z U.vm Ts) (fun _ _ _ _ _ => True) (fun _ U o U' => ∃ v L, o = .returned v ∧ ((Q v U'.heap ∧ h.size ≤ U'.heap.size) ∧ Fr n0 L) ∧ ReturnedEndW U o U' L rm.cells rm.slots ∧ IB Z U'.vm Te)
theorem met_goH {ws : List Jvm.Cond} {n1 : Nat} (hpl : plainFor y = true) (hef : ∀ m, entryFrame m as' maxL = mkF m 0 Ls []) (hs : ∀ t ∈ Ts, t ∈ Te) (hn : n0 ≤ n1) (g : Go (.h (fun vm => IB Z vm Ts) (fun vm => IB Z vm Te) (ibE hs) h n0) l rm Z y bytes maxL ret n1 K N Q h 0 0 0 Ls []) :
    MetFree l y (head1 (Jvm.Cond.code y bytes maxL ret :: ws) rm) (fun a U => a = as' ∧ Z.Warmed39 U.vm ∧ U.heap = h ∧ IB Z U.vm Ts) (fun _ _ _ _ _ => True) (fun _ U o U' => ∃ v L, o = .returned v ∧ ((Q v U'.heap ∧ h.size ≤ U'.heap.size) ∧ Fr n0 L) ∧ ReturnedEndW U o U' L K N ∧ IB Z U'.vm Te) := by
  refine MetFree.of_bodySF hpl hisR ?_
  intro p e s m args below meth c s₁ Bd hml0 hP hK
  obtain ⟨rfl, hZ, hh, hI⟩ := hP
  have O : Own Z y bytes maxL ret p s m meth c := ⟨Bd.exec, Bd.bytes, hml0, findClass_of_methodNamed Bd.named, (name_of_methodNamed Bd.named Bd.method).1, hZ, Bd.returns, Bd.notSynchronized⟩
  have X0 : Stand p l e rm s m args below meth c s₁ [] 0 0 := Stand.of_body Bd
  have e0 : s₁.heap = h := by rw [← hh, Bd.state]; rfl
  obtain ⟨s₂, o, h1, h2, h3, v, L, h4, h5, h6⟩ := g p e s s m args below meth c s₁ [] ⟨⟨s.vm, 0, rfl, (State.WarmedH.refl s).since 0, Nat.zero_le _⟩, hI, hh⟩ O X0 e0 (Fr.nil n1)
  have eb : (Wd.h (fun vm => IB Z vm Ts) (fun vm => IB Z vm Te) (ibE hs) h n0).bound n1 = n0 := Nat.min_eq_left hn
  rw [eb] at h5
  exact ⟨s₂, o, castTop (hef m) h1, h2, h3, v, L, h4, ⟨⟨h5.1, hh ▸ h6.1.2.2.2.2.1⟩, h5.2⟩, h6.1, h6.2⟩
theorem MtH.go {n1 : Nat} (hpl : plainFor y = true) (hef : ∀ m, entryFrame m as' maxL = mkF m 0 Ls []) (hs : ∀ t ∈ Ts, t ∈ Te) (hn : n0 ≤ n1) (g : Go (.h (fun vm => IB Z vm Ts) (fun vm => IB Z vm Te) (ibE hs) h n0) l rm Z y bytes maxL ret n1 rm.cells rm.slots Q h 0 0 0 Ls []) : MtH l Z y bytes maxL ret rm n0 Q h as' Ts Te := met_goH (ws := []) hpl hef hs hn g
theorem backOfI {p : Program} {e : Env} {s : State} {args : Array Value} {below : List Frame} {vm0 : Vm} {len : Nat} (hM : MtH l Z y2 bytes2 maxL2 ret2 rm n0 Q2 h as' Ts Te)
    (hZ : Z.Warmed39 vm0) (wc : (Cond.code y2 bytes2 maxL2 ret2).before a0 Z = true) (wz : (Cond.initialized y2.cls).before a0 Z = true) (hf : rm.frames + 1 ≤ R.frames) (hl : W + (maxL2 + 11) + rm.locals ≤ R.locals) (hI : IB Z vm0 Ts) :
    BackS l R p e below (s.setVm vm0) args y2 len W (fun A a => a = as' ∧ A.U.heap = h ∧ A.cells + rm.cells ≤ R.cells ∧ A.slots + rm.slots ≤ R.slots)
      (fun A _ v B => ∃ L, ((Q2 v B.U.heap ∧ h.size ≤ B.U.heap.size) ∧ Fr n0 L) ∧ B.locs = A.locs ++ L ∧ B.cells = A.cells + rm.cells ∧ B.slots = A.slots + rm.slots ∧ IB Z B.U.vm Te) :=
  BackS.of_freeW (bytes := bytes2) (maxL := maxL2) (ret := ret2) (E := fun _ _ o t L k n => k = rm.cells ∧ n = rm.slots ∧ (∃ v, o = .returned v ∧ ((Q2 v t.heap ∧ h.size ≤ t.heap.size) ∧ Fr n0 L)) ∧ IB Z t.vm Te) hM hf hl
    (fun m meth c A a Y hp => have hU : Z.Warmed39 A.U.vm := wtrans (s := s.setVm vm0) hZ Y.warmed
      ⟨by show (Cond.and _ .tt).before a A.U = true; rw [Cond.before_and, mv hU wc]; rfl, mv hU wc, mv hU wz, hp.2.2.1, hp.2.2.2⟩)
    (fun m meth c A a g mk Y hp => ⟨hp.1, wtrans (s := s.setVm vm0) hZ Y.warmed, hp.2.1, hI.cong Y.warmed.interned_eq⟩) (fun _ _ _ _ _ _ _ _ _ => trivial)
    (fun _ _ _ _ ⟨v, L, h1, h2, h3, h4⟩ => ⟨L, _, _, h3, rfl, rfl, ⟨v, h1, h2⟩, h4⟩)
    (fun m meth c A a g mk v t L k n Y hp _ _ ⟨e1, e2, ⟨v', e3, e4⟩, e5⟩ => by
      cases e3; subst e1 e2
      exact ⟨L, e4, rfl, rfl, rfl, e5⟩)
theorem Go.callSI (w1 : (Cond.methodLink y.cls i y2).before a0 Z = true) (w2 : (Cond.static y2).before a0 Z = true) (w3 : (Cond.initialized y2.cls).before a0 Z = true) (w4 : (Cond.code y2 bytes2 maxL2 ret2).before a0 Z = true) (hy : y2.cls ≠ "java/lang/invoke/MethodHandle" ∧ y2.cls ≠ "java/lang/invoke/VarHandle")
    (hM : MtH l Z y2 bytes2 maxL2 ret2 rm n0 Q2 h argsL.toArray Ts Te) (hP : ∀ vm, P vm → IB Z vm Ts) (hE2 : ∀ a b : Vm, b.interned = a.interned → IB Z a Te → E b) (hd : decode bytes pc = .ok (.invokestatic i, 3)) (hz : Ls.size = maxL) (hpd : parseMethodDescriptor y2.desc = some ⟨ps, r2⟩) (hlen : argsL.length = ps.length) (hst : st = argsL.reverse ++ rest)
    (hW : (rest.map fun v => v.category).sum ≤ W) (hf : rm.frames + 1 ≤ R.frames) (hl : W + (maxL2 + 11) + rm.locals ≤ R.locals) (hc : cells + rm.cells ≤ R.cells) (hs : slots + rm.slots ≤ R.slots) (hp' : pc + 3 = pc')
    (q : ∀ v h', Q2 v h' → Go (.h (fun vm => IB Z vm Te) E hE2 hp nE) l R Z y bytes maxL ret n0 K N Q h' (cells + rm.cells) (slots + rm.slots) pc' Ls (v.toList ++ rest)) : Go (.h P E hPE hp nE) l R Z y bytes maxL ret n0 K N Q h cells slots pc Ls st := by
  subst hp' hst
  intro p e s0 s m args below meth c T locs hR O X eT F
  obtain ⟨⟨vm0, k0, rfl, hS, hk⟩, hPv, hhp⟩ := hR
  obtain ⟨v, vm₁, ⟨T2, L2, k2, n2⟩, -, X2, S2, g2, ⟨Lc, hQ, l2, y2, z2, hI2⟩, st2⟩ := RoadKit.callSS X O.1 (y := y2) O.2.2.2.1 (mvT O.2.2.2.2.2.1 w1) (mvT O.2.2.2.2.2.1 w2) (mvT O.2.2.2.2.2.1 w3) (mvT O.2.2.2.2.2.1 w4) hy
    (backOfI (W := W) hM O.2.2.2.2.2.1 w4 w3 hf hl (hP _ hPv)) (g := mkF m pc Ls (argsL.reverse ++ rest)) rfl (hz.trans O.2.2.1.symm) (argsL := argsL) (rest := rest) (lenOf hpd hlen) rfl (by show 2 * 0 + _ ≤ _; omega) (hb O.2.1 hd) (fun _ _ => ⟨rfl, eT, hc, hs⟩)
  dsimp only [Pt.U, Pt.locs, Pt.cells, Pt.slots] at X2 l2 y2 z2 st2 hQ S2 g2 hI2
  subst l2 y2 z2
  rw [eT] at g2
  obtain ⟨X3, S3, hZ3, hown3⟩ := rebS hS hk X2 S2 g2 O.2.2.2.2.2.1 O.2.2.2.1
  obtain ⟨s₂, o, h1, r⟩ := q v T2.heap hQ.1.1 p e s0 (s0.setVm T2.vm) m args below meth c T2 _ ⟨⟨T2.vm, _, rfl, S3, Nat.le_refl _⟩, hI2, hhp⟩ ⟨O.1, O.2.1, O.2.2.1, hown3, O.2.2.2.2.1, hZ3, O.2.2.2.2.2.2.1, O.2.2.2.2.2.2.2⟩ X3 rfl (Fr.app F hQ.2)
  exact ⟨s₂, o, st2.trans h1, r⟩
theorem Go.callNI {a : Addr} (hy1 : y2.name = "<init>") (w1 : (Cond.methodLink y.cls i y2).before a0 Z = true) (w2 : (Cond.instanceMethod y2).before a0 Z = true) (w3 : (Cond.initialized y2.cls).before a0 Z = true) (w4 : (Cond.code y2 bytes2 maxL2 none).before a0 Z = true) (hy : y2.cls ≠ "java/lang/invoke/MethodHandle" ∧ y2.cls ≠ "java/lang/invoke/VarHandle")
    (hM : MtH l Z y2 bytes2 maxL2 none rm n0 Q2 h (.ref a :: argsL).toArray Ts Te) (hP : ∀ vm, P vm → IB Z vm Ts) (hE2 : ∀ a b : Vm, b.interned = a.interned → IB Z a Te → E b) (hd : decode bytes pc = .ok (.invokespecial i, 3)) (hz : Ls.size = maxL) (hpd : parseMethodDescriptor y2.desc = some ⟨ps, r2⟩) (hlen : argsL.length = ps.length) (hst : st = argsL.reverse ++ .ref a :: rest)
    (hW : (rest.map fun v => v.category).sum ≤ W) (hf : rm.frames + 1 ≤ R.frames) (hl : W + (maxL2 + 11) + rm.locals ≤ R.locals) (hc : cells + rm.cells ≤ R.cells) (hs : slots + rm.slots ≤ R.slots) (hp' : pc + 3 = pc')
    (q : ∀ v h', Q2 v h' → Go (.h (fun vm => IB Z vm Te) E hE2 hp nE) l R Z y bytes maxL ret n0 K N Q h' (cells + rm.cells) (slots + rm.slots) pc' Ls (v.toList ++ rest)) : Go (.h P E hPE hp nE) l R Z y bytes maxL ret n0 K N Q h cells slots pc Ls st := by
  subst hp' hst
  intro p e s0 s m args below meth c T locs hR O X eT F
  obtain ⟨⟨vm0, k0, rfl, hS, hk⟩, hPv, hhp⟩ := hR
  obtain ⟨v, vm₁, ⟨T2, L2, k2, n2⟩, -, X2, S2, g2, ⟨Lc, hQ, l2, y2, z2, hI2⟩, st2⟩ := X.specialBackS O.1 (y := y2) hy1 O.2.2.2.1 (mvT O.2.2.2.2.2.1 w1) (mvT O.2.2.2.2.2.1 w2) (mvT O.2.2.2.2.2.1 w4) hy
    (backOfI (W := W) hM O.2.2.2.2.2.1 w4 w3 hf hl (hP _ hPv)) (g := mkF m pc Ls (argsL.reverse ++ .ref a :: rest)) rfl (hz.trans O.2.2.1.symm) (Steps.refl _) (a := a) (argsL := argsL) (rest := rest) (lenOf hpd hlen) rfl (by show 2 * 0 + _ ≤ _; omega) (hb O.2.1 hd) (fun _ _ => ⟨rfl, eT, hc, hs⟩)
  dsimp only [Pt.U, Pt.locs, Pt.cells, Pt.slots] at X2 l2 y2 z2 st2 hQ S2 g2 hI2
  subst l2 y2 z2
  rw [eT] at g2
  obtain ⟨X3, S3, hZ3, hown3⟩ := rebS hS hk X2 S2 g2 O.2.2.2.2.2.1 O.2.2.2.1
  obtain ⟨s₂, o, h1, r⟩ := q v T2.heap hQ.1.1 p e s0 (s0.setVm T2.vm) m args below meth c T2 _ ⟨⟨T2.vm, _, rfl, S3, Nat.le_refl _⟩, hI2, hhp⟩ ⟨O.1, O.2.1, O.2.2.1, hown3, O.2.2.2.2.1, hZ3, O.2.2.2.2.2.2.1, O.2.2.2.2.2.2.2⟩ X3 rfl (Fr.app F hQ.2)
  exact ⟨s₂, o, st2.trans h1, r⟩
/-- what is known of the tables may be forgotten in part -/
theorem Go.less {P2 : Vm → Prop} {hPE2 : ∀ a b : Vm, b.interned = a.interned → P2 a → E b} (hP : ∀ vm, P vm → P2 vm) (q : Go (.h P2 E hPE2 hp nE) l R Z y bytes maxL ret n0 K N Q h cells slots pc Ls st) : Go (.h P E hPE hp nE) l R Z y bytes maxL ret n0 K N Q h cells slots pc Ls st := by
  intro p e s0 s m args below meth c T locs hR O X eT F
  exact q p e s0 s m args below meth c T locs ⟨hR.1, hP _ hR.2.1, hR.2.2⟩ O X eT F
end GoHeld
section GoByte
variable {wd : Wd} {l : Launch} {R : Room} {Z : State} {y : MethodName} {bytes : ByteArray} {maxL : Nat} {ret : Option FieldType} {n0 K N : Nat} {Q : Option Value → Heap → Prop} {h : Heap} {cells slots pc pc' : Nat} {Ls Ls' : Array Slot} {st st' : List Value} {a0 : Array Value}
theorem Go.ldB {a : Addr} {vs : List Value} {j : Int32} {k : Nat} {v : Value} (hA : Ary Z h a .byte vs) (hj : j.toInt = (k : Int)) (hv : vs[k]? = some v) (hd : decode bytes pc = .ok (.baload, 1)) (hp : pc + 1 = pc') (q : Go wd l R Z y bytes maxL ret n0 K N Q h cells slots pc' Ls (v :: st)) : Go wd l R Z y bytes maxL ret n0 K N Q h cells slots pc Ls (.int j :: .ref a :: st) := by
  subst hp
  obtain ⟨cl, A, r⟩ := hA
  exact Go.of q fun p e s m args below meth c T locs O X eT t hr => X.baloadBytes O.1 (j := j) (v := v) (by rw [eT]; exact A.1) (State.isArrayOf_alike O.2.2.2.2.2.1.alike A.2.1) A.2.2 (inb hj r (lt_of_get hv)) (by rw [clamp_of hj, r]; simpa using hv) (g := mkF m pc Ls (.int j :: .ref a :: st)) rfl rfl (hb O.2.1 hd) _ hr
theorem Go.stB {a : Addr} {vs : List Value} {j v : Int32} {k : Nat} (hA : Ary Z h a .byte vs) (hj : j.toInt = (k : Int)) (hk : k < vs.length) (hd : decode bytes pc = .ok (.bastore, 1)) (ha : n0 ≤ a) (hp : pc + 1 = pc')
    (q : ∀ h', Wr h h' a k (.int (nar .byte v)) → Ary Z h' a .byte (vs.set k (.int (nar .byte v))) → Go wd l R Z y bytes maxL ret n0 K N Q h' cells slots pc' Ls st) : Go wd l R Z y bytes maxL ret n0 K N Q h cells slots pc Ls (.int v :: .int j :: .ref a :: st) := by
  subst hp
  have hA' := hA
  obtain ⟨cl, A, r⟩ := hA
  intro p e s0 s m args below meth c T locs hR O X eT F
  obtain ⟨T2, h2, X2, e2, W2, st2⟩ := RoadKit.stB X O.1 O.2.2.2.2.2.1 eT A (j := j) (x := v) (inb hj r hk) (g := mkF m pc Ls (.int v :: .int j :: .ref a :: st)) rfl rfl (hb O.2.1 hd)
  rw [clamp_of hj] at X2 W2
  obtain ⟨s₂, o, h1, r⟩ := q h2 W2 (hA'.set W2) p e s0 s m args below meth c T2 _ (hR.mono (Nat.le_of_eq W2.size.symm)) O X2 e2 (Fr.snoc X2 F ha)
  exact ⟨s₂, o, st2 _ h1, r⟩
end GoByte
end Jvm.RoadKit
namespace Jvm.RoadKit
open Sem ClassFile Op Lib Jvm.Stand Jvm.Free Jvm.LawKit
section GoInst
variable {wd : Wd} {l : Launch} {R : Room} {Z : State} {y : MethodName} {bytes : ByteArray} {maxL : Nat} {ret : Option FieldType} {n0 K N : Nat} {Q : Option Value → Heap → Prop} {h : Heap} {cells slots pc pc' : Nat} {Ls Ls' : Array Slot} {st st' : List Value} {a0 : Array Value}
theorem Go.instYes {C : String} {i : Nat} {a : Addr} (w : (Cond.classLink y.cls i C).before a0 Z = true) (hI : Ins Z h a C true) (hd : decode bytes pc = .ok (.instanceof i, 3)) (hp : pc + 3 = pc') (q : Go wd l R Z y bytes maxL ret n0 K N Q h cells slots pc' Ls (.int 1 :: st)) : Go wd l R Z y bytes maxL ret n0 K N Q h cells slots pc Ls (.ref a :: st) := by
  subst hp
  intro p e s0 s m args below meth c T locs hR O X eT F
  obtain ⟨T2, X2, e2, st2⟩ := RoadKit.instY X O.1 O.2.2.2.2.2.1 O.2.2.2.1 w eT hI (g := mkF m pc Ls (.ref a :: st)) rfl rfl (hb O.2.1 hd)
  obtain ⟨s₂, o, h1, r⟩ := q p e s0 s m args below meth c T2 locs hR O X2 e2 F
  exact ⟨s₂, o, st2 _ h1, r⟩
theorem Go.instNull {i : Nat} (hd : decode bytes pc = .ok (.instanceof i, 3)) (hp : pc + 3 = pc') (q : Go wd l R Z y bytes maxL ret n0 K N Q h cells slots pc' Ls (.int 0 :: st)) : Go wd l R Z y bytes maxL ret n0 K N Q h cells slots pc Ls (.null :: st) := by
  subst hp
  exact Go.of q fun p e s m args below meth c T locs O X eT t hr => X.instanceofNull O.1 (g := mkF m pc Ls (.null :: st)) rfl (rest := st) rfl (hb O.2.1 hd) _ hr
end GoInst
end Jvm.RoadKit
namespace Jvm.Pilot.@@N@@
open Jvm Jvm.ClassFile Sem Op Lib Jvm.Free Jvm.Stand Jvm.LawKit Jvm.RoadKit Bundle Jvm.Pilot.@@N@@.Jvm.D
theorem d1_0 : decode method_3_code 0 = .ok (.iload_n 1, 1) := by decide +kernel
theorem d1_1 : decode method_3_code 1 = .ok (.ifCond .ne 14, 3) := by decide +kernel
theorem d1_4 : decode method_3_code 4 = .ok (.new 25, 3) := by decide +kernel
theorem d1_7 : decode method_3_code 7 = .ok (.dup, 1) := by decide +kernel
theorem d1_8 : decode method_3_code 8 = .ok (.iconst 0, 1) := by decide +kernel
theorem d1_9 : decode method_3_code 9 = .ok (.newarray .char, 2) := by decide +kernel
theorem d1_11 : decode method_3_code 11 = .ok (.invokespecial 38, 3) := by decide +kernel
theorem d1_14 : decode method_3_code 14 = .ok (.areturn, 1) := by decide +kernel
theorem d1_15 : decode method_3_code 15 = .ok (.iload_n 1, 1) := by decide +kernel
theorem d1_16 : decode method_3_code 16 = .ok (.iconst 1, 1) := by decide +kernel
theorem d1_17 : decode method_3_code 17 = .ok (.if_icmp .ne 20, 3) := by decide +kernel
theorem d1_20 : decode method_3_code 20 = .ok (.new 25, 3) := by decide +kernel
theorem d1_23 : decode method_3_code 23 = .ok (.dup, 1) := by decide +kernel
theorem d1_24 : decode method_3_code 24 = .ok (.iconst 1, 1) := by decide +kernel
theorem d1_25 : decode method_3_code 25 = .ok (.newarray .char, 2) := by decide +kernel
theorem d1_27 : decode method_3_code 27 = .ok (.dup, 1) := by decide +kernel
theorem d1_28 : decode method_3_code 28 = .ok (.iconst 0, 1) := by decide +kernel
theorem d1_29 : decode method_3_code 29 = .ok (.aload_n 0, 1) := by decide +kernel
theorem d1_30 : decode method_3_code 30 = .ok (.iconst 0, 1) := by decide +kernel
theorem d1_31 : decode method_3_code 31 = .ok (.caload, 1) := by decide +kernel
theorem d1_32 : decode method_3_code 32 = .ok (.castore, 1) := by decide +kernel
theorem d1_33 : decode method_3_code 33 = .ok (.invokespecial 38, 3) := by decide +kernel
theorem d1_36 : decode method_3_code 36 = .ok (.areturn, 1) := by decide +kernel
theorem d1_37 : decode method_3_code 37 = .ok (.iload_n 1, 1) := by decide +kernel
theorem d1_38 : decode method_3_code 38 = .ok (.iconst 2, 1) := by decide +kernel
theorem d1_39 : decode method_3_code 39 = .ok (.if_icmp .ne 26, 3) := by decide +kernel
theorem d1_42 : decode method_3_code 42 = .ok (.new 25, 3) := by decide +kernel
theorem d1_45 : decode method_3_code 45 = .ok (.dup, 1) := by decide +kernel
theorem d1_46 : decode method_3_code 46 = .ok (.iconst 2, 1) := by decide +kernel
theorem d1_47 : decode method_3_code 47 = .ok (.newarray .char, 2) := by decide +kernel
theorem d1_49 : decode method_3_code 49 = .ok (.dup, 1) := by decide +kernel
theorem d1_50 : decode method_3_code 50 = .ok (.iconst 0, 1) := by decide +kernel
theorem d1_51 : decode method_3_code 51 = .ok (.aload_n 0, 1) := by decide +kernel
theorem d1_52 : decode method_3_code 52 = .ok (.iconst 0, 1) := by decide +kernel
theorem d1_53 : decode method_3_code 53 = .ok (.caload, 1) := by decide +kernel
theorem d1_54 : decode method_3_code 54 = .ok (.castore, 1) := by decide +kernel
theorem d1_55 : decode method_3_code 55 = .ok (.dup, 1) := by decide +kernel
theorem d1_56 : decode method_3_code 56 = .ok (.iconst 1, 1) := by decide +kernel
theorem d1_57 : decode method_3_code 57 = .ok (.aload_n 0, 1) := by decide +kernel
theorem d1_58 : decode method_3_code 58 = .ok (.iconst 1, 1) := by decide +kernel
theorem d1_59 : decode method_3_code 59 = .ok (.caload, 1) := by decide +kernel
theorem d1_60 : decode method_3_code 60 = .ok (.castore, 1) := by decide +kernel
theorem d1_61 : decode method_3_code 61 = .ok (.invokespecial 38, 3) := by decide +kernel
theorem d1_64 : decode method_3_code 64 = .ok (.areturn, 1) := by decide +kernel
theorem d1_65 : decode method_3_code 65 = .ok (.iload_n 1, 1) := by decide +kernel
theorem d1_66 : decode method_3_code 66 = .ok (.iconst 3, 1) := by decide +kernel
theorem d1_67 : decode method_3_code 67 = .ok (.if_icmp .ne 32, 3) := by decide +kernel
theorem d1_70 : decode method_3_code 70 = .ok (.new 25, 3) := by decide +kernel
theorem d1_73 : decode method_3_code 73 = .ok (.dup, 1) := by decide +kernel
theorem d1_74 : decode method_3_code 74 = .ok (.iconst 3, 1) := by decide +kernel
theorem d1_75 : decode method_3_code 75 = .ok (.newarray .char, 2) := by decide +kernel
theorem d1_77 : decode method_3_code 77 = .ok (.dup, 1) := by decide +kernel
theorem d1_78 : decode method_3_code 78 = .ok (.iconst 0, 1) := by decide +kernel
theorem d1_79 : decode method_3_code 79 = .ok (.aload_n 0, 1) := by decide +kernel
theorem d1_80 : decode method_3_code 80 = .ok (.iconst 0, 1) := by decide +kernel
theorem d1_81 : decode method_3_code 81 = .ok (.caload, 1) := by decide +kernel
theorem d1_82 : decode method_3_code 82 = .ok (.castore, 1) := by decide +kernel
theorem d1_83 : decode method_3_code 83 = .ok (.dup, 1) := by decide +kernel
theorem d1_84 : decode method_3_code 84 = .ok (.iconst 1, 1) := by decide +kernel
theorem d1_85 : decode method_3_code 85 = .ok (.aload_n 0, 1) := by decide +kernel
theorem d1_86 : decode method_3_code 86 = .ok (.iconst 1, 1) := by decide +kernel
theorem d1_87 : decode method_3_code 87 = .ok (.caload, 1) := by decide +kernel
theorem d1_88 : decode method_3_code 88 = .ok (.castore, 1) := by decide +kernel
theorem d1_89 : decode method_3_code 89 = .ok (.dup, 1) := by decide +kernel
theorem d1_90 : decode method_3_code 90 = .ok (.iconst 2, 1) := by decide +kernel
theorem d1_91 : decode method_3_code 91 = .ok (.aload_n 0, 1) := by decide +kernel
theorem d1_92 : decode method_3_code 92 = .ok (.iconst 2, 1) := by decide +kernel
theorem d1_93 : decode method_3_code 93 = .ok (.caload, 1) := by decide +kernel
theorem d1_94 : decode method_3_code 94 = .ok (.castore, 1) := by decide +kernel
theorem d1_95 : decode method_3_code 95 = .ok (.invokespecial 38, 3) := by decide +kernel
theorem d1_98 : decode method_3_code 98 = .ok (.areturn, 1) := by decide +kernel
theorem d1_99 : decode method_3_code 99 = .ok (.iload_n 1, 1) := by decide +kernel
theorem d1_100 : decode method_3_code 100 = .ok (.iconst 4, 1) := by decide +kernel
theorem d1_101 : decode method_3_code 101 = .ok (.if_icmp .ne 38, 3) := by decide +kernel
theorem d1_104 : decode method_3_code 104 = .ok (.new 25, 3) := by decide +kernel
theorem d1_107 : decode method_3_code 107 = .ok (.dup, 1) := by decide +kernel
theorem d1_108 : decode method_3_code 108 = .ok (.iconst 4, 1) := by decide +kernel
theorem d1_109 : decode method_3_code 109 = .ok (.newarray .char, 2) := by decide +kernel
theorem d1_111 : decode method_3_code 111 = .ok (.dup, 1) := by decide +kernel
theorem d1_112 : decode method_3_code 112 = .ok (.iconst 0, 1) := by decide +kernel
theorem d1_113 : decode method_3_code 113 = .ok (.aload_n 0, 1) := by decide +kernel
theorem d1_114 : decode method_3_code 114 = .ok (.iconst 0, 1) := by decide +kernel
theorem d1_115 : decode method_3_code 115 = .ok (.caload, 1) := by decide +kernel
theorem d1_116 : decode method_3_code 116 = .ok (.castore, 1) := by decide +kernel
theorem d1_117 : decode method_3_code 117 = .ok (.dup, 1) := by decide +kernel
theorem d1_118 : decode method_3_code 118 = .ok (.iconst 1, 1) := by decide +kernel
theorem d1_119 : decode method_3_code 119 = .ok (.aload_n 0, 1) := by decide +kernel
theorem d1_120 : decode method_3_code 120 = .ok (.iconst 1, 1) := by decide +kernel
theorem d1_121 : decode method_3_code 121 = .ok (.caload, 1) := by decide +kernel
theorem d1_122 : decode method_3_code 122 = .ok (.castore, 1) := by decide +kernel
theorem d1_123 : decode method_3_code 123 = .ok (.dup, 1) := by decide +kernel
theorem d1_124 : decode method_3_code 124 = .ok (.iconst 2, 1) := by decide +kernel
theorem d1_125 : decode method_3_code 125 = .ok (.aload_n 0, 1) := by decide +kernel
theorem d1_126 : decode method_3_code 126 = .ok (.iconst 2, 1) := by decide +kernel
theorem d1_127 : decode method_3_code 127 = .ok (.caload, 1) := by decide +kernel
theorem d1_128 : decode method_3_code 128 = .ok (.castore, 1) := by decide +kernel
theorem d1_129 : decode method_3_code 129 = .ok (.dup, 1) := by decide +kernel
theorem d1_130 : decode method_3_code 130 = .ok (.iconst 3, 1) := by decide +kernel
theorem d1_131 : decode method_3_code 131 = .ok (.aload_n 0, 1) := by decide +kernel
theorem d1_132 : decode method_3_code 132 = .ok (.iconst 3, 1) := by decide +kernel
theorem d1_133 : decode method_3_code 133 = .ok (.caload, 1) := by decide +kernel
theorem d1_134 : decode method_3_code 134 = .ok (.castore, 1) := by decide +kernel
theorem d1_135 : decode method_3_code 135 = .ok (.invokespecial 38, 3) := by decide +kernel
theorem d1_138 : decode method_3_code 138 = .ok (.areturn, 1) := by decide +kernel
theorem d1_139 : decode method_3_code 139 = .ok (.iload_n 1, 1) := by decide +kernel
theorem d1_140 : decode method_3_code 140 = .ok (.iconst 5, 1) := by decide +kernel
theorem d1_141 : decode method_3_code 141 = .ok (.if_icmp .ne 44, 3) := by decide +kernel
theorem d1_144 : decode method_3_code 144 = .ok (.new 25, 3) := by decide +kernel
theorem d1_147 : decode method_3_code 147 = .ok (.dup, 1) := by decide +kernel
theorem d1_148 : decode method_3_code 148 = .ok (.iconst 5, 1) := by decide +kernel
theorem d1_149 : decode method_3_code 149 = .ok (.newarray .char, 2) := by decide +kernel
theorem d1_151 : decode method_3_code 151 = .ok (.dup, 1) := by decide +kernel
theorem d1_152 : decode method_3_code 152 = .ok (.iconst 0, 1) := by decide +kernel
theorem d1_153 : decode method_3_code 153 = .ok (.aload_n 0, 1) := by decide +kernel
theorem d1_154 : decode method_3_code 154 = .ok (.iconst 0, 1) := by decide +kernel
theorem d1_155 : decode method_3_code 155 = .ok (.caload, 1) := by decide +kernel
theorem d1_156 : decode method_3_code 156 = .ok (.castore, 1) := by decide +kernel
theorem d1_157 : decode method_3_code 157 = .ok (.dup, 1) := by decide +kernel
theorem d1_158 : decode method_3_code 158 = .ok (.iconst 1, 1) := by decide +kernel
theorem d1_159 : decode method_3_code 159 = .ok (.aload_n 0, 1) := by decide +kernel
theorem d1_160 : decode method_3_code 160 = .ok (.iconst 1, 1) := by decide +kernel
theorem d1_161 : decode method_3_code 161 = .ok (.caload, 1) := by decide +kernel
theorem d1_162 : decode method_3_code 162 = .ok (.castore, 1) := by decide +kernel
theorem d1_163 : decode method_3_code 163 = .ok (.dup, 1) := by decide +kernel
theorem d1_164 : decode method_3_code 164 = .ok (.iconst 2, 1) := by decide +kernel
theorem d1_165 : decode method_3_code 165 = .ok (.aload_n 0, 1) := by decide +kernel
theorem d1_166 : decode method_3_code 166 = .ok (.iconst 2, 1) := by decide +kernel
theorem d1_167 : decode method_3_code 167 = .ok (.caload, 1) := by decide +kernel
theorem d1_168 : decode method_3_code 168 = .ok (.castore, 1) := by decide +kernel
theorem d1_169 : decode method_3_code 169 = .ok (.dup, 1) := by decide +kernel
theorem d1_170 : decode method_3_code 170 = .ok (.iconst 3, 1) := by decide +kernel
theorem d1_171 : decode method_3_code 171 = .ok (.aload_n 0, 1) := by decide +kernel
theorem d1_172 : decode method_3_code 172 = .ok (.iconst 3, 1) := by decide +kernel
theorem d1_173 : decode method_3_code 173 = .ok (.caload, 1) := by decide +kernel
theorem d1_174 : decode method_3_code 174 = .ok (.castore, 1) := by decide +kernel
theorem d1_175 : decode method_3_code 175 = .ok (.dup, 1) := by decide +kernel
theorem d1_176 : decode method_3_code 176 = .ok (.iconst 4, 1) := by decide +kernel
theorem d1_177 : decode method_3_code 177 = .ok (.aload_n 0, 1) := by decide +kernel
theorem d1_178 : decode method_3_code 178 = .ok (.iconst 4, 1) := by decide +kernel
theorem d1_179 : decode method_3_code 179 = .ok (.caload, 1) := by decide +kernel
theorem d1_180 : decode method_3_code 180 = .ok (.castore, 1) := by decide +kernel
theorem d1_181 : decode method_3_code 181 = .ok (.invokespecial 38, 3) := by decide +kernel
theorem d1_184 : decode method_3_code 184 = .ok (.areturn, 1) := by decide +kernel
theorem d1_185 : decode method_3_code 185 = .ok (.new 25, 3) := by decide +kernel
theorem d1_188 : decode method_3_code 188 = .ok (.dup, 1) := by decide +kernel
theorem d1_189 : decode method_3_code 189 = .ok (.bipush 6, 2) := by decide +kernel
theorem d1_191 : decode method_3_code 191 = .ok (.newarray .char, 2) := by decide +kernel
theorem d1_193 : decode method_3_code 193 = .ok (.dup, 1) := by decide +kernel
theorem d1_194 : decode method_3_code 194 = .ok (.iconst 0, 1) := by decide +kernel
theorem d1_195 : decode method_3_code 195 = .ok (.aload_n 0, 1) := by decide +kernel
theorem d1_196 : decode method_3_code 196 = .ok (.iconst 0, 1) := by decide +kernel
theorem d1_197 : decode method_3_code 197 = .ok (.caload, 1) := by decide +kernel
theorem d1_198 : decode method_3_code 198 = .ok (.castore, 1) := by decide +kernel
theorem d1_199 : decode method_3_code 199 = .ok (.dup, 1) := by decide +kernel
theorem d1_200 : decode method_3_code 200 = .ok (.iconst 1, 1) := by decide +kernel
theorem d1_201 : decode method_3_code 201 = .ok (.aload_n 0, 1) := by decide +kernel
theorem d1_202 : decode method_3_code 202 = .ok (.iconst 1, 1) := by decide +kernel
theorem d1_203 : decode method_3_code 203 = .ok (.caload, 1) := by decide +kernel
theorem d1_204 : decode method_3_code 204 = .ok (.castore, 1) := by decide +kernel
theorem d1_205 : decode method_3_code 205 = .ok (.dup, 1) := by decide +kernel
theorem d1_206 : decode method_3_code 206 = .ok (.iconst 2, 1) := by decide +kernel
theorem d1_207 : decode method_3_code 207 = .ok (.aload_n 0, 1) := by decide +kernel
theorem d1_208 : decode method_3_code 208 = .ok (.iconst 2, 1) := by decide +kernel
theorem d1_209 : decode method_3_code 209 = .ok (.caload, 1) := by decide +kernel
theorem d1_210 : decode method_3_code 210 = .ok (.castore, 1) := by decide +kernel
theorem d1_211 : decode method_3_code 211 = .ok (.dup, 1) := by decide +kernel
theorem d1_212 : decode method_3_code 212 = .ok (.iconst 3, 1) := by decide +kernel
theorem d1_213 : decode method_3_code 213 = .ok (.aload_n 0, 1) := by decide +kernel
theorem d1_214 : decode method_3_code 214 = .ok (.iconst 3, 1) := by decide +kernel
theorem d1_215 : decode method_3_code 215 = .ok (.caload, 1) := by decide +kernel
theorem d1_216 : decode method_3_code 216 = .ok (.castore, 1) := by decide +kernel
theorem d1_217 : decode method_3_code 217 = .ok (.dup, 1) := by decide +kernel
theorem d1_218 : decode method_3_code 218 = .ok (.iconst 4, 1) := by decide +kernel
theorem d1_219 : decode method_3_code 219 = .ok (.aload_n 0, 1) := by decide +kernel
theorem d1_220 : decode method_3_code 220 = .ok (.iconst 4, 1) := by decide +kernel
theorem d1_221 : decode method_3_code 221 = .ok (.caload, 1) := by decide +kernel
theorem d1_222 : decode method_3_code 222 = .ok (.castore, 1) := by decide +kernel
theorem d1_223 : decode method_3_code 223 = .ok (.dup, 1) := by decide +kernel
theorem d1_224 : decode method_3_code 224 = .ok (.iconst 5, 1) := by decide +kernel
theorem d1_225 : decode method_3_code 225 = .ok (.aload_n 0, 1) := by decide +kernel
theorem d1_226 : decode method_3_code 226 = .ok (.iconst 5, 1) := by decide +kernel
theorem d1_227 : decode method_3_code 227 = .ok (.caload, 1) := by decide +kernel
theorem d1_228 : decode method_3_code 228 = .ok (.castore, 1) := by decide +kernel
theorem d1_229 : decode method_3_code 229 = .ok (.invokespecial 38, 3) := by decide +kernel
theorem d1_232 : decode method_3_code 232 = .ok (.areturn, 1) := by decide +kernel
theorem d2_0 : decode jdk_42_method_3_code 0 = .ok (.aload_n 0, 1) := by decide +kernel
theorem d2_1 : decode jdk_42_method_3_code 1 = .ok (.aload_n 1, 1) := by decide +kernel
theorem d2_2 : decode jdk_42_method_3_code 2 = .ok (.iconst 0, 1) := by decide +kernel
theorem d2_3 : decode jdk_42_method_3_code 3 = .ok (.aload_n 1, 1) := by decide +kernel
theorem d2_4 : decode jdk_42_method_3_code 4 = .ok (.arraylength, 1) := by decide +kernel
theorem d2_5 : decode jdk_42_method_3_code 5 = .ok (.aconst_null, 1) := by decide +kernel
theorem d2_6 : decode jdk_42_method_3_code 6 = .ok (.invokespecial 27, 3) := by decide +kernel
theorem d2_9 : decode jdk_42_method_3_code 9 = .ok (.return_, 1) := by decide +kernel
theorem d3_0 : decode jdk_42_method_149_code 0 = .ok (.aload_n 0, 1) := by decide +kernel
theorem d3_1 : decode jdk_42_method_149_code 1 = .ok (.invokespecial 1, 3) := by decide +kernel
theorem d3_4 : decode jdk_42_method_149_code 4 = .ok (.iload_n 3, 1) := by decide +kernel
theorem d3_5 : decode jdk_42_method_149_code 5 = .ok (.ifCond .ne 22, 3) := by decide +kernel
theorem d3_8 : decode jdk_42_method_149_code 8 = .ok (.aload_n 0, 1) := by decide +kernel
theorem d3_9 : decode jdk_42_method_149_code 9 = .ok (.ldc 7, 2) := by decide +kernel
theorem d3_11 : decode jdk_42_method_149_code 11 = .ok (.getfield 9, 3) := by decide +kernel
theorem d3_14 : decode jdk_42_method_149_code 14 = .ok (.putfield 9, 3) := by decide +kernel
theorem d3_17 : decode jdk_42_method_149_code 17 = .ok (.aload_n 0, 1) := by decide +kernel
theorem d3_18 : decode jdk_42_method_149_code 18 = .ok (.ldc 7, 2) := by decide +kernel
theorem d3_20 : decode jdk_42_method_149_code 20 = .ok (.getfield 15, 3) := by decide +kernel
theorem d3_23 : decode jdk_42_method_149_code 23 = .ok (.putfield 15, 3) := by decide +kernel
theorem d3_26 : decode jdk_42_method_149_code 26 = .ok (.return_, 1) := by decide +kernel
theorem d3_27 : decode jdk_42_method_149_code 27 = .ok (.getstatic 38, 3) := by decide +kernel
theorem d3_30 : decode jdk_42_method_149_code 30 = .ok (.ifCond .eq 28, 3) := by decide +kernel
theorem d3_33 : decode jdk_42_method_149_code 33 = .ok (.aload_n 1, 1) := by decide +kernel
theorem d3_34 : decode jdk_42_method_149_code 34 = .ok (.iload_n 2, 1) := by decide +kernel
theorem d3_35 : decode jdk_42_method_149_code 35 = .ok (.iload_n 3, 1) := by decide +kernel
theorem d3_36 : decode jdk_42_method_149_code 36 = .ok (.invokestatic 177, 3) := by decide +kernel
theorem d3_39 : decode jdk_42_method_149_code 39 = .ok (.astore 5, 2) := by decide +kernel
theorem d3_41 : decode jdk_42_method_149_code 41 = .ok (.aload_n 0, 1) := by decide +kernel
theorem d3_42 : decode jdk_42_method_149_code 42 = .ok (.aload 5, 2) := by decide +kernel
theorem d3_44 : decode jdk_42_method_149_code 44 = .ok (.iload_n 3, 1) := by decide +kernel
theorem d3_45 : decode jdk_42_method_149_code 45 = .ok (.invokestatic 47, 3) := by decide +kernel
theorem d3_48 : decode jdk_42_method_149_code 48 = .ok (.putfield 15, 3) := by decide +kernel
theorem d3_51 : decode jdk_42_method_149_code 51 = .ok (.aload_n 0, 1) := by decide +kernel
theorem d3_52 : decode jdk_42_method_149_code 52 = .ok (.aload 5, 2) := by decide +kernel
theorem d3_54 : decode jdk_42_method_149_code 54 = .ok (.putfield 9, 3) := by decide +kernel
theorem d3_57 : decode jdk_42_method_149_code 57 = .ok (.return_, 1) := by decide +kernel
theorem d5_0 : decode prog_2_method_4_code 0 = .ok (.invokestatic 43, 3) := by decide +kernel
theorem d5_3 : decode prog_2_method_4_code 3 = .ok (.astore_n 1, 1) := by decide +kernel
theorem d5_4 : decode prog_2_method_4_code 4 = .ok (.aload_n 1, 1) := by decide +kernel
theorem d5_5 : decode prog_2_method_4_code 5 = .ok (.arraylength, 1) := by decide +kernel
theorem d5_6 : decode prog_2_method_4_code 6 = .ok (.istore_n 2, 1) := by decide +kernel
theorem d5_7 : decode prog_2_method_4_code 7 = .ok (.iconst 0, 1) := by decide +kernel
theorem d5_8 : decode prog_2_method_4_code 8 = .ok (.istore_n 3, 1) := by decide +kernel
theorem d5_9 : decode prog_2_method_4_code 9 = .ok (.iload_n 3, 1) := by decide +kernel
theorem d5_10 : decode prog_2_method_4_code 10 = .ok (.iload_n 2, 1) := by decide +kernel
theorem d5_11 : decode prog_2_method_4_code 11 = .ok (.if_icmp .ge 29, 3) := by decide +kernel
theorem d5_14 : decode prog_2_method_4_code 14 = .ok (.aload_n 1, 1) := by decide +kernel
theorem d5_15 : decode prog_2_method_4_code 15 = .ok (.iload_n 3, 1) := by decide +kernel
theorem d5_16 : decode prog_2_method_4_code 16 = .ok (.aaload, 1) := by decide +kernel
theorem d5_17 : decode prog_2_method_4_code 17 = .ok (.astore 4, 2) := by decide +kernel
theorem d5_19 : decode prog_2_method_4_code 19 = .ok (.aload 4, 2) := by decide +kernel
theorem d5_21 : decode prog_2_method_4_code 21 = .ok (.getfield 29, 3) := by decide +kernel
theorem d5_24 : decode prog_2_method_4_code 24 = .ok (.aload_n 0, 1) := by decide +kernel
theorem d5_25 : decode prog_2_method_4_code 25 = .ok (.invokevirtual 47, 3) := by decide +kernel
theorem d5_28 : decode prog_2_method_4_code 28 = .ok (.ifCond .eq 6, 3) := by decide +kernel
theorem d5_31 : decode prog_2_method_4_code 31 = .ok (.aload 4, 2) := by decide +kernel
theorem d5_33 : decode prog_2_method_4_code 33 = .ok (.areturn, 1) := by decide +kernel
theorem d5_34 : decode prog_2_method_4_code 34 = .ok (.iinc 3 1, 3) := by decide +kernel
theorem d5_37 : decode prog_2_method_4_code 37 = .ok (.goto (-28), 3) := by decide +kernel
theorem d5_40 : decode prog_2_method_4_code 40 = .ok (.aconst_null, 1) := by decide +kernel
theorem d5_41 : decode prog_2_method_4_code 41 = .ok (.areturn, 1) := by decide +kernel
theorem d6_0 : decode prog_2_method_1_code 0 = .ok (.getstatic 10, 3) := by decide +kernel
theorem d6_3 : decode prog_2_method_1_code 3 = .ok (.invokevirtual 14, 3) := by decide +kernel
theorem d6_6 : decode prog_2_method_1_code 6 = .ok (.checkcast 15, 3) := by decide +kernel
theorem d6_9 : decode prog_2_method_1_code 9 = .ok (.areturn, 1) := by decide +kernel
theorem d7_0 : decode jdk_42_method_66_code 0 = .ok (.aload_n 0, 1) := by decide +kernel
theorem d7_1 : decode jdk_42_method_66_code 1 = .ok (.aload_n 1, 1) := by decide +kernel
theorem d7_2 : decode jdk_42_method_66_code 2 = .ok (.if_acmp .ne 5, 3) := by decide +kernel
theorem d7_5 : decode jdk_42_method_66_code 5 = .ok (.iconst 1, 1) := by decide +kernel
theorem d7_6 : decode jdk_42_method_66_code 6 = .ok (.ireturn, 1) := by decide +kernel
theorem d7_7 : decode jdk_42_method_66_code 7 = .ok (.aload_n 1, 1) := by decide +kernel
theorem d7_8 : decode jdk_42_method_66_code 8 = .ok (.instanceof 10, 3) := by decide +kernel
theorem d7_11 : decode jdk_42_method_66_code 11 = .ok (.ifCond .eq 43, 3) := by decide +kernel
theorem d7_14 : decode jdk_42_method_66_code 14 = .ok (.aload_n 1, 1) := by decide +kernel
theorem d7_15 : decode jdk_42_method_66_code 15 = .ok (.checkcast 10, 3) := by decide +kernel
theorem d7_18 : decode jdk_42_method_66_code 18 = .ok (.astore_n 2, 1) := by decide +kernel
theorem d7_19 : decode jdk_42_method_66_code 19 = .ok (.getstatic 38, 3) := by decide +kernel
theorem d7_22 : decode jdk_42_method_66_code 22 = .ok (.ifCond .eq 14, 3) := by decide +kernel
theorem d7_25 : decode jdk_42_method_66_code 25 = .ok (.aload_n 0, 1) := by decide +kernel
theorem d7_26 : decode jdk_42_method_66_code 26 = .ok (.getfield 15, 3) := by decide +kernel
theorem d7_29 : decode jdk_42_method_66_code 29 = .ok (.aload_n 2, 1) := by decide +kernel
theorem d7_30 : decode jdk_42_method_66_code 30 = .ok (.getfield 15, 3) := by decide +kernel
theorem d7_33 : decode jdk_42_method_66_code 33 = .ok (.if_icmp .ne 21, 3) := by decide +kernel
theorem d7_36 : decode jdk_42_method_66_code 36 = .ok (.aload_n 0, 1) := by decide +kernel
theorem d7_37 : decode jdk_42_method_66_code 37 = .ok (.getfield 9, 3) := by decide +kernel
theorem d7_40 : decode jdk_42_method_66_code 40 = .ok (.aload_n 2, 1) := by decide +kernel
theorem d7_41 : decode jdk_42_method_66_code 41 = .ok (.getfield 9, 3) := by decide +kernel
theorem d7_44 : decode jdk_42_method_66_code 44 = .ok (.invokestatic 541, 3) := by decide +kernel
theorem d7_47 : decode jdk_42_method_66_code 47 = .ok (.ifCond .eq 7, 3) := by decide +kernel
theorem d7_50 : decode jdk_42_method_66_code 50 = .ok (.iconst 1, 1) := by decide +kernel
theorem d7_51 : decode jdk_42_method_66_code 51 = .ok (.goto 4, 3) := by decide +kernel
theorem d7_54 : decode jdk_42_method_66_code 54 = .ok (.iconst 0, 1) := by decide +kernel
theorem d7_55 : decode jdk_42_method_66_code 55 = .ok (.ireturn, 1) := by decide +kernel
theorem d8_0 : decode jdk_43_method_13_code 0 = .ok (.aload_n 0, 1) := by decide +kernel
theorem d8_1 : decode jdk_43_method_13_code 1 = .ok (.arraylength, 1) := by decide +kernel
theorem d8_2 : decode jdk_43_method_13_code 2 = .ok (.aload_n 1, 1) := by decide +kernel
theorem d8_3 : decode jdk_43_method_13_code 3 = .ok (.arraylength, 1) := by decide +kernel
theorem d8_4 : decode jdk_43_method_13_code 4 = .ok (.if_icmp .ne 30, 3) := by decide +kernel
theorem d8_7 : decode jdk_43_method_13_code 7 = .ok (.iconst 0, 1) := by decide +kernel
theorem d8_8 : decode jdk_43_method_13_code 8 = .ok (.istore_n 2, 1) := by decide +kernel
theorem d8_9 : decode jdk_43_method_13_code 9 = .ok (.iload_n 2, 1) := by decide +kernel
theorem d8_10 : decode jdk_43_method_13_code 10 = .ok (.aload_n 0, 1) := by decide +kernel
theorem d8_11 : decode jdk_43_method_13_code 11 = .ok (.arraylength, 1) := by decide +kernel
theorem d8_12 : decode jdk_43_method_13_code 12 = .ok (.if_icmp .ge 20, 3) := by decide +kernel
theorem d8_15 : decode jdk_43_method_13_code 15 = .ok (.aload_n 0, 1) := by decide +kernel
theorem d8_16 : decode jdk_43_method_13_code 16 = .ok (.iload_n 2, 1) := by decide +kernel
theorem d8_17 : decode jdk_43_method_13_code 17 = .ok (.baload, 1) := by decide +kernel
theorem d8_18 : decode jdk_43_method_13_code 18 = .ok (.aload_n 1, 1) := by decide +kernel
theorem d8_19 : decode jdk_43_method_13_code 19 = .ok (.iload_n 2, 1) := by decide +kernel
theorem d8_20 : decode jdk_43_method_13_code 20 = .ok (.baload, 1) := by decide +kernel
theorem d8_21 : decode jdk_43_method_13_code 21 = .ok (.if_icmp .eq 5, 3) := by decide +kernel
theorem d8_24 : decode jdk_43_method_13_code 24 = .ok (.iconst 0, 1) := by decide +kernel
theorem d8_25 : decode jdk_43_method_13_code 25 = .ok (.ireturn, 1) := by decide +kernel
theorem d8_26 : decode jdk_43_method_13_code 26 = .ok (.iinc 2 1, 3) := by decide +kernel
theorem d8_29 : decode jdk_43_method_13_code 29 = .ok (.goto (-20), 3) := by decide +kernel
theorem d8_32 : decode jdk_43_method_13_code 32 = .ok (.iconst 1, 1) := by decide +kernel
theorem d8_33 : decode jdk_43_method_13_code 33 = .ok (.ireturn, 1) := by decide +kernel
theorem d8_34 : decode jdk_43_method_13_code 34 = .ok (.iconst 0, 1) := by decide +kernel
theorem d8_35 : decode jdk_43_method_13_code 35 = .ok (.ireturn, 1) := by decide +kernel
theorem d9_0 : decode jdk_52_method_16_code 0 = .ok (.iload_n 2, 1) := by decide +kernel
theorem d9_1 : decode jdk_52_method_16_code 1 = .ok (.newarray .byte, 2) := by decide +kernel
theorem d9_3 : decode jdk_52_method_16_code 3 = .ok (.astore_n 3, 1) := by decide +kernel
theorem d9_4 : decode jdk_52_method_16_code 4 = .ok (.aload_n 0, 1) := by decide +kernel
theorem d9_5 : decode jdk_52_method_16_code 5 = .ok (.iload_n 1, 1) := by decide +kernel
theorem d9_6 : decode jdk_52_method_16_code 6 = .ok (.aload_n 3, 1) := by decide +kernel
theorem d9_7 : decode jdk_52_method_16_code 7 = .ok (.iconst 0, 1) := by decide +kernel
theorem d9_8 : decode jdk_52_method_16_code 8 = .ok (.iload_n 2, 1) := by decide +kernel
theorem d9_9 : decode jdk_52_method_16_code 9 = .ok (.invokestatic 115, 3) := by decide +kernel
theorem d9_12 : decode jdk_52_method_16_code 12 = .ok (.istore 4, 2) := by decide +kernel
theorem d9_14 : decode jdk_52_method_16_code 14 = .ok (.iload 4, 2) := by decide +kernel
theorem d9_16 : decode jdk_52_method_16_code 16 = .ok (.iload_n 2, 1) := by decide +kernel
theorem d9_17 : decode jdk_52_method_16_code 17 = .ok (.if_icmp .eq 40, 3) := by decide +kernel
theorem d9_57 : decode jdk_52_method_16_code 57 = .ok (.aload_n 3, 1) := by decide +kernel
theorem d9_58 : decode jdk_52_method_16_code 58 = .ok (.areturn, 1) := by decide +kernel
theorem d10_0 : decode jdk_52_method_21_code 0 = .ok (.iconst 0, 1) := by decide +kernel
theorem d10_1 : decode jdk_52_method_21_code 1 = .ok (.istore 5, 2) := by decide +kernel
theorem d10_3 : decode jdk_52_method_21_code 3 = .ok (.iload 5, 2) := by decide +kernel
theorem d10_5 : decode jdk_52_method_21_code 5 = .ok (.iload 4, 2) := by decide +kernel
theorem d10_7 : decode jdk_52_method_21_code 7 = .ok (.if_icmp .ge 37, 3) := by decide +kernel
theorem d10_10 : decode jdk_52_method_21_code 10 = .ok (.aload_n 0, 1) := by decide +kernel
theorem d10_11 : decode jdk_52_method_21_code 11 = .ok (.iload_n 1, 1) := by decide +kernel
theorem d10_12 : decode jdk_52_method_21_code 12 = .ok (.caload, 1) := by decide +kernel
theorem d10_13 : decode jdk_52_method_21_code 13 = .ok (.istore 6, 2) := by decide +kernel
theorem d10_15 : decode jdk_52_method_21_code 15 = .ok (.iload 6, 2) := by decide +kernel
theorem d10_17 : decode jdk_52_method_21_code 17 = .ok (.sipush 255, 3) := by decide +kernel
theorem d10_20 : decode jdk_52_method_21_code 20 = .ok (.if_icmp .le 6, 3) := by decide +kernel
theorem d10_23 : decode jdk_52_method_21_code 23 = .ok (.iload 5, 2) := by decide +kernel
theorem d10_25 : decode jdk_52_method_21_code 25 = .ok (.ireturn, 1) := by decide +kernel
theorem d10_26 : decode jdk_52_method_21_code 26 = .ok (.aload_n 2, 1) := by decide +kernel
theorem d10_27 : decode jdk_52_method_21_code 27 = .ok (.iload_n 3, 1) := by decide +kernel
theorem d10_28 : decode jdk_52_method_21_code 28 = .ok (.iload 6, 2) := by decide +kernel
theorem d10_30 : decode jdk_52_method_21_code 30 = .ok (.i2b, 1) := by decide +kernel
theorem d10_31 : decode jdk_52_method_21_code 31 = .ok (.bastore, 1) := by decide +kernel
theorem d10_32 : decode jdk_52_method_21_code 32 = .ok (.iinc 1 1, 3) := by decide +kernel
theorem d10_35 : decode jdk_52_method_21_code 35 = .ok (.iinc 3 1, 3) := by decide +kernel
theorem d10_38 : decode jdk_52_method_21_code 38 = .ok (.iinc 5 1, 3) := by decide +kernel
theorem d10_41 : decode jdk_52_method_21_code 41 = .ok (.goto (-38), 3) := by decide +kernel
theorem d10_44 : decode jdk_52_method_21_code 44 = .ok (.iload 4, 2) := by decide +kernel
theorem d10_46 : decode jdk_52_method_21_code 46 = .ok (.ireturn, 1) := by decide +kernel
theorem d11_0 : decode jdk_52_method_15_code 0 = .ok (.iload_n 1, 1) := by decide +kernel
theorem d11_1 : decode jdk_52_method_15_code 1 = .ok (.aload_n 0, 1) := by decide +kernel
theorem d11_2 : decode jdk_52_method_15_code 2 = .ok (.arraylength, 1) := by decide +kernel
theorem d11_3 : decode jdk_52_method_15_code 3 = .ok (.isub, 1) := by decide +kernel
theorem d11_4 : decode jdk_52_method_15_code 4 = .ok (.bipush 31, 2) := by decide +kernel
theorem d11_6 : decode jdk_52_method_15_code 6 = .ok (.iushr, 1) := by decide +kernel
theorem d11_7 : decode jdk_52_method_15_code 7 = .ok (.i2b, 1) := by decide +kernel
theorem d11_8 : decode jdk_52_method_15_code 8 = .ok (.ireturn, 1) := by decide +kernel
theorem pd0 : parseMethodDescriptor "([CI[BII)I" = some ⟨[(.array .char), .int, (.array .byte), .int, .int], (some .int)⟩ := by decide +kernel
theorem pd1 : parseMethodDescriptor "([CII)[B" = some ⟨[(.array .char), .int, .int], (some (.array .byte))⟩ := by decide +kernel
theorem pd2 : parseMethodDescriptor "([BI)B" = some ⟨[(.array .byte), .int], (some .byte)⟩ := by decide +kernel
theorem pd3 : parseMethodDescriptor "([CIILjava/lang/Void;)V" = some ⟨[(.array .char), .int, .int, (.object "java/lang/Void")], none⟩ := by decide +kernel
theorem pd4 : parseMethodDescriptor "([C)V" = some ⟨[(.array .char)], none⟩ := by decide +kernel
theorem pd5 : parseMethodDescriptor "([B[B)Z" = some ⟨[(.array .byte), (.array .byte)], (some .boolean)⟩ := by decide +kernel
theorem pd6 : parseMethodDescriptor "()[Lcom/example/consentry/consentry/authorization/CodeChallengeMethod;" = some ⟨[], (some (.array (.object "com/example/consentry/consentry/authorization/CodeChallengeMethod")))⟩ := by decide +kernel
theorem pd7 : parseMethodDescriptor "(Ljava/lang/Object;)Z" = some ⟨[(.object "java/lang/Object")], (some .boolean)⟩ := by decide +kernel
theorem pd8 : parseMethodDescriptor "(Ljava/lang/String;)Lcom/example/consentry/consentry/authorization/CodeChallengeMethod;" = some ⟨[(.object "java/lang/String")], (some (.object "com/example/consentry/consentry/authorization/CodeChallengeMethod"))⟩ := by decide +kernel
theorem pd9 : parseMethodDescriptor "([CI)Ljava/lang/String;" = some ⟨[(.array .char), .int], (some (.object "java/lang/String"))⟩ := by decide +kernel
theorem pn0 : plainName "com/example/consentry/consentry/authorization/CodeChallengeMethodParsePinLaw" = true := by first | (simp [plainName, overriddenIn]; done) | decide +kernel
theorem pn1 : plainName "com/example/consentry/consentry/authorization/CodeChallengeMethod" = true := by first | (simp [plainName, overriddenIn]; done) | decide +kernel

theorem own_nc {v : Int32} (h : 0 ≤ v.toInt ∧ v.toInt < 65536) : nar .char v = v := by
  apply Int32.toInt_inj.mp
  show v.toUInt32.toUInt16.toUInt32.toInt32.toInt = v.toInt
  have := c_i2c v
  omega
theorem own_nb {v : Int32} (h : -128 ≤ v.toInt ∧ v.toInt < 128) : nar .byte v = v := by
  apply Int32.toInt_inj.mp
  show v.toInt8.toInt32.toInt = v.toInt
  have := c_i2b v
  omega
theorem own_cat {v : Value} (h : v.isRef = true) : v.category = 1 := by cases v <;> first | rfl | (cases h; done)
theorem own_fld_inj {Z : State} {h : Heap} {a : Addr} {C n d : String} {v w : Value} (F : Fld Z h a C n d v) (G : Fld Z h a C n d w) : v = w := by
  obtain ⟨c1, d1, k1, i1, f1, p1, p2, p3, p4, p5, p6, p7⟩ := F
  obtain ⟨c2, d2, k2, i2, f2, q1, q2, q3, q4, q5, q6, q7⟩ := G
  cases p1.symm.trans q1
  cases p2.symm.trans q2
  exact Option.some.inj (p7.symm.trans q7)
theorem strAtoms (l : Launch) (Z : State) (a0 : Array Value) (hw : ∀ d ∈ tables_1, d.before a0 Z = true) : ∀ a ∈ Bundle.stringAtoms, a.before a0 Z = true := by
  intro a ha
  simp only [Bundle.stringAtoms, List.mem_cons, List.not_mem_nil, or_false] at ha
  rcases ha with rfl | rfl | rfl | rfl | rfl | rfl | rfl
  · exact (hw _ (List.mem_of_getElem? (i := 9) rfl))
  · exact (hw _ (List.mem_of_getElem? (i := 8) rfl))
  · exact (hw _ (List.mem_of_getElem? (i := 21) rfl))
  · exact (hw _ (List.mem_of_getElem? (i := 22) rfl))
  · exact (hw _ (List.mem_of_getElem? (i := 23) rfl))
  · exact (hw _ (List.mem_of_getElem? (i := 24) rfl))
  · exact (hw _ (List.mem_of_getElem? (i := 25) rfl))

theorem own_eqI {args : Array Value} {s : State} {t : Term} {n : Int32} (h : (Jvm.Cond.eq t (.int n)).value args s none s [] = some true) : t.eval args s none [] s = some (.int n) := by
  obtain ⟨x, y, e1, e2, k, k'⟩ := cmp_v (Or.inl h)
  obtain rfl : y = .int n := (Option.some.inj (e2.symm.trans (Term.int_eval n)))
  obtain ⟨z, rfl⟩ : ∃ z, x = .int z := k'
  have q : (Jvm.Cond.eq t (.int n)).value args s none s [] = some (decide (z = n)) := by simp [Cond.value, e1, e2]
  rw [q] at h
  rw [e1, of_decide_eq_true (Option.some.inj h)]

theorem own_eqR {args : Array Value} {s : State} {t u : Term} {x : Addr} (h : (Jvm.Cond.eq t u).value args s none s [] = some true) (hu : u.eval args s none [] s = some (.ref x)) : t.eval args s none [] s = some (.ref x) := by
  obtain ⟨a, b, e1, e2, k, k'⟩ := cmp_v (Or.inl h)
  obtain rfl : b = .ref x := Option.some.inj (e2.symm.trans hu)
  have hr : a.isRef = true := k'.2
  rw [eq_R e1 e2 hr rfl] at h
  rw [e1, of_decide_eq_true (Option.some.inj h)]

theorem own_len {args : Array Value} {s : State} {t : Term} {a : Addr} {c : Cell} {ty : FieldType} {n : Int32} {k : Nat} (ev : t.eval args s none [] s = some (.ref a)) (A : Arr s s.heap a c ty) (h : (Term.length t).eval args s none [] s = some (.int n)) (hk : n.toInt = (k : Int)) : c.slots.size = k := by
  have hA := A.fin (U := s) (Vm.Alike.refl _)
  by_cases hl : c.slots.size < 2 ^ 31
  · rw [len_f ev hA hl] at h
    have e : c.slots.size.toInt32 = n := by cases h; rfl
    have q := len_toInt hl
    rw [e] at q
    omega
  · simp [Term.eval, ev, hA, hl] at h
theorem own_ary {Z : State} {h : Heap} {a : Addr} {c : Cell} {ty : FieldType} {vs : List Value} (A : Arr Z h a c ty) (hs : c.slots.size = vs.length) (he : ∀ k, k < vs.length → c.slots[k]? = vs[k]?) : Ary Z h a ty vs := by
  refine ⟨c, A, ?_⟩
  apply Array.ext_getElem?
  intro i
  by_cases hi : i < vs.length
  · rw [he i hi]; simp
  · rw [Array.getElem?_eq_none (by omega), Array.getElem?_eq_none (by simp; omega)]
theorem own_elem {args : Array Value} {s : State} {t : Term} {a : Addr} {c : Cell} {ty : FieldType} {j : Int32} {k : Nat} {v : Value} (ev : t.eval args s none [] s = some (.ref a)) (A : Arr s s.heap a c ty) (h : (Term.elem t (.int j)).eval args s none [] s = some v) (hk : j.toInt = (k : Int)) : c.slots[k]? = some v := by
  have q := (elem_in h ev (Term.int_eval j) A.1).2
  rw [clamp_of hk] at q
  exact q

theorem own_i32 (n : Nat) (h : n < 2147483648) : ∃ z : Int32, z.toInt = (n : Int) := ⟨n.toInt32, len_toInt h⟩
def own_pl : List Int32 := [112, 108, 97, 105, 110]
def own_sb : List Int32 := [83, 50, 53, 54]
theorem own_s0 : ∀ t ∈ ([] : List String), t ∈ ["S256", "plain", ""] := fun _ q => nomatch q
theorem own_s1 : ∀ t ∈ [""], t ∈ ["S256", "plain", ""] := by simp
theorem own_ext {U V : List Int32} (hl : U.length = V.length) (h : ∀ t, t < U.length → U[t]? = V[t]?) : U = V := by
  apply List.ext_getElem?
  intro t
  by_cases ht : t < U.length
  · exact h t ht
  · rw [List.getElem?_eq_none (by omega), List.getElem?_eq_none (by omega)]
theorem own_ary_inj {Z : State} {h : Heap} {a : Addr} {ty : FieldType} {vs ws : List Value} (A : Ary Z h a ty vs) (B : Ary Z h a ty ws) : vs = ws := by
  obtain ⟨c, A1, A2⟩ := A
  obtain ⟨d, B1, B2⟩ := B
  cases A1.1.symm.trans B1.1
  have q := congrArg Array.toList (A2.symm.trans B2)
  simpa using q
theorem own_map_inj {U V : List Int32} (h : U.map Value.int = V.map Value.int) : U = V := (List.map_inj_right (fun a b q => Value.int.inj q)).mp h
theorem own_neI {args : Array Value} {s : State} {t : Term} (hi : (Jvm.Cond.isInt t).value args s none s [] = some true) (h : (Jvm.Cond.not (.eq t (.int 0))).value args s none s [] = some true) : ∃ n : Int32, t.eval args s none [] s = some (.int n) ∧ n.toInt ≠ 0 := by
  obtain ⟨n, e⟩ := is_v hi
  refine ⟨n, e, fun q => ?_⟩
  have e0 : n = 0 := Int32.toInt_inj.mp q
  subst e0
  have e2 : (Term.int 0).eval args s none [] s = some (.int 0) := Term.int_eval 0
  simp [Cond.value, e, e2] at h

set_option maxRecDepth 65536 in
set_option maxHeartbeats 40000000 in
theorem m_c5_1 (l : Launch) (Z : State) (a0 : Array Value) (hw : ∀ d ∈ tables_1, d.before a0 Z = true) (r o : Addr) (c0 : Int32) (h0 : Heap) (n0 : Nat) (z0 : n0 ≤ h0.size) (hR : Ary Z h0 r .char [.int c0]) (hA : Ary Z h0 o .byte [.int (0 : Int32)]) (hg : n0 ≤ o) (hne : r ≠ o) (hc0 : 0 ≤ c0.toInt ∧ c0.toInt < 65536) : Mt .n l Z (⟨"java/lang/StringUTF16", "compress", "([CI[BII)I"⟩ : MethodName) jdk_52_method_21_code 7 (some .int) ({ frames := 0, cells := 0, slots := 0, locals := 0 } : Room) n0 (fun v h => ∃ q : Int32, v = some (.int q) ∧ Keep h0 h [o] ∧ ((∃ b0 : Int32, q = (1 : Int32) ∧ Ary Z h o .byte [.int b0] ∧ b0.toInt % 256 = c0.toInt) ∨ ((q = (0 : Int32) ∧ 255 < c0.toInt)))) h0 #[(.ref r), (.int (0 : Int32)), (.ref o), (.int (0 : Int32)), (.int (1 : Int32))] := by
  refine Mt.go (Ls := #[.val (.ref r), .val (.int (0 : Int32)), .val (.ref o), .val (.int (0 : Int32)), .val (.int (1 : Int32)), .unset, .unset]) (by first | exact plainFor_of_name (by decide +kernel) | decide +kernel | (simp [plainFor]; done)) (fun m => by first | (simp [entryFrame, mkF, argsToLocals, Value.category]; done) | rfl) ?_
  show (Go .n l ({ frames := 0, cells := 0, slots := 0, locals := 0 } : Room) Z (⟨"java/lang/StringUTF16", "compress", "([CI[BII)I"⟩ : MethodName) jdk_52_method_21_code 7 (some .int) n0 0 0 (fun v h => ∃ q : Int32, v = some (.int q) ∧ Keep h0 h [o] ∧ ((∃ b0 : Int32, q = (1 : Int32) ∧ Ary Z h o .byte [.int b0] ∧ b0.toInt % 256 = c0.toInt) ∨ ((q = (0 : Int32) ∧ 255 < c0.toInt))))) h0 0 0 0 #[.val (.ref r), .val (.int (0 : Int32)), .val (.ref o), .val (.int (0 : Int32)), .val (.int (1 : Int32)), .unset, .unset] []
  refine Go.iconst (pc' := 1) (v := (0 : Int32)) d10_0 rfl rfl ?_
  refine Go.istore (pc' := 3) (Ls' := #[.val (.ref r), .val (.int (0 : Int32)), .val (.ref o), .val (.int (0 : Int32)), .val (.int (1 : Int32)), .val (.int (0 : Int32)), .unset]) d10_1 rfl rfl ?_
  refine Go.iload (pc' := 5) d10_3 rfl rfl ?_
  refine Go.iload (pc' := 7) d10_5 rfl rfl ?_
  refine Go.icmp (pc1 := 44) (pc2 := 10) d10_7 (by decide) (by decide) rfl (fun (c_1 : (1 : Int) ≤ (0 : Int)) => ?_) (fun (c_1 : (0 : Int) < (1 : Int)) => ?_)
  · exact absurd c_1 (by decide)
  refine Go.aloadN (pc' := 11) d10_10 rfl rfl rfl ?_
  refine Go.iloadN (pc' := 12) d10_11 rfl rfl ?_
  refine Go.ldC (pc' := 13) (k := 0) (v := (.int c0)) hR rfl rfl d10_12 rfl ?_
  refine Go.istore (pc' := 15) (Ls' := #[.val (.ref r), .val (.int (0 : Int32)), .val (.ref o), .val (.int (0 : Int32)), .val (.int (1 : Int32)), .val (.int (0 : Int32)), .val (.int c0)]) d10_13 rfl rfl ?_
  refine Go.iload (pc' := 17) d10_15 rfl rfl ?_
  refine Go.sipush (pc' := 20) (v := (255 : Int32)) d10_17 rfl rfl ?_
  refine Go.icmp (pc1 := 26) (pc2 := 23) d10_20 (by decide) (by decide) rfl (fun (c_2 : c0.toInt ≤ (255 : Int)) => ?_) (fun (c_2 : (255 : Int) < c0.toInt) => ?_)
  · refine Go.aloadN (pc' := 27) d10_26 rfl rfl rfl ?_
    refine Go.iloadN (pc' := 28) d10_27 rfl rfl ?_
    refine Go.iload (pc' := 30) d10_28 rfl rfl ?_
    refine Go.i2b (pc' := 31) d10_30 rfl ?_
    generalize eb_3 : c0.toInt8.toInt32 = b_3
    have k_4 : b_3.toInt % 256 = c0.toInt ∧ -128 ≤ b_3.toInt ∧ b_3.toInt < 128 := by
      rw [← eb_3]
      have := c_i2b c0
      have := rng32 c0.toInt8.toInt32
      have := rng32 c0
      have := hc0
      omega
    have nb_3 : nar .byte b_3 = b_3 := own_nb k_4.2
    refine Go.stB (pc' := 32) (k := 0) hA rfl (by show 0 < 1; decide) d10_31 hg rfl ?_
    intro h_5 W_6 A_7
    rw [nb_3] at W_6 A_7
    have f_8 : Ary Z h_5 r .char [(.int c0)] := hR.sm (Sm.wr W_6 hne)
    have t_9 : r < h_5.size := Nat.lt_of_lt_of_le hR.lt (Nat.le_of_eq W_6.size.symm)
    have t_10 : o < h_5.size := Nat.lt_of_lt_of_le hA.lt (Nat.le_of_eq W_6.size.symm)
    have z_11 : n0 ≤ h_5.size := Nat.le_trans z0 (Nat.le_of_eq W_6.size.symm)
    have b_12 : h0.size ≤ h_5.size := Nat.le_trans (Nat.le_refl _) (Nat.le_of_eq W_6.size.symm)
    have K_13 : Keep h0 h_5 [o] := (Keep.refl _ _).wr W_6 (Or.inl (List.mem_of_getElem? (i := 0) rfl))
    change Ary Z h_5 o .byte [(.int b_3)] at A_7
    refine Go.iinc (pc' := 35) (w := (1 : Int32)) (Ls' := #[.val (.ref r), .val (.int (1 : Int32)), .val (.ref o), .val (.int (0 : Int32)), .val (.int (1 : Int32)), .val (.int (0 : Int32)), .val (.int c0)]) d10_32 rfl rfl rfl rfl ?_
    refine Go.iinc (pc' := 38) (w := (1 : Int32)) (Ls' := #[.val (.ref r), .val (.int (1 : Int32)), .val (.ref o), .val (.int (1 : Int32)), .val (.int (1 : Int32)), .val (.int (0 : Int32)), .val (.int c0)]) d10_35 rfl rfl rfl rfl ?_
    refine Go.iinc (pc' := 41) (w := (1 : Int32)) (Ls' := #[.val (.ref r), .val (.int (1 : Int32)), .val (.ref o), .val (.int (1 : Int32)), .val (.int (1 : Int32)), .val (.int (1 : Int32)), .val (.int c0)]) d10_38 rfl rfl rfl rfl ?_
    refine Go.goto (pc' := 3) d10_41 (by decide) (by decide) ?_
    refine Go.iload (pc' := 5) d10_3 rfl rfl ?_
    refine Go.iload (pc' := 7) d10_5 rfl rfl ?_
    refine Go.icmp (pc1 := 44) (pc2 := 10) d10_7 (by decide) (by decide) rfl (fun (c_14 : (1 : Int) ≤ (1 : Int)) => ?_) (fun (c_14 : (1 : Int) < (1 : Int)) => ?_)
    rotate_left
    · exact absurd c_14 (by decide)
    refine Go.iload (pc' := 46) d10_44 rfl rfl ?_
    exact Go.retI d10_46 rfl ⟨_, rfl, K_13, Or.inl ⟨b_3, rfl, A_7, k_4.1⟩⟩ (by decide) (by decide)
  · refine Go.iload (pc' := 25) d10_23 rfl rfl ?_
    exact Go.retI d10_25 rfl ⟨_, rfl, (Keep.refl _ _), Or.inr (⟨rfl, by omega⟩)⟩ (by decide) (by decide)
set_option maxRecDepth 65536 in
set_option maxHeartbeats 40000000 in
theorem m_c3_1 (l : Launch) (Z : State) (a0 : Array Value) (hw : ∀ d ∈ tables_1, d.before a0 Z = true) (r : Addr) (c0 : Int32) (h0 : Heap) (n0 : Nat) (z0 : n0 ≤ h0.size)  (hR : Ary Z h0 r .char [.int c0]) (hc0 : 0 ≤ c0.toInt ∧ c0.toInt < 65536) (hd0 : c0.toInt < 256) : Mt .n l Z (⟨"java/lang/StringUTF16", "compress", "([CII)[B"⟩ : MethodName) jdk_52_method_16_code 6 (some (.array .byte)) ({ frames := 3, cells := 2, slots := 3, locals := 40 } : Room) n0 (fun v h => ∃ o : Addr, v = some (.ref o) ∧ Keep h0 h [] ∧ h0.size ≤ o ∧ o < h.size ∧ ((∃ b0 : Int32, Ary Z h o .byte [.int b0] ∧ b0.toInt % 256 = c0.toInt))) h0 #[(.ref r), (.int (0 : Int32)), (.int (1 : Int32))] := by
  refine Mt.go (Ls := #[.val (.ref r), .val (.int (0 : Int32)), .val (.int (1 : Int32)), .unset, .unset, .unset]) (by first | exact plainFor_of_name (by decide +kernel) | decide +kernel | (simp [plainFor]; done)) (fun m => by first | (simp [entryFrame, mkF, argsToLocals, Value.category]; done) | rfl) ?_
  show (Go .n l ({ frames := 3, cells := 2, slots := 3, locals := 40 } : Room) Z (⟨"java/lang/StringUTF16", "compress", "([CII)[B"⟩ : MethodName) jdk_52_method_16_code 6 (some (.array .byte)) n0 2 3 (fun v h => ∃ o : Addr, v = some (.ref o) ∧ Keep h0 h [] ∧ h0.size ≤ o ∧ o < h.size ∧ ((∃ b0 : Int32, Ary Z h o .byte [.int b0] ∧ b0.toInt % 256 = c0.toInt)))) h0 0 0 0 #[.val (.ref r), .val (.int (0 : Int32)), .val (.int (1 : Int32)), .unset, .unset, .unset] []
  refine Go.iloadN (pc' := 1) d9_0 rfl rfl ?_
  refine Go.newA (pc' := 3) (k := 1) (ty := .byte) (cap := 1) (hw _ (List.mem_of_getElem? (i := 21) rfl)) rfl rfl (by decide) (by decide) d9_1 (by decide) (by decide) rfl ?_
  intro h_15 a_16 q_17 E_18 A_19
  have n_21 : r ≠ a_16 := Nat.ne_of_lt (q_17 ▸ hR.lt)
  have g_22 : n0 ≤ a_16 := q_17 ▸ z0
  have g_23 : h0.size ≤ a_16 := q_17 ▸ (Nat.le_refl _)
  have f_24 : Ary Z h_15 r .char [(.int c0)] := hR.sm (Sm.ext E_18)
  have t_25 : r < h_15.size := Nat.lt_of_lt_of_le hR.lt E_18.1
  have z_26 : n0 ≤ h_15.size := Nat.le_trans z0 E_18.1
  have b_27 : h0.size ≤ h_15.size := Nat.le_trans (Nat.le_refl _) E_18.1
  have K_28 : Keep h0 h_15 [] := (Keep.refl _ _).ext E_18
  have t_29 : a_16 < h_15.size := A_19.lt
  change Ary Z h_15 a_16 .byte [(.int (0 : Int32))] at A_19
  refine Go.astoreN (pc' := 4) (Ls' := #[.val (.ref r), .val (.int (0 : Int32)), .val (.int (1 : Int32)), .val (.ref a_16), .unset, .unset]) d9_3 rfl rfl rfl ?_
  refine Go.aloadN (pc' := 5) d9_4 rfl rfl rfl ?_
  refine Go.iloadN (pc' := 6) d9_5 rfl rfl ?_
  refine Go.aloadN (pc' := 7) d9_6 rfl rfl rfl ?_
  refine Go.iconst (pc' := 8) (v := (0 : Int32)) d9_7 rfl rfl ?_
  refine Go.iloadN (pc' := 9) d9_8 rfl rfl ?_
  refine Go.callS (pc' := 12) (argsL := [(.ref r), (.int (0 : Int32)), (.ref a_16), (.int (0 : Int32)), (.int (1 : Int32))]) (rest := []) (W := 0) (hw _ (List.mem_of_getElem? (i := 69) rfl)) (hw _ (List.mem_of_getElem? (i := 70) rfl)) (hw _ (List.mem_of_getElem? (i := 67) rfl)) (hw _ (List.mem_of_getElem? (i := 71) rfl)) (by decide) (m_c5_1 l Z a0 hw r a_16 c0 h_15 n0 z_26 f_24 A_19 g_22 n_21 hc0) d9_9 rfl pd0 rfl rfl (Nat.le_of_eq rfl) (by decide) (by decide) (by decide) (by decide) rfl ?_
  rintro _ h_30 ⟨q_31, rfl, K_32, hq_33⟩
  have f_34 : Ary Z h_30 r .char [(.int c0)] := f_24.sm (Sm.keep K_32 (ninS n_21 nin0))
  have t_36 : r < h_30.size := Nat.lt_of_lt_of_le t_25 K_32.1
  have t_37 : a_16 < h_30.size := Nat.lt_of_lt_of_le t_29 K_32.1
  have z_38 : n0 ≤ h_30.size := Nat.le_trans z_26 K_32.1
  have b_39 : h0.size ≤ h_30.size := Nat.le_trans b_27 K_32.1
  have K_40 : Keep h0 h_30 [] := K_28.trans K_32 (allS (Or.inr g_23) all0)
  show (Go .n l ({ frames := 3, cells := 2, slots := 3, locals := 40 } : Room) Z (⟨"java/lang/StringUTF16", "compress", "([CII)[B"⟩ : MethodName) jdk_52_method_16_code 6 (some (.array .byte)) n0 2 3 (fun v h => ∃ o : Addr, v = some (.ref o) ∧ Keep h0 h [] ∧ h0.size ≤ o ∧ o < h.size ∧ ((∃ b0 : Int32, Ary Z h o .byte [.int b0] ∧ b0.toInt % 256 = c0.toInt)))) h_30 (0 + 1 + 0) (0 + 1 + 0) 12 #[.val (.ref r), .val (.int (0 : Int32)), .val (.int (1 : Int32)), .val (.ref a_16), .unset, .unset] [(.int q_31)]
  rcases hq_33 with ⟨b0, rfl, A_41, e_42⟩ | ⟨rfl, hq_33⟩
  · show (Go .n l ({ frames := 3, cells := 2, slots := 3, locals := 40 } : Room) Z (⟨"java/lang/StringUTF16", "compress", "([CII)[B"⟩ : MethodName) jdk_52_method_16_code 6 (some (.array .byte)) n0 2 3 (fun v h => ∃ o : Addr, v = some (.ref o) ∧ Keep h0 h [] ∧ h0.size ≤ o ∧ o < h.size ∧ ((∃ b0 : Int32, Ary Z h o .byte [.int b0] ∧ b0.toInt % 256 = c0.toInt)))) h_30 (0 + 1 + 0) (0 + 1 + 0) 12 #[.val (.ref r), .val (.int (0 : Int32)), .val (.int (1 : Int32)), .val (.ref a_16), .unset, .unset] [(.int (1 : Int32))]
    refine Go.istore (pc' := 14) (Ls' := #[.val (.ref r), .val (.int (0 : Int32)), .val (.int (1 : Int32)), .val (.ref a_16), .val (.int (1 : Int32)), .unset]) d9_12 rfl rfl ?_
    refine Go.iload (pc' := 16) d9_14 rfl rfl ?_
    refine Go.iloadN (pc' := 17) d9_16 rfl rfl ?_
    refine Go.icmp (pc1 := 57) (pc2 := 20) d9_17 (by decide) (by decide) rfl (fun (c_43 : (1 : Int) = (1 : Int)) => ?_) (fun (c_43 : (1 : Int) ≠ (1 : Int)) => ?_)
    rotate_left
    · exact absurd c_43 (by decide)
    refine Go.aloadN (pc' := 58) d9_57 rfl rfl rfl ?_
    exact Go.retA d9_58 rfl rfl rfl ⟨a_16, rfl, K_40, g_23, t_37, b0, A_41, e_42⟩ (by decide) (by decide)
  · show (Go .n l ({ frames := 3, cells := 2, slots := 3, locals := 40 } : Room) Z (⟨"java/lang/StringUTF16", "compress", "([CII)[B"⟩ : MethodName) jdk_52_method_16_code 6 (some (.array .byte)) n0 2 3 (fun v h => ∃ o : Addr, v = some (.ref o) ∧ Keep h0 h [] ∧ h0.size ≤ o ∧ o < h.size ∧ ((∃ b0 : Int32, Ary Z h o .byte [.int b0] ∧ b0.toInt % 256 = c0.toInt)))) h_30 (0 + 1 + 0) (0 + 1 + 0) 12 #[.val (.ref r), .val (.int (0 : Int32)), .val (.int (1 : Int32)), .val (.ref a_16), .unset, .unset] [(.int (0 : Int32))]
    exfalso; omega
set_option maxRecDepth 65536 in
set_option maxHeartbeats 40000000 in
theorem m_c5_2 (l : Launch) (Z : State) (a0 : Array Value) (hw : ∀ d ∈ tables_1, d.before a0 Z = true) (r o : Addr) (c0 c1 : Int32) (h0 : Heap) (n0 : Nat) (z0 : n0 ≤ h0.size) (hR : Ary Z h0 r .char [.int c0, .int c1]) (hA : Ary Z h0 o .byte [.int (0 : Int32), .int (0 : Int32)]) (hg : n0 ≤ o) (hne : r ≠ o) (hc0 : 0 ≤ c0.toInt ∧ c0.toInt < 65536) (hc1 : 0 ≤ c1.toInt ∧ c1.toInt < 65536) : Mt .n l Z (⟨"java/lang/StringUTF16", "compress", "([CI[BII)I"⟩ : MethodName) jdk_52_method_21_code 7 (some .int) ({ frames := 0, cells := 0, slots := 0, locals := 0 } : Room) n0 (fun v h => ∃ q : Int32, v = some (.int q) ∧ Keep h0 h [o] ∧ ((∃ b0 b1 : Int32, q = (2 : Int32) ∧ Ary Z h o .byte [.int b0, .int b1] ∧ b0.toInt % 256 = c0.toInt ∧ b1.toInt % 256 = c1.toInt) ∨ ((q = (0 : Int32) ∧ 255 < c0.toInt) ∨ (q = (1 : Int32) ∧ 255 < c1.toInt)))) h0 #[(.ref r), (.int (0 : Int32)), (.ref o), (.int (0 : Int32)), (.int (2 : Int32))] := by
  refine Mt.go (Ls := #[.val (.ref r), .val (.int (0 : Int32)), .val (.ref o), .val (.int (0 : Int32)), .val (.int (2 : Int32)), .unset, .unset]) (by first | exact plainFor_of_name (by decide +kernel) | decide +kernel | (simp [plainFor]; done)) (fun m => by first | (simp [entryFrame, mkF, argsToLocals, Value.category]; done) | rfl) ?_
  show (Go .n l ({ frames := 0, cells := 0, slots := 0, locals := 0 } : Room) Z (⟨"java/lang/StringUTF16", "compress", "([CI[BII)I"⟩ : MethodName) jdk_52_method_21_code 7 (some .int) n0 0 0 (fun v h => ∃ q : Int32, v = some (.int q) ∧ Keep h0 h [o] ∧ ((∃ b0 b1 : Int32, q = (2 : Int32) ∧ Ary Z h o .byte [.int b0, .int b1] ∧ b0.toInt % 256 = c0.toInt ∧ b1.toInt % 256 = c1.toInt) ∨ ((q = (0 : Int32) ∧ 255 < c0.toInt) ∨ (q = (1 : Int32) ∧ 255 < c1.toInt))))) h0 0 0 0 #[.val (.ref r), .val (.int (0 : Int32)), .val (.ref o), .val (.int (0 : Int32)), .val (.int (2 : Int32)), .unset, .unset] []
  refine Go.iconst (pc' := 1) (v := (0 : Int32)) d10_0 rfl rfl ?_
  refine Go.istore (pc' := 3) (Ls' := #[.val (.ref r), .val (.int (0 : Int32)), .val (.ref o), .val (.int (0 : Int32)), .val (.int (2 : Int32)), .val (.int (0 : Int32)), .unset]) d10_1 rfl rfl ?_
  refine Go.iload (pc' := 5) d10_3 rfl rfl ?_
  refine Go.iload (pc' := 7) d10_5 rfl rfl ?_
  refine Go.icmp (pc1 := 44) (pc2 := 10) d10_7 (by decide) (by decide) rfl (fun (c_44 : (2 : Int) ≤ (0 : Int)) => ?_) (fun (c_44 : (0 : Int) < (2 : Int)) => ?_)
  · exact absurd c_44 (by decide)
  refine Go.aloadN (pc' := 11) d10_10 rfl rfl rfl ?_
  refine Go.iloadN (pc' := 12) d10_11 rfl rfl ?_
  refine Go.ldC (pc' := 13) (k := 0) (v := (.int c0)) hR rfl rfl d10_12 rfl ?_
  refine Go.istore (pc' := 15) (Ls' := #[.val (.ref r), .val (.int (0 : Int32)), .val (.ref o), .val (.int (0 : Int32)), .val (.int (2 : Int32)), .val (.int (0 : Int32)), .val (.int c0)]) d10_13 rfl rfl ?_
  refine Go.iload (pc' := 17) d10_15 rfl rfl ?_
  refine Go.sipush (pc' := 20) (v := (255 : Int32)) d10_17 rfl rfl ?_
  refine Go.icmp (pc1 := 26) (pc2 := 23) d10_20 (by decide) (by decide) rfl (fun (c_45 : c0.toInt ≤ (255 : Int)) => ?_) (fun (c_45 : (255 : Int) < c0.toInt) => ?_)
  · refine Go.aloadN (pc' := 27) d10_26 rfl rfl rfl ?_
    refine Go.iloadN (pc' := 28) d10_27 rfl rfl ?_
    refine Go.iload (pc' := 30) d10_28 rfl rfl ?_
    refine Go.i2b (pc' := 31) d10_30 rfl ?_
    generalize eb_46 : c0.toInt8.toInt32 = b_46
    have k_47 : b_46.toInt % 256 = c0.toInt ∧ -128 ≤ b_46.toInt ∧ b_46.toInt < 128 := by
      rw [← eb_46]
      have := c_i2b c0
      have := rng32 c0.toInt8.toInt32
      have := rng32 c0
      have := hc0
      omega
    have nb_46 : nar .byte b_46 = b_46 := own_nb k_47.2
    refine Go.stB (pc' := 32) (k := 0) hA rfl (by show 0 < 2; decide) d10_31 hg rfl ?_
    intro h_48 W_49 A_50
    rw [nb_46] at W_49 A_50
    have f_51 : Ary Z h_48 r .char [(.int c0), (.int c1)] := hR.sm (Sm.wr W_49 hne)
    have t_52 : r < h_48.size := Nat.lt_of_lt_of_le hR.lt (Nat.le_of_eq W_49.size.symm)
    have t_53 : o < h_48.size := Nat.lt_of_lt_of_le hA.lt (Nat.le_of_eq W_49.size.symm)
    have z_54 : n0 ≤ h_48.size := Nat.le_trans z0 (Nat.le_of_eq W_49.size.symm)
    have b_55 : h0.size ≤ h_48.size := Nat.le_trans (Nat.le_refl _) (Nat.le_of_eq W_49.size.symm)
    have K_56 : Keep h0 h_48 [o] := (Keep.refl _ _).wr W_49 (Or.inl (List.mem_of_getElem? (i := 0) rfl))
    change Ary Z h_48 o .byte [(.int b_46), (.int (0 : Int32))] at A_50
    refine Go.iinc (pc' := 35) (w := (1 : Int32)) (Ls' := #[.val (.ref r), .val (.int (1 : Int32)), .val (.ref o), .val (.int (0 : Int32)), .val (.int (2 : Int32)), .val (.int (0 : Int32)), .val (.int c0)]) d10_32 rfl rfl rfl rfl ?_
    refine Go.iinc (pc' := 38) (w := (1 : Int32)) (Ls' := #[.val (.ref r), .val (.int (1 : Int32)), .val (.ref o), .val (.int (1 : Int32)), .val (.int (2 : Int32)), .val (.int (0 : Int32)), .val (.int c0)]) d10_35 rfl rfl rfl rfl ?_
    refine Go.iinc (pc' := 41) (w := (1 : Int32)) (Ls' := #[.val (.ref r), .val (.int (1 : Int32)), .val (.ref o), .val (.int (1 : Int32)), .val (.int (2 : Int32)), .val (.int (1 : Int32)), .val (.int c0)]) d10_38 rfl rfl rfl rfl ?_
    refine Go.goto (pc' := 3) d10_41 (by decide) (by decide) ?_
    refine Go.iload (pc' := 5) d10_3 rfl rfl ?_
    refine Go.iload (pc' := 7) d10_5 rfl rfl ?_
    refine Go.icmp (pc1 := 44) (pc2 := 10) d10_7 (by decide) (by decide) rfl (fun (c_57 : (2 : Int) ≤ (1 : Int)) => ?_) (fun (c_57 : (1 : Int) < (2 : Int)) => ?_)
    · exact absurd c_57 (by decide)
    refine Go.aloadN (pc' := 11) d10_10 rfl rfl rfl ?_
    refine Go.iloadN (pc' := 12) d10_11 rfl rfl ?_
    refine Go.ldC (pc' := 13) (k := 1) (v := (.int c1)) f_51 rfl rfl d10_12 rfl ?_
    refine Go.istore (pc' := 15) (Ls' := #[.val (.ref r), .val (.int (1 : Int32)), .val (.ref o), .val (.int (1 : Int32)), .val (.int (2 : Int32)), .val (.int (1 : Int32)), .val (.int c1)]) d10_13 rfl rfl ?_
    refine Go.iload (pc' := 17) d10_15 rfl rfl ?_
    refine Go.sipush (pc' := 20) (v := (255 : Int32)) d10_17 rfl rfl ?_
    refine Go.icmp (pc1 := 26) (pc2 := 23) d10_20 (by decide) (by decide) rfl (fun (c_58 : c1.toInt ≤ (255 : Int)) => ?_) (fun (c_58 : (255 : Int) < c1.toInt) => ?_)
    · refine Go.aloadN (pc' := 27) d10_26 rfl rfl rfl ?_
      refine Go.iloadN (pc' := 28) d10_27 rfl rfl ?_
      refine Go.iload (pc' := 30) d10_28 rfl rfl ?_
      refine Go.i2b (pc' := 31) d10_30 rfl ?_
      generalize eb_59 : c1.toInt8.toInt32 = b_59
      have k_60 : b_59.toInt % 256 = c1.toInt ∧ -128 ≤ b_59.toInt ∧ b_59.toInt < 128 := by
        rw [← eb_59]
        have := c_i2b c1
        have := rng32 c1.toInt8.toInt32
        have := rng32 c1
        have := hc1
        omega
      have nb_59 : nar .byte b_59 = b_59 := own_nb k_60.2
      refine Go.stB (pc' := 32) (k := 1) A_50 rfl (by show 1 < 2; decide) d10_31 hg rfl ?_
      intro h_61 W_62 A_63
      rw [nb_59] at W_62 A_63
      have f_64 : Ary Z h_61 r .char [(.int c0), (.int c1)] := f_51.sm (Sm.wr W_62 hne)
      have t_65 : r < h_61.size := Nat.lt_of_lt_of_le t_52 (Nat.le_of_eq W_62.size.symm)
      have t_66 : o < h_61.size := Nat.lt_of_lt_of_le t_53 (Nat.le_of_eq W_62.size.symm)
      have z_67 : n0 ≤ h_61.size := Nat.le_trans z_54 (Nat.le_of_eq W_62.size.symm)
      have b_68 : h0.size ≤ h_61.size := Nat.le_trans b_55 (Nat.le_of_eq W_62.size.symm)
      have K_69 : Keep h0 h_61 [o] := K_56.wr W_62 (Or.inl (List.mem_of_getElem? (i := 0) rfl))
      change Ary Z h_61 o .byte [(.int b_46), (.int b_59)] at A_63
      refine Go.iinc (pc' := 35) (w := (2 : Int32)) (Ls' := #[.val (.ref r), .val (.int (2 : Int32)), .val (.ref o), .val (.int (1 : Int32)), .val (.int (2 : Int32)), .val (.int (1 : Int32)), .val (.int c1)]) d10_32 rfl rfl rfl rfl ?_
      refine Go.iinc (pc' := 38) (w := (2 : Int32)) (Ls' := #[.val (.ref r), .val (.int (2 : Int32)), .val (.ref o), .val (.int (2 : Int32)), .val (.int (2 : Int32)), .val (.int (1 : Int32)), .val (.int c1)]) d10_35 rfl rfl rfl rfl ?_
      refine Go.iinc (pc' := 41) (w := (2 : Int32)) (Ls' := #[.val (.ref r), .val (.int (2 : Int32)), .val (.ref o), .val (.int (2 : Int32)), .val (.int (2 : Int32)), .val (.int (2 : Int32)), .val (.int c1)]) d10_38 rfl rfl rfl rfl ?_
      refine Go.goto (pc' := 3) d10_41 (by decide) (by decide) ?_
      refine Go.iload (pc' := 5) d10_3 rfl rfl ?_
      refine Go.iload (pc' := 7) d10_5 rfl rfl ?_
      refine Go.icmp (pc1 := 44) (pc2 := 10) d10_7 (by decide) (by decide) rfl (fun (c_70 : (2 : Int) ≤ (2 : Int)) => ?_) (fun (c_70 : (2 : Int) < (2 : Int)) => ?_)
      rotate_left
      · exact absurd c_70 (by decide)
      refine Go.iload (pc' := 46) d10_44 rfl rfl ?_
      exact Go.retI d10_46 rfl ⟨_, rfl, K_69, Or.inl ⟨b_46, b_59, rfl, A_63, k_47.1, k_60.1⟩⟩ (by decide) (by decide)
    · refine Go.iload (pc' := 25) d10_23 rfl rfl ?_
      exact Go.retI d10_25 rfl ⟨_, rfl, K_56, Or.inr (Or.inr (⟨rfl, by omega⟩))⟩ (by decide) (by decide)
  · refine Go.iload (pc' := 25) d10_23 rfl rfl ?_
    exact Go.retI d10_25 rfl ⟨_, rfl, (Keep.refl _ _), Or.inr (Or.inl ⟨rfl, by omega⟩)⟩ (by decide) (by decide)
set_option maxRecDepth 65536 in
set_option maxHeartbeats 40000000 in
theorem m_c3_2 (l : Launch) (Z : State) (a0 : Array Value) (hw : ∀ d ∈ tables_1, d.before a0 Z = true) (r : Addr) (c0 c1 : Int32) (h0 : Heap) (n0 : Nat) (z0 : n0 ≤ h0.size)  (hR : Ary Z h0 r .char [.int c0, .int c1]) (hc0 : 0 ≤ c0.toInt ∧ c0.toInt < 65536) (hc1 : 0 ≤ c1.toInt ∧ c1.toInt < 65536) (hd0 : c0.toInt < 256) (hd1 : c1.toInt < 256) : Mt .n l Z (⟨"java/lang/StringUTF16", "compress", "([CII)[B"⟩ : MethodName) jdk_52_method_16_code 6 (some (.array .byte)) ({ frames := 3, cells := 2, slots := 6, locals := 40 } : Room) n0 (fun v h => ∃ o : Addr, v = some (.ref o) ∧ Keep h0 h [] ∧ h0.size ≤ o ∧ o < h.size ∧ ((∃ b0 b1 : Int32, Ary Z h o .byte [.int b0, .int b1] ∧ b0.toInt % 256 = c0.toInt ∧ b1.toInt % 256 = c1.toInt))) h0 #[(.ref r), (.int (0 : Int32)), (.int (2 : Int32))] := by
  refine Mt.go (Ls := #[.val (.ref r), .val (.int (0 : Int32)), .val (.int (2 : Int32)), .unset, .unset, .unset]) (by first | exact plainFor_of_name (by decide +kernel) | decide +kernel | (simp [plainFor]; done)) (fun m => by first | (simp [entryFrame, mkF, argsToLocals, Value.category]; done) | rfl) ?_
  show (Go .n l ({ frames := 3, cells := 2, slots := 6, locals := 40 } : Room) Z (⟨"java/lang/StringUTF16", "compress", "([CII)[B"⟩ : MethodName) jdk_52_method_16_code 6 (some (.array .byte)) n0 2 6 (fun v h => ∃ o : Addr, v = some (.ref o) ∧ Keep h0 h [] ∧ h0.size ≤ o ∧ o < h.size ∧ ((∃ b0 b1 : Int32, Ary Z h o .byte [.int b0, .int b1] ∧ b0.toInt % 256 = c0.toInt ∧ b1.toInt % 256 = c1.toInt)))) h0 0 0 0 #[.val (.ref r), .val (.int (0 : Int32)), .val (.int (2 : Int32)), .unset, .unset, .unset] []
  refine Go.iloadN (pc' := 1) d9_0 rfl rfl ?_
  refine Go.newA (pc' := 3) (k := 2) (ty := .byte) (cap := 2) (hw _ (List.mem_of_getElem? (i := 21) rfl)) rfl rfl (by decide) (by decide) d9_1 (by decide) (by decide) rfl ?_
  intro h_71 a_72 q_73 E_74 A_75
  have n_77 : r ≠ a_72 := Nat.ne_of_lt (q_73 ▸ hR.lt)
  have g_78 : n0 ≤ a_72 := q_73 ▸ z0
  have g_79 : h0.size ≤ a_72 := q_73 ▸ (Nat.le_refl _)
  have f_80 : Ary Z h_71 r .char [(.int c0), (.int c1)] := hR.sm (Sm.ext E_74)
  have t_81 : r < h_71.size := Nat.lt_of_lt_of_le hR.lt E_74.1
  have z_82 : n0 ≤ h_71.size := Nat.le_trans z0 E_74.1
  have b_83 : h0.size ≤ h_71.size := Nat.le_trans (Nat.le_refl _) E_74.1
  have K_84 : Keep h0 h_71 [] := (Keep.refl _ _).ext E_74
  have t_85 : a_72 < h_71.size := A_75.lt
  change Ary Z h_71 a_72 .byte [(.int (0 : Int32)), (.int (0 : Int32))] at A_75
  refine Go.astoreN (pc' := 4) (Ls' := #[.val (.ref r), .val (.int (0 : Int32)), .val (.int (2 : Int32)), .val (.ref a_72), .unset, .unset]) d9_3 rfl rfl rfl ?_
  refine Go.aloadN (pc' := 5) d9_4 rfl rfl rfl ?_
  refine Go.iloadN (pc' := 6) d9_5 rfl rfl ?_
  refine Go.aloadN (pc' := 7) d9_6 rfl rfl rfl ?_
  refine Go.iconst (pc' := 8) (v := (0 : Int32)) d9_7 rfl rfl ?_
  refine Go.iloadN (pc' := 9) d9_8 rfl rfl ?_
  refine Go.callS (pc' := 12) (argsL := [(.ref r), (.int (0 : Int32)), (.ref a_72), (.int (0 : Int32)), (.int (2 : Int32))]) (rest := []) (W := 0) (hw _ (List.mem_of_getElem? (i := 69) rfl)) (hw _ (List.mem_of_getElem? (i := 70) rfl)) (hw _ (List.mem_of_getElem? (i := 67) rfl)) (hw _ (List.mem_of_getElem? (i := 71) rfl)) (by decide) (m_c5_2 l Z a0 hw r a_72 c0 c1 h_71 n0 z_82 f_80 A_75 g_78 n_77 hc0 hc1) d9_9 rfl pd0 rfl rfl (Nat.le_of_eq rfl) (by decide) (by decide) (by decide) (by decide) rfl ?_
  rintro _ h_86 ⟨q_87, rfl, K_88, hq_89⟩
  have f_90 : Ary Z h_86 r .char [(.int c0), (.int c1)] := f_80.sm (Sm.keep K_88 (ninS n_77 nin0))
  have t_92 : r < h_86.size := Nat.lt_of_lt_of_le t_81 K_88.1
  have t_93 : a_72 < h_86.size := Nat.lt_of_lt_of_le t_85 K_88.1
  have z_94 : n0 ≤ h_86.size := Nat.le_trans z_82 K_88.1
  have b_95 : h0.size ≤ h_86.size := Nat.le_trans b_83 K_88.1
  have K_96 : Keep h0 h_86 [] := K_84.trans K_88 (allS (Or.inr g_79) all0)
  show (Go .n l ({ frames := 3, cells := 2, slots := 6, locals := 40 } : Room) Z (⟨"java/lang/StringUTF16", "compress", "([CII)[B"⟩ : MethodName) jdk_52_method_16_code 6 (some (.array .byte)) n0 2 6 (fun v h => ∃ o : Addr, v = some (.ref o) ∧ Keep h0 h [] ∧ h0.size ≤ o ∧ o < h.size ∧ ((∃ b0 b1 : Int32, Ary Z h o .byte [.int b0, .int b1] ∧ b0.toInt % 256 = c0.toInt ∧ b1.toInt % 256 = c1.toInt)))) h_86 (0 + 1 + 0) (0 + 2 + 0) 12 #[.val (.ref r), .val (.int (0 : Int32)), .val (.int (2 : Int32)), .val (.ref a_72), .unset, .unset] [(.int q_87)]
  rcases hq_89 with ⟨b0, b1, rfl, A_97, e_98, e_99⟩ | ⟨rfl, hq_89⟩ | ⟨rfl, hq_89⟩
  · show (Go .n l ({ frames := 3, cells := 2, slots := 6, locals := 40 } : Room) Z (⟨"java/lang/StringUTF16", "compress", "([CII)[B"⟩ : MethodName) jdk_52_method_16_code 6 (some (.array .byte)) n0 2 6 (fun v h => ∃ o : Addr, v = some (.ref o) ∧ Keep h0 h [] ∧ h0.size ≤ o ∧ o < h.size ∧ ((∃ b0 b1 : Int32, Ary Z h o .byte [.int b0, .int b1] ∧ b0.toInt % 256 = c0.toInt ∧ b1.toInt % 256 = c1.toInt)))) h_86 (0 + 1 + 0) (0 + 2 + 0) 12 #[.val (.ref r), .val (.int (0 : Int32)), .val (.int (2 : Int32)), .val (.ref a_72), .unset, .unset] [(.int (2 : Int32))]
    refine Go.istore (pc' := 14) (Ls' := #[.val (.ref r), .val (.int (0 : Int32)), .val (.int (2 : Int32)), .val (.ref a_72), .val (.int (2 : Int32)), .unset]) d9_12 rfl rfl ?_
    refine Go.iload (pc' := 16) d9_14 rfl rfl ?_
    refine Go.iloadN (pc' := 17) d9_16 rfl rfl ?_
    refine Go.icmp (pc1 := 57) (pc2 := 20) d9_17 (by decide) (by decide) rfl (fun (c_100 : (2 : Int) = (2 : Int)) => ?_) (fun (c_100 : (2 : Int) ≠ (2 : Int)) => ?_)
    rotate_left
    · exact absurd c_100 (by decide)
    refine Go.aloadN (pc' := 58) d9_57 rfl rfl rfl ?_
    exact Go.retA d9_58 rfl rfl rfl ⟨a_72, rfl, K_96, g_79, t_93, b0, b1, A_97, e_98, e_99⟩ (by decide) (by decide)
  · show (Go .n l ({ frames := 3, cells := 2, slots := 6, locals := 40 } : Room) Z (⟨"java/lang/StringUTF16", "compress", "([CII)[B"⟩ : MethodName) jdk_52_method_16_code 6 (some (.array .byte)) n0 2 6 (fun v h => ∃ o : Addr, v = some (.ref o) ∧ Keep h0 h [] ∧ h0.size ≤ o ∧ o < h.size ∧ ((∃ b0 b1 : Int32, Ary Z h o .byte [.int b0, .int b1] ∧ b0.toInt % 256 = c0.toInt ∧ b1.toInt % 256 = c1.toInt)))) h_86 (0 + 1 + 0) (0 + 2 + 0) 12 #[.val (.ref r), .val (.int (0 : Int32)), .val (.int (2 : Int32)), .val (.ref a_72), .unset, .unset] [(.int (0 : Int32))]
    exfalso; omega
  · show (Go .n l ({ frames := 3, cells := 2, slots := 6, locals := 40 } : Room) Z (⟨"java/lang/StringUTF16", "compress", "([CII)[B"⟩ : MethodName) jdk_52_method_16_code 6 (some (.array .byte)) n0 2 6 (fun v h => ∃ o : Addr, v = some (.ref o) ∧ Keep h0 h [] ∧ h0.size ≤ o ∧ o < h.size ∧ ((∃ b0 b1 : Int32, Ary Z h o .byte [.int b0, .int b1] ∧ b0.toInt % 256 = c0.toInt ∧ b1.toInt % 256 = c1.toInt)))) h_86 (0 + 1 + 0) (0 + 2 + 0) 12 #[.val (.ref r), .val (.int (0 : Int32)), .val (.int (2 : Int32)), .val (.ref a_72), .unset, .unset] [(.int (1 : Int32))]
    exfalso; omega
set_option maxRecDepth 65536 in
set_option maxHeartbeats 40000000 in
theorem m_c5_3 (l : Launch) (Z : State) (a0 : Array Value) (hw : ∀ d ∈ tables_1, d.before a0 Z = true) (r o : Addr) (c0 c1 c2 : Int32) (h0 : Heap) (n0 : Nat) (z0 : n0 ≤ h0.size) (hR : Ary Z h0 r .char [.int c0, .int c1, .int c2]) (hA : Ary Z h0 o .byte [.int (0 : Int32), .int (0 : Int32), .int (0 : Int32)]) (hg : n0 ≤ o) (hne : r ≠ o) (hc0 : 0 ≤ c0.toInt ∧ c0.toInt < 65536) (hc1 : 0 ≤ c1.toInt ∧ c1.toInt < 65536) (hc2 : 0 ≤ c2.toInt ∧ c2.toInt < 65536) : Mt .n l Z (⟨"java/lang/StringUTF16", "compress", "([CI[BII)I"⟩ : MethodName) jdk_52_method_21_code 7 (some .int) ({ frames := 0, cells := 0, slots := 0, locals := 0 } : Room) n0 (fun v h => ∃ q : Int32, v = some (.int q) ∧ Keep h0 h [o] ∧ ((∃ b0 b1 b2 : Int32, q = (3 : Int32) ∧ Ary Z h o .byte [.int b0, .int b1, .int b2] ∧ b0.toInt % 256 = c0.toInt ∧ b1.toInt % 256 = c1.toInt ∧ b2.toInt % 256 = c2.toInt) ∨ ((q = (0 : Int32) ∧ 255 < c0.toInt) ∨ (q = (1 : Int32) ∧ 255 < c1.toInt) ∨ (q = (2 : Int32) ∧ 255 < c2.toInt)))) h0 #[(.ref r), (.int (0 : Int32)), (.ref o), (.int (0 : Int32)), (.int (3 : Int32))] := by
  refine Mt.go (Ls := #[.val (.ref r), .val (.int (0 : Int32)), .val (.ref o), .val (.int (0 : Int32)), .val (.int (3 : Int32)), .unset, .unset]) (by first | exact plainFor_of_name (by decide +kernel) | decide +kernel | (simp [plainFor]; done)) (fun m => by first | (simp [entryFrame, mkF, argsToLocals, Value.category]; done) | rfl) ?_
  show (Go .n l ({ frames := 0, cells := 0, slots := 0, locals := 0 } : Room) Z (⟨"java/lang/StringUTF16", "compress", "([CI[BII)I"⟩ : MethodName) jdk_52_method_21_code 7 (some .int) n0 0 0 (fun v h => ∃ q : Int32, v = some (.int q) ∧ Keep h0 h [o] ∧ ((∃ b0 b1 b2 : Int32, q = (3 : Int32) ∧ Ary Z h o .byte [.int b0, .int b1, .int b2] ∧ b0.toInt % 256 = c0.toInt ∧ b1.toInt % 256 = c1.toInt ∧ b2.toInt % 256 = c2.toInt) ∨ ((q = (0 : Int32) ∧ 255 < c0.toInt) ∨ (q = (1 : Int32) ∧ 255 < c1.toInt) ∨ (q = (2 : Int32) ∧ 255 < c2.toInt))))) h0 0 0 0 #[.val (.ref r), .val (.int (0 : Int32)), .val (.ref o), .val (.int (0 : Int32)), .val (.int (3 : Int32)), .unset, .unset] []
  refine Go.iconst (pc' := 1) (v := (0 : Int32)) d10_0 rfl rfl ?_
  refine Go.istore (pc' := 3) (Ls' := #[.val (.ref r), .val (.int (0 : Int32)), .val (.ref o), .val (.int (0 : Int32)), .val (.int (3 : Int32)), .val (.int (0 : Int32)), .unset]) d10_1 rfl rfl ?_
  refine Go.iload (pc' := 5) d10_3 rfl rfl ?_
  refine Go.iload (pc' := 7) d10_5 rfl rfl ?_
  refine Go.icmp (pc1 := 44) (pc2 := 10) d10_7 (by decide) (by decide) rfl (fun (c_101 : (3 : Int) ≤ (0 : Int)) => ?_) (fun (c_101 : (0 : Int) < (3 : Int)) => ?_)
  · exact absurd c_101 (by decide)
  refine Go.aloadN (pc' := 11) d10_10 rfl rfl rfl ?_
  refine Go.iloadN (pc' := 12) d10_11 rfl rfl ?_
  refine Go.ldC (pc' := 13) (k := 0) (v := (.int c0)) hR rfl rfl d10_12 rfl ?_
  refine Go.istore (pc' := 15) (Ls' := #[.val (.ref r), .val (.int (0 : Int32)), .val (.ref o), .val (.int (0 : Int32)), .val (.int (3 : Int32)), .val (.int (0 : Int32)), .val (.int c0)]) d10_13 rfl rfl ?_
  refine Go.iload (pc' := 17) d10_15 rfl rfl ?_
  refine Go.sipush (pc' := 20) (v := (255 : Int32)) d10_17 rfl rfl ?_
  refine Go.icmp (pc1 := 26) (pc2 := 23) d10_20 (by decide) (by decide) rfl (fun (c_102 : c0.toInt ≤ (255 : Int)) => ?_) (fun (c_102 : (255 : Int) < c0.toInt) => ?_)
  · refine Go.aloadN (pc' := 27) d10_26 rfl rfl rfl ?_
    refine Go.iloadN (pc' := 28) d10_27 rfl rfl ?_
    refine Go.iload (pc' := 30) d10_28 rfl rfl ?_
    refine Go.i2b (pc' := 31) d10_30 rfl ?_
    generalize eb_103 : c0.toInt8.toInt32 = b_103
    have k_104 : b_103.toInt % 256 = c0.toInt ∧ -128 ≤ b_103.toInt ∧ b_103.toInt < 128 := by
      rw [← eb_103]
      have := c_i2b c0
      have := rng32 c0.toInt8.toInt32
      have := rng32 c0
      have := hc0
      omega
    have nb_103 : nar .byte b_103 = b_103 := own_nb k_104.2
    refine Go.stB (pc' := 32) (k := 0) hA rfl (by show 0 < 3; decide) d10_31 hg rfl ?_
    intro h_105 W_106 A_107
    rw [nb_103] at W_106 A_107
    have f_108 : Ary Z h_105 r .char [(.int c0), (.int c1), (.int c2)] := hR.sm (Sm.wr W_106 hne)
    have t_109 : r < h_105.size := Nat.lt_of_lt_of_le hR.lt (Nat.le_of_eq W_106.size.symm)
    have t_110 : o < h_105.size := Nat.lt_of_lt_of_le hA.lt (Nat.le_of_eq W_106.size.symm)
    have z_111 : n0 ≤ h_105.size := Nat.le_trans z0 (Nat.le_of_eq W_106.size.symm)
    have b_112 : h0.size ≤ h_105.size := Nat.le_trans (Nat.le_refl _) (Nat.le_of_eq W_106.size.symm)
    have K_113 : Keep h0 h_105 [o] := (Keep.refl _ _).wr W_106 (Or.inl (List.mem_of_getElem? (i := 0) rfl))
    change Ary Z h_105 o .byte [(.int b_103), (.int (0 : Int32)), (.int (0 : Int32))] at A_107
    refine Go.iinc (pc' := 35) (w := (1 : Int32)) (Ls' := #[.val (.ref r), .val (.int (1 : Int32)), .val (.ref o), .val (.int (0 : Int32)), .val (.int (3 : Int32)), .val (.int (0 : Int32)), .val (.int c0)]) d10_32 rfl rfl rfl rfl ?_
    refine Go.iinc (pc' := 38) (w := (1 : Int32)) (Ls' := #[.val (.ref r), .val (.int (1 : Int32)), .val (.ref o), .val (.int (1 : Int32)), .val (.int (3 : Int32)), .val (.int (0 : Int32)), .val (.int c0)]) d10_35 rfl rfl rfl rfl ?_
    refine Go.iinc (pc' := 41) (w := (1 : Int32)) (Ls' := #[.val (.ref r), .val (.int (1 : Int32)), .val (.ref o), .val (.int (1 : Int32)), .val (.int (3 : Int32)), .val (.int (1 : Int32)), .val (.int c0)]) d10_38 rfl rfl rfl rfl ?_
    refine Go.goto (pc' := 3) d10_41 (by decide) (by decide) ?_
    refine Go.iload (pc' := 5) d10_3 rfl rfl ?_
    refine Go.iload (pc' := 7) d10_5 rfl rfl ?_
    refine Go.icmp (pc1 := 44) (pc2 := 10) d10_7 (by decide) (by decide) rfl (fun (c_114 : (3 : Int) ≤ (1 : Int)) => ?_) (fun (c_114 : (1 : Int) < (3 : Int)) => ?_)
    · exact absurd c_114 (by decide)
    refine Go.aloadN (pc' := 11) d10_10 rfl rfl rfl ?_
    refine Go.iloadN (pc' := 12) d10_11 rfl rfl ?_
    refine Go.ldC (pc' := 13) (k := 1) (v := (.int c1)) f_108 rfl rfl d10_12 rfl ?_
    refine Go.istore (pc' := 15) (Ls' := #[.val (.ref r), .val (.int (1 : Int32)), .val (.ref o), .val (.int (1 : Int32)), .val (.int (3 : Int32)), .val (.int (1 : Int32)), .val (.int c1)]) d10_13 rfl rfl ?_
    refine Go.iload (pc' := 17) d10_15 rfl rfl ?_
    refine Go.sipush (pc' := 20) (v := (255 : Int32)) d10_17 rfl rfl ?_
    refine Go.icmp (pc1 := 26) (pc2 := 23) d10_20 (by decide) (by decide) rfl (fun (c_115 : c1.toInt ≤ (255 : Int)) => ?_) (fun (c_115 : (255 : Int) < c1.toInt) => ?_)
    · refine Go.aloadN (pc' := 27) d10_26 rfl rfl rfl ?_
      refine Go.iloadN (pc' := 28) d10_27 rfl rfl ?_
      refine Go.iload (pc' := 30) d10_28 rfl rfl ?_
      refine Go.i2b (pc' := 31) d10_30 rfl ?_
      generalize eb_116 : c1.toInt8.toInt32 = b_116
      have k_117 : b_116.toInt % 256 = c1.toInt ∧ -128 ≤ b_116.toInt ∧ b_116.toInt < 128 := by
        rw [← eb_116]
        have := c_i2b c1
        have := rng32 c1.toInt8.toInt32
        have := rng32 c1
        have := hc1
        omega
      have nb_116 : nar .byte b_116 = b_116 := own_nb k_117.2
      refine Go.stB (pc' := 32) (k := 1) A_107 rfl (by show 1 < 3; decide) d10_31 hg rfl ?_
      intro h_118 W_119 A_120
      rw [nb_116] at W_119 A_120
      have f_121 : Ary Z h_118 r .char [(.int c0), (.int c1), (.int c2)] := f_108.sm (Sm.wr W_119 hne)
      have t_122 : r < h_118.size := Nat.lt_of_lt_of_le t_109 (Nat.le_of_eq W_119.size.symm)
      have t_123 : o < h_118.size := Nat.lt_of_lt_of_le t_110 (Nat.le_of_eq W_119.size.symm)
      have z_124 : n0 ≤ h_118.size := Nat.le_trans z_111 (Nat.le_of_eq W_119.size.symm)
      have b_125 : h0.size ≤ h_118.size := Nat.le_trans b_112 (Nat.le_of_eq W_119.size.symm)
      have K_126 : Keep h0 h_118 [o] := K_113.wr W_119 (Or.inl (List.mem_of_getElem? (i := 0) rfl))
      change Ary Z h_118 o .byte [(.int b_103), (.int b_116), (.int (0 : Int32))] at A_120
      refine Go.iinc (pc' := 35) (w := (2 : Int32)) (Ls' := #[.val (.ref r), .val (.int (2 : Int32)), .val (.ref o), .val (.int (1 : Int32)), .val (.int (3 : Int32)), .val (.int (1 : Int32)), .val (.int c1)]) d10_32 rfl rfl rfl rfl ?_
      refine Go.iinc (pc' := 38) (w := (2 : Int32)) (Ls' := #[.val (.ref r), .val (.int (2 : Int32)), .val (.ref o), .val (.int (2 : Int32)), .val (.int (3 : Int32)), .val (.int (1 : Int32)), .val (.int c1)]) d10_35 rfl rfl rfl rfl ?_
      refine Go.iinc (pc' := 41) (w := (2 : Int32)) (Ls' := #[.val (.ref r), .val (.int (2 : Int32)), .val (.ref o), .val (.int (2 : Int32)), .val (.int (3 : Int32)), .val (.int (2 : Int32)), .val (.int c1)]) d10_38 rfl rfl rfl rfl ?_
      refine Go.goto (pc' := 3) d10_41 (by decide) (by decide) ?_
      refine Go.iload (pc' := 5) d10_3 rfl rfl ?_
      refine Go.iload (pc' := 7) d10_5 rfl rfl ?_
      refine Go.icmp (pc1 := 44) (pc2 := 10) d10_7 (by decide) (by decide) rfl (fun (c_127 : (3 : Int) ≤ (2 : Int)) => ?_) (fun (c_127 : (2 : Int) < (3 : Int)) => ?_)
      · exact absurd c_127 (by decide)
      refine Go.aloadN (pc' := 11) d10_10 rfl rfl rfl ?_
      refine Go.iloadN (pc' := 12) d10_11 rfl rfl ?_
      refine Go.ldC (pc' := 13) (k := 2) (v := (.int c2)) f_121 rfl rfl d10_12 rfl ?_
      refine Go.istore (pc' := 15) (Ls' := #[.val (.ref r), .val (.int (2 : Int32)), .val (.ref o), .val (.int (2 : Int32)), .val (.int (3 : Int32)), .val (.int (2 : Int32)), .val (.int c2)]) d10_13 rfl rfl ?_
      refine Go.iload (pc' := 17) d10_15 rfl rfl ?_
      refine Go.sipush (pc' := 20) (v := (255 : Int32)) d10_17 rfl rfl ?_
      refine Go.icmp (pc1 := 26) (pc2 := 23) d10_20 (by decide) (by decide) rfl (fun (c_128 : c2.toInt ≤ (255 : Int)) => ?_) (fun (c_128 : (255 : Int) < c2.toInt) => ?_)
      · refine Go.aloadN (pc' := 27) d10_26 rfl rfl rfl ?_
        refine Go.iloadN (pc' := 28) d10_27 rfl rfl ?_
        refine Go.iload (pc' := 30) d10_28 rfl rfl ?_
        refine Go.i2b (pc' := 31) d10_30 rfl ?_
        generalize eb_129 : c2.toInt8.toInt32 = b_129
        have k_130 : b_129.toInt % 256 = c2.toInt ∧ -128 ≤ b_129.toInt ∧ b_129.toInt < 128 := by
          rw [← eb_129]
          have := c_i2b c2
          have := rng32 c2.toInt8.toInt32
          have := rng32 c2
          have := hc2
          omega
        have nb_129 : nar .byte b_129 = b_129 := own_nb k_130.2
        refine Go.stB (pc' := 32) (k := 2) A_120 rfl (by show 2 < 3; decide) d10_31 hg rfl ?_
        intro h_131 W_132 A_133
        rw [nb_129] at W_132 A_133
        have f_134 : Ary Z h_131 r .char [(.int c0), (.int c1), (.int c2)] := f_121.sm (Sm.wr W_132 hne)
        have t_135 : r < h_131.size := Nat.lt_of_lt_of_le t_122 (Nat.le_of_eq W_132.size.symm)
        have t_136 : o < h_131.size := Nat.lt_of_lt_of_le t_123 (Nat.le_of_eq W_132.size.symm)
        have z_137 : n0 ≤ h_131.size := Nat.le_trans z_124 (Nat.le_of_eq W_132.size.symm)
        have b_138 : h0.size ≤ h_131.size := Nat.le_trans b_125 (Nat.le_of_eq W_132.size.symm)
        have K_139 : Keep h0 h_131 [o] := K_126.wr W_132 (Or.inl (List.mem_of_getElem? (i := 0) rfl))
        change Ary Z h_131 o .byte [(.int b_103), (.int b_116), (.int b_129)] at A_133
        refine Go.iinc (pc' := 35) (w := (3 : Int32)) (Ls' := #[.val (.ref r), .val (.int (3 : Int32)), .val (.ref o), .val (.int (2 : Int32)), .val (.int (3 : Int32)), .val (.int (2 : Int32)), .val (.int c2)]) d10_32 rfl rfl rfl rfl ?_
        refine Go.iinc (pc' := 38) (w := (3 : Int32)) (Ls' := #[.val (.ref r), .val (.int (3 : Int32)), .val (.ref o), .val (.int (3 : Int32)), .val (.int (3 : Int32)), .val (.int (2 : Int32)), .val (.int c2)]) d10_35 rfl rfl rfl rfl ?_
        refine Go.iinc (pc' := 41) (w := (3 : Int32)) (Ls' := #[.val (.ref r), .val (.int (3 : Int32)), .val (.ref o), .val (.int (3 : Int32)), .val (.int (3 : Int32)), .val (.int (3 : Int32)), .val (.int c2)]) d10_38 rfl rfl rfl rfl ?_
        refine Go.goto (pc' := 3) d10_41 (by decide) (by decide) ?_
        refine Go.iload (pc' := 5) d10_3 rfl rfl ?_
        refine Go.iload (pc' := 7) d10_5 rfl rfl ?_
        refine Go.icmp (pc1 := 44) (pc2 := 10) d10_7 (by decide) (by decide) rfl (fun (c_140 : (3 : Int) ≤ (3 : Int)) => ?_) (fun (c_140 : (3 : Int) < (3 : Int)) => ?_)
        rotate_left
        · exact absurd c_140 (by decide)
        refine Go.iload (pc' := 46) d10_44 rfl rfl ?_
        exact Go.retI d10_46 rfl ⟨_, rfl, K_139, Or.inl ⟨b_103, b_116, b_129, rfl, A_133, k_104.1, k_117.1, k_130.1⟩⟩ (by decide) (by decide)
      · refine Go.iload (pc' := 25) d10_23 rfl rfl ?_
        exact Go.retI d10_25 rfl ⟨_, rfl, K_126, Or.inr (Or.inr (Or.inr (⟨rfl, by omega⟩)))⟩ (by decide) (by decide)
    · refine Go.iload (pc' := 25) d10_23 rfl rfl ?_
      exact Go.retI d10_25 rfl ⟨_, rfl, K_113, Or.inr (Or.inr (Or.inl ⟨rfl, by omega⟩))⟩ (by decide) (by decide)
  · refine Go.iload (pc' := 25) d10_23 rfl rfl ?_
    exact Go.retI d10_25 rfl ⟨_, rfl, (Keep.refl _ _), Or.inr (Or.inl ⟨rfl, by omega⟩)⟩ (by decide) (by decide)
set_option maxRecDepth 65536 in
set_option maxHeartbeats 40000000 in
theorem m_c3_3 (l : Launch) (Z : State) (a0 : Array Value) (hw : ∀ d ∈ tables_1, d.before a0 Z = true) (r : Addr) (c0 c1 c2 : Int32) (h0 : Heap) (n0 : Nat) (z0 : n0 ≤ h0.size)  (hR : Ary Z h0 r .char [.int c0, .int c1, .int c2]) (hc0 : 0 ≤ c0.toInt ∧ c0.toInt < 65536) (hc1 : 0 ≤ c1.toInt ∧ c1.toInt < 65536) (hc2 : 0 ≤ c2.toInt ∧ c2.toInt < 65536) (hd0 : c0.toInt < 256) (hd1 : c1.toInt < 256) (hd2 : c2.toInt < 256) : Mt .n l Z (⟨"java/lang/StringUTF16", "compress", "([CII)[B"⟩ : MethodName) jdk_52_method_16_code 6 (some (.array .byte)) ({ frames := 3, cells := 2, slots := 9, locals := 40 } : Room) n0 (fun v h => ∃ o : Addr, v = some (.ref o) ∧ Keep h0 h [] ∧ h0.size ≤ o ∧ o < h.size ∧ ((∃ b0 b1 b2 : Int32, Ary Z h o .byte [.int b0, .int b1, .int b2] ∧ b0.toInt % 256 = c0.toInt ∧ b1.toInt % 256 = c1.toInt ∧ b2.toInt % 256 = c2.toInt))) h0 #[(.ref r), (.int (0 : Int32)), (.int (3 : Int32))] := by
  refine Mt.go (Ls := #[.val (.ref r), .val (.int (0 : Int32)), .val (.int (3 : Int32)), .unset, .unset, .unset]) (by first | exact plainFor_of_name (by decide +kernel) | decide +kernel | (simp [plainFor]; done)) (fun m => by first | (simp [entryFrame, mkF, argsToLocals, Value.category]; done) | rfl) ?_
  show (Go .n l ({ frames := 3, cells := 2, slots := 9, locals := 40 } : Room) Z (⟨"java/lang/StringUTF16", "compress", "([CII)[B"⟩ : MethodName) jdk_52_method_16_code 6 (some (.array .byte)) n0 2 9 (fun v h => ∃ o : Addr, v = some (.ref o) ∧ Keep h0 h [] ∧ h0.size ≤ o ∧ o < h.size ∧ ((∃ b0 b1 b2 : Int32, Ary Z h o .byte [.int b0, .int b1, .int b2] ∧ b0.toInt % 256 = c0.toInt ∧ b1.toInt % 256 = c1.toInt ∧ b2.toInt % 256 = c2.toInt)))) h0 0 0 0 #[.val (.ref r), .val (.int (0 : Int32)), .val (.int (3 : Int32)), .unset, .unset, .unset] []
  refine Go.iloadN (pc' := 1) d9_0 rfl rfl ?_
  refine Go.newA (pc' := 3) (k := 3) (ty := .byte) (cap := 3) (hw _ (List.mem_of_getElem? (i := 21) rfl)) rfl rfl (by decide) (by decide) d9_1 (by decide) (by decide) rfl ?_
  intro h_141 a_142 q_143 E_144 A_145
  have n_147 : r ≠ a_142 := Nat.ne_of_lt (q_143 ▸ hR.lt)
  have g_148 : n0 ≤ a_142 := q_143 ▸ z0
  have g_149 : h0.size ≤ a_142 := q_143 ▸ (Nat.le_refl _)
  have f_150 : Ary Z h_141 r .char [(.int c0), (.int c1), (.int c2)] := hR.sm (Sm.ext E_144)
  have t_151 : r < h_141.size := Nat.lt_of_lt_of_le hR.lt E_144.1
  have z_152 : n0 ≤ h_141.size := Nat.le_trans z0 E_144.1
  have b_153 : h0.size ≤ h_141.size := Nat.le_trans (Nat.le_refl _) E_144.1
  have K_154 : Keep h0 h_141 [] := (Keep.refl _ _).ext E_144
  have t_155 : a_142 < h_141.size := A_145.lt
  change Ary Z h_141 a_142 .byte [(.int (0 : Int32)), (.int (0 : Int32)), (.int (0 : Int32))] at A_145
  refine Go.astoreN (pc' := 4) (Ls' := #[.val (.ref r), .val (.int (0 : Int32)), .val (.int (3 : Int32)), .val (.ref a_142), .unset, .unset]) d9_3 rfl rfl rfl ?_
  refine Go.aloadN (pc' := 5) d9_4 rfl rfl rfl ?_
  refine Go.iloadN (pc' := 6) d9_5 rfl rfl ?_
  refine Go.aloadN (pc' := 7) d9_6 rfl rfl rfl ?_
  refine Go.iconst (pc' := 8) (v := (0 : Int32)) d9_7 rfl rfl ?_
  refine Go.iloadN (pc' := 9) d9_8 rfl rfl ?_
  refine Go.callS (pc' := 12) (argsL := [(.ref r), (.int (0 : Int32)), (.ref a_142), (.int (0 : Int32)), (.int (3 : Int32))]) (rest := []) (W := 0) (hw _ (List.mem_of_getElem? (i := 69) rfl)) (hw _ (List.mem_of_getElem? (i := 70) rfl)) (hw _ (List.mem_of_getElem? (i := 67) rfl)) (hw _ (List.mem_of_getElem? (i := 71) rfl)) (by decide) (m_c5_3 l Z a0 hw r a_142 c0 c1 c2 h_141 n0 z_152 f_150 A_145 g_148 n_147 hc0 hc1 hc2) d9_9 rfl pd0 rfl rfl (Nat.le_of_eq rfl) (by decide) (by decide) (by decide) (by decide) rfl ?_
  rintro _ h_156 ⟨q_157, rfl, K_158, hq_159⟩
  have f_160 : Ary Z h_156 r .char [(.int c0), (.int c1), (.int c2)] := f_150.sm (Sm.keep K_158 (ninS n_147 nin0))
  have t_162 : r < h_156.size := Nat.lt_of_lt_of_le t_151 K_158.1
  have t_163 : a_142 < h_156.size := Nat.lt_of_lt_of_le t_155 K_158.1
  have z_164 : n0 ≤ h_156.size := Nat.le_trans z_152 K_158.1
  have b_165 : h0.size ≤ h_156.size := Nat.le_trans b_153 K_158.1
  have K_166 : Keep h0 h_156 [] := K_154.trans K_158 (allS (Or.inr g_149) all0)
  show (Go .n l ({ frames := 3, cells := 2, slots := 9, locals := 40 } : Room) Z (⟨"java/lang/StringUTF16", "compress", "([CII)[B"⟩ : MethodName) jdk_52_method_16_code 6 (some (.array .byte)) n0 2 9 (fun v h => ∃ o : Addr, v = some (.ref o) ∧ Keep h0 h [] ∧ h0.size ≤ o ∧ o < h.size ∧ ((∃ b0 b1 b2 : Int32, Ary Z h o .byte [.int b0, .int b1, .int b2] ∧ b0.toInt % 256 = c0.toInt ∧ b1.toInt % 256 = c1.toInt ∧ b2.toInt % 256 = c2.toInt)))) h_156 (0 + 1 + 0) (0 + 3 + 0) 12 #[.val (.ref r), .val (.int (0 : Int32)), .val (.int (3 : Int32)), .val (.ref a_142), .unset, .unset] [(.int q_157)]
  rcases hq_159 with ⟨b0, b1, b2, rfl, A_167, e_168, e_169, e_170⟩ | ⟨rfl, hq_159⟩ | ⟨rfl, hq_159⟩ | ⟨rfl, hq_159⟩
  · show (Go .n l ({ frames := 3, cells := 2, slots := 9, locals := 40 } : Room) Z (⟨"java/lang/StringUTF16", "compress", "([CII)[B"⟩ : MethodName) jdk_52_method_16_code 6 (some (.array .byte)) n0 2 9 (fun v h => ∃ o : Addr, v = some (.ref o) ∧ Keep h0 h [] ∧ h0.size ≤ o ∧ o < h.size ∧ ((∃ b0 b1 b2 : Int32, Ary Z h o .byte [.int b0, .int b1, .int b2] ∧ b0.toInt % 256 = c0.toInt ∧ b1.toInt % 256 = c1.toInt ∧ b2.toInt % 256 = c2.toInt)))) h_156 (0 + 1 + 0) (0 + 3 + 0) 12 #[.val (.ref r), .val (.int (0 : Int32)), .val (.int (3 : Int32)), .val (.ref a_142), .unset, .unset] [(.int (3 : Int32))]
    refine Go.istore (pc' := 14) (Ls' := #[.val (.ref r), .val (.int (0 : Int32)), .val (.int (3 : Int32)), .val (.ref a_142), .val (.int (3 : Int32)), .unset]) d9_12 rfl rfl ?_
    refine Go.iload (pc' := 16) d9_14 rfl rfl ?_
    refine Go.iloadN (pc' := 17) d9_16 rfl rfl ?_
    refine Go.icmp (pc1 := 57) (pc2 := 20) d9_17 (by decide) (by decide) rfl (fun (c_171 : (3 : Int) = (3 : Int)) => ?_) (fun (c_171 : (3 : Int) ≠ (3 : Int)) => ?_)
    rotate_left
    · exact absurd c_171 (by decide)
    refine Go.aloadN (pc' := 58) d9_57 rfl rfl rfl ?_
    exact Go.retA d9_58 rfl rfl rfl ⟨a_142, rfl, K_166, g_149, t_163, b0, b1, b2, A_167, e_168, e_169, e_170⟩ (by decide) (by decide)
  · show (Go .n l ({ frames := 3, cells := 2, slots := 9, locals := 40 } : Room) Z (⟨"java/lang/StringUTF16", "compress", "([CII)[B"⟩ : MethodName) jdk_52_method_16_code 6 (some (.array .byte)) n0 2 9 (fun v h => ∃ o : Addr, v = some (.ref o) ∧ Keep h0 h [] ∧ h0.size ≤ o ∧ o < h.size ∧ ((∃ b0 b1 b2 : Int32, Ary Z h o .byte [.int b0, .int b1, .int b2] ∧ b0.toInt % 256 = c0.toInt ∧ b1.toInt % 256 = c1.toInt ∧ b2.toInt % 256 = c2.toInt)))) h_156 (0 + 1 + 0) (0 + 3 + 0) 12 #[.val (.ref r), .val (.int (0 : Int32)), .val (.int (3 : Int32)), .val (.ref a_142), .unset, .unset] [(.int (0 : Int32))]
    exfalso; omega
  · show (Go .n l ({ frames := 3, cells := 2, slots := 9, locals := 40 } : Room) Z (⟨"java/lang/StringUTF16", "compress", "([CII)[B"⟩ : MethodName) jdk_52_method_16_code 6 (some (.array .byte)) n0 2 9 (fun v h => ∃ o : Addr, v = some (.ref o) ∧ Keep h0 h [] ∧ h0.size ≤ o ∧ o < h.size ∧ ((∃ b0 b1 b2 : Int32, Ary Z h o .byte [.int b0, .int b1, .int b2] ∧ b0.toInt % 256 = c0.toInt ∧ b1.toInt % 256 = c1.toInt ∧ b2.toInt % 256 = c2.toInt)))) h_156 (0 + 1 + 0) (0 + 3 + 0) 12 #[.val (.ref r), .val (.int (0 : Int32)), .val (.int (3 : Int32)), .val (.ref a_142), .unset, .unset] [(.int (1 : Int32))]
    exfalso; omega
  · show (Go .n l ({ frames := 3, cells := 2, slots := 9, locals := 40 } : Room) Z (⟨"java/lang/StringUTF16", "compress", "([CII)[B"⟩ : MethodName) jdk_52_method_16_code 6 (some (.array .byte)) n0 2 9 (fun v h => ∃ o : Addr, v = some (.ref o) ∧ Keep h0 h [] ∧ h0.size ≤ o ∧ o < h.size ∧ ((∃ b0 b1 b2 : Int32, Ary Z h o .byte [.int b0, .int b1, .int b2] ∧ b0.toInt % 256 = c0.toInt ∧ b1.toInt % 256 = c1.toInt ∧ b2.toInt % 256 = c2.toInt)))) h_156 (0 + 1 + 0) (0 + 3 + 0) 12 #[.val (.ref r), .val (.int (0 : Int32)), .val (.int (3 : Int32)), .val (.ref a_142), .unset, .unset] [(.int (2 : Int32))]
    exfalso; omega
set_option maxRecDepth 65536 in
set_option maxHeartbeats 40000000 in
theorem m_c5_4 (l : Launch) (Z : State) (a0 : Array Value) (hw : ∀ d ∈ tables_1, d.before a0 Z = true) (r o : Addr) (c0 c1 c2 c3 : Int32) (h0 : Heap) (n0 : Nat) (z0 : n0 ≤ h0.size) (hR : Ary Z h0 r .char [.int c0, .int c1, .int c2, .int c3]) (hA : Ary Z h0 o .byte [.int (0 : Int32), .int (0 : Int32), .int (0 : Int32), .int (0 : Int32)]) (hg : n0 ≤ o) (hne : r ≠ o) (hc0 : 0 ≤ c0.toInt ∧ c0.toInt < 65536) (hc1 : 0 ≤ c1.toInt ∧ c1.toInt < 65536) (hc2 : 0 ≤ c2.toInt ∧ c2.toInt < 65536) (hc3 : 0 ≤ c3.toInt ∧ c3.toInt < 65536) : Mt .n l Z (⟨"java/lang/StringUTF16", "compress", "([CI[BII)I"⟩ : MethodName) jdk_52_method_21_code 7 (some .int) ({ frames := 0, cells := 0, slots := 0, locals := 0 } : Room) n0 (fun v h => ∃ q : Int32, v = some (.int q) ∧ Keep h0 h [o] ∧ ((∃ b0 b1 b2 b3 : Int32, q = (4 : Int32) ∧ Ary Z h o .byte [.int b0, .int b1, .int b2, .int b3] ∧ b0.toInt % 256 = c0.toInt ∧ b1.toInt % 256 = c1.toInt ∧ b2.toInt % 256 = c2.toInt ∧ b3.toInt % 256 = c3.toInt) ∨ ((q = (0 : Int32) ∧ 255 < c0.toInt) ∨ (q = (1 : Int32) ∧ 255 < c1.toInt) ∨ (q = (2 : Int32) ∧ 255 < c2.toInt) ∨ (q = (3 : Int32) ∧ 255 < c3.toInt)))) h0 #[(.ref r), (.int (0 : Int32)), (.ref o), (.int (0 : Int32)), (.int (4 : Int32))] := by
  refine Mt.go (Ls := #[.val (.ref r), .val (.int (0 : Int32)), .val (.ref o), .val (.int (0 : Int32)), .val (.int (4 : Int32)), .unset, .unset]) (by first | exact plainFor_of_name (by decide +kernel) | decide +kernel | (simp [plainFor]; done)) (fun m => by first | (simp [entryFrame, mkF, argsToLocals, Value.category]; done) | rfl) ?_
  show (Go .n l ({ frames := 0, cells := 0, slots := 0, locals := 0 } : Room) Z (⟨"java/lang/StringUTF16", "compress", "([CI[BII)I"⟩ : MethodName) jdk_52_method_21_code 7 (some .int) n0 0 0 (fun v h => ∃ q : Int32, v = some (.int q) ∧ Keep h0 h [o] ∧ ((∃ b0 b1 b2 b3 : Int32, q = (4 : Int32) ∧ Ary Z h o .byte [.int b0, .int b1, .int b2, .int b3] ∧ b0.toInt % 256 = c0.toInt ∧ b1.toInt % 256 = c1.toInt ∧ b2.toInt % 256 = c2.toInt ∧ b3.toInt % 256 = c3.toInt) ∨ ((q = (0 : Int32) ∧ 255 < c0.toInt) ∨ (q = (1 : Int32) ∧ 255 < c1.toInt) ∨ (q = (2 : Int32) ∧ 255 < c2.toInt) ∨ (q = (3 : Int32) ∧ 255 < c3.toInt))))) h0 0 0 0 #[.val (.ref r), .val (.int (0 : Int32)), .val (.ref o), .val (.int (0 : Int32)), .val (.int (4 : Int32)), .unset, .unset] []
  refine Go.iconst (pc' := 1) (v := (0 : Int32)) d10_0 rfl rfl ?_
  refine Go.istore (pc' := 3) (Ls' := #[.val (.ref r), .val (.int (0 : Int32)), .val (.ref o), .val (.int (0 : Int32)), .val (.int (4 : Int32)), .val (.int (0 : Int32)), .unset]) d10_1 rfl rfl ?_
  refine Go.iload (pc' := 5) d10_3 rfl rfl ?_
  refine Go.iload (pc' := 7) d10_5 rfl rfl ?_
  refine Go.icmp (pc1 := 44) (pc2 := 10) d10_7 (by decide) (by decide) rfl (fun (c_172 : (4 : Int) ≤ (0 : Int)) => ?_) (fun (c_172 : (0 : Int) < (4 : Int)) => ?_)
  · exact absurd c_172 (by decide)
  refine Go.aloadN (pc' := 11) d10_10 rfl rfl rfl ?_
  refine Go.iloadN (pc' := 12) d10_11 rfl rfl ?_
  refine Go.ldC (pc' := 13) (k := 0) (v := (.int c0)) hR rfl rfl d10_12 rfl ?_
  refine Go.istore (pc' := 15) (Ls' := #[.val (.ref r), .val (.int (0 : Int32)), .val (.ref o), .val (.int (0 : Int32)), .val (.int (4 : Int32)), .val (.int (0 : Int32)), .val (.int c0)]) d10_13 rfl rfl ?_
  refine Go.iload (pc' := 17) d10_15 rfl rfl ?_
  refine Go.sipush (pc' := 20) (v := (255 : Int32)) d10_17 rfl rfl ?_
  refine Go.icmp (pc1 := 26) (pc2 := 23) d10_20 (by decide) (by decide) rfl (fun (c_173 : c0.toInt ≤ (255 : Int)) => ?_) (fun (c_173 : (255 : Int) < c0.toInt) => ?_)
  · refine Go.aloadN (pc' := 27) d10_26 rfl rfl rfl ?_
    refine Go.iloadN (pc' := 28) d10_27 rfl rfl ?_
    refine Go.iload (pc' := 30) d10_28 rfl rfl ?_
    refine Go.i2b (pc' := 31) d10_30 rfl ?_
    generalize eb_174 : c0.toInt8.toInt32 = b_174
    have k_175 : b_174.toInt % 256 = c0.toInt ∧ -128 ≤ b_174.toInt ∧ b_174.toInt < 128 := by
      rw [← eb_174]
      have := c_i2b c0
      have := rng32 c0.toInt8.toInt32
      have := rng32 c0
      have := hc0
      omega
    have nb_174 : nar .byte b_174 = b_174 := own_nb k_175.2
    refine Go.stB (pc' := 32) (k := 0) hA rfl (by show 0 < 4; decide) d10_31 hg rfl ?_
    intro h_176 W_177 A_178
    rw [nb_174] at W_177 A_178
    have f_179 : Ary Z h_176 r .char [(.int c0), (.int c1), (.int c2), (.int c3)] := hR.sm (Sm.wr W_177 hne)
    have t_180 : r < h_176.size := Nat.lt_of_lt_of_le hR.lt (Nat.le_of_eq W_177.size.symm)
    have t_181 : o < h_176.size := Nat.lt_of_lt_of_le hA.lt (Nat.le_of_eq W_177.size.symm)
    have z_182 : n0 ≤ h_176.size := Nat.le_trans z0 (Nat.le_of_eq W_177.size.symm)
    have b_183 : h0.size ≤ h_176.size := Nat.le_trans (Nat.le_refl _) (Nat.le_of_eq W_177.size.symm)
    have K_184 : Keep h0 h_176 [o] := (Keep.refl _ _).wr W_177 (Or.inl (List.mem_of_getElem? (i := 0) rfl))
    change Ary Z h_176 o .byte [(.int b_174), (.int (0 : Int32)), (.int (0 : Int32)), (.int (0 : Int32))] at A_178
    refine Go.iinc (pc' := 35) (w := (1 : Int32)) (Ls' := #[.val (.ref r), .val (.int (1 : Int32)), .val (.ref o), .val (.int (0 : Int32)), .val (.int (4 : Int32)), .val (.int (0 : Int32)), .val (.int c0)]) d10_32 rfl rfl rfl rfl ?_
    refine Go.iinc (pc' := 38) (w := (1 : Int32)) (Ls' := #[.val (.ref r), .val (.int (1 : Int32)), .val (.ref o), .val (.int (1 : Int32)), .val (.int (4 : Int32)), .val (.int (0 : Int32)), .val (.int c0)]) d10_35 rfl rfl rfl rfl ?_
    refine Go.iinc (pc' := 41) (w := (1 : Int32)) (Ls' := #[.val (.ref r), .val (.int (1 : Int32)), .val (.ref o), .val (.int (1 : Int32)), .val (.int (4 : Int32)), .val (.int (1 : Int32)), .val (.int c0)]) d10_38 rfl rfl rfl rfl ?_
    refine Go.goto (pc' := 3) d10_41 (by decide) (by decide) ?_
    refine Go.iload (pc' := 5) d10_3 rfl rfl ?_
    refine Go.iload (pc' := 7) d10_5 rfl rfl ?_
    refine Go.icmp (pc1 := 44) (pc2 := 10) d10_7 (by decide) (by decide) rfl (fun (c_185 : (4 : Int) ≤ (1 : Int)) => ?_) (fun (c_185 : (1 : Int) < (4 : Int)) => ?_)
    · exact absurd c_185 (by decide)
    refine Go.aloadN (pc' := 11) d10_10 rfl rfl rfl ?_
    refine Go.iloadN (pc' := 12) d10_11 rfl rfl ?_
    refine Go.ldC (pc' := 13) (k := 1) (v := (.int c1)) f_179 rfl rfl d10_12 rfl ?_
    refine Go.istore (pc' := 15) (Ls' := #[.val (.ref r), .val (.int (1 : Int32)), .val (.ref o), .val (.int (1 : Int32)), .val (.int (4 : Int32)), .val (.int (1 : Int32)), .val (.int c1)]) d10_13 rfl rfl ?_
    refine Go.iload (pc' := 17) d10_15 rfl rfl ?_
    refine Go.sipush (pc' := 20) (v := (255 : Int32)) d10_17 rfl rfl ?_
    refine Go.icmp (pc1 := 26) (pc2 := 23) d10_20 (by decide) (by decide) rfl (fun (c_186 : c1.toInt ≤ (255 : Int)) => ?_) (fun (c_186 : (255 : Int) < c1.toInt) => ?_)
    · refine Go.aloadN (pc' := 27) d10_26 rfl rfl rfl ?_
      refine Go.iloadN (pc' := 28) d10_27 rfl rfl ?_
      refine Go.iload (pc' := 30) d10_28 rfl rfl ?_
      refine Go.i2b (pc' := 31) d10_30 rfl ?_
      generalize eb_187 : c1.toInt8.toInt32 = b_187
      have k_188 : b_187.toInt % 256 = c1.toInt ∧ -128 ≤ b_187.toInt ∧ b_187.toInt < 128 := by
        rw [← eb_187]
        have := c_i2b c1
        have := rng32 c1.toInt8.toInt32
        have := rng32 c1
        have := hc1
        omega
      have nb_187 : nar .byte b_187 = b_187 := own_nb k_188.2
      refine Go.stB (pc' := 32) (k := 1) A_178 rfl (by show 1 < 4; decide) d10_31 hg rfl ?_
      intro h_189 W_190 A_191
      rw [nb_187] at W_190 A_191
      have f_192 : Ary Z h_189 r .char [(.int c0), (.int c1), (.int c2), (.int c3)] := f_179.sm (Sm.wr W_190 hne)
      have t_193 : r < h_189.size := Nat.lt_of_lt_of_le t_180 (Nat.le_of_eq W_190.size.symm)
      have t_194 : o < h_189.size := Nat.lt_of_lt_of_le t_181 (Nat.le_of_eq W_190.size.symm)
      have z_195 : n0 ≤ h_189.size := Nat.le_trans z_182 (Nat.le_of_eq W_190.size.symm)
      have b_196 : h0.size ≤ h_189.size := Nat.le_trans b_183 (Nat.le_of_eq W_190.size.symm)
      have K_197 : Keep h0 h_189 [o] := K_184.wr W_190 (Or.inl (List.mem_of_getElem? (i := 0) rfl))
      change Ary Z h_189 o .byte [(.int b_174), (.int b_187), (.int (0 : Int32)), (.int (0 : Int32))] at A_191
      refine Go.iinc (pc' := 35) (w := (2 : Int32)) (Ls' := #[.val (.ref r), .val (.int (2 : Int32)), .val (.ref o), .val (.int (1 : Int32)), .val (.int (4 : Int32)), .val (.int (1 : Int32)), .val (.int c1)]) d10_32 rfl rfl rfl rfl ?_
      refine Go.iinc (pc' := 38) (w := (2 : Int32)) (Ls' := #[.val (.ref r), .val (.int (2 : Int32)), .val (.ref o), .val (.int (2 : Int32)), .val (.int (4 : Int32)), .val (.int (1 : Int32)), .val (.int c1)]) d10_35 rfl rfl rfl rfl ?_
      refine Go.iinc (pc' := 41) (w := (2 : Int32)) (Ls' := #[.val (.ref r), .val (.int (2 : Int32)), .val (.ref o), .val (.int (2 : Int32)), .val (.int (4 : Int32)), .val (.int (2 : Int32)), .val (.int c1)]) d10_38 rfl rfl rfl rfl ?_
      refine Go.goto (pc' := 3) d10_41 (by decide) (by decide) ?_
      refine Go.iload (pc' := 5) d10_3 rfl rfl ?_
      refine Go.iload (pc' := 7) d10_5 rfl rfl ?_
      refine Go.icmp (pc1 := 44) (pc2 := 10) d10_7 (by decide) (by decide) rfl (fun (c_198 : (4 : Int) ≤ (2 : Int)) => ?_) (fun (c_198 : (2 : Int) < (4 : Int)) => ?_)
      · exact absurd c_198 (by decide)
      refine Go.aloadN (pc' := 11) d10_10 rfl rfl rfl ?_
      refine Go.iloadN (pc' := 12) d10_11 rfl rfl ?_
      refine Go.ldC (pc' := 13) (k := 2) (v := (.int c2)) f_192 rfl rfl d10_12 rfl ?_
      refine Go.istore (pc' := 15) (Ls' := #[.val (.ref r), .val (.int (2 : Int32)), .val (.ref o), .val (.int (2 : Int32)), .val (.int (4 : Int32)), .val (.int (2 : Int32)), .val (.int c2)]) d10_13 rfl rfl ?_
      refine Go.iload (pc' := 17) d10_15 rfl rfl ?_
      refine Go.sipush (pc' := 20) (v := (255 : Int32)) d10_17 rfl rfl ?_
      refine Go.icmp (pc1 := 26) (pc2 := 23) d10_20 (by decide) (by decide) rfl (fun (c_199 : c2.toInt ≤ (255 : Int)) => ?_) (fun (c_199 : (255 : Int) < c2.toInt) => ?_)
      · refine Go.aloadN (pc' := 27) d10_26 rfl rfl rfl ?_
        refine Go.iloadN (pc' := 28) d10_27 rfl rfl ?_
        refine Go.iload (pc' := 30) d10_28 rfl rfl ?_
        refine Go.i2b (pc' := 31) d10_30 rfl ?_
        generalize eb_200 : c2.toInt8.toInt32 = b_200
        have k_201 : b_200.toInt % 256 = c2.toInt ∧ -128 ≤ b_200.toInt ∧ b_200.toInt < 128 := by
          rw [← eb_200]
          have := c_i2b c2
          have := rng32 c2.toInt8.toInt32
          have := rng32 c2
          have := hc2
          omega
        have nb_200 : nar .byte b_200 = b_200 := own_nb k_201.2
        refine Go.stB (pc' := 32) (k := 2) A_191 rfl (by show 2 < 4; decide) d10_31 hg rfl ?_
        intro h_202 W_203 A_204
        rw [nb_200] at W_203 A_204
        have f_205 : Ary Z h_202 r .char [(.int c0), (.int c1), (.int c2), (.int c3)] := f_192.sm (Sm.wr W_203 hne)
        have t_206 : r < h_202.size := Nat.lt_of_lt_of_le t_193 (Nat.le_of_eq W_203.size.symm)
        have t_207 : o < h_202.size := Nat.lt_of_lt_of_le t_194 (Nat.le_of_eq W_203.size.symm)
        have z_208 : n0 ≤ h_202.size := Nat.le_trans z_195 (Nat.le_of_eq W_203.size.symm)
        have b_209 : h0.size ≤ h_202.size := Nat.le_trans b_196 (Nat.le_of_eq W_203.size.symm)
        have K_210 : Keep h0 h_202 [o] := K_197.wr W_203 (Or.inl (List.mem_of_getElem? (i := 0) rfl))
        change Ary Z h_202 o .byte [(.int b_174), (.int b_187), (.int b_200), (.int (0 : Int32))] at A_204
        refine Go.iinc (pc' := 35) (w := (3 : Int32)) (Ls' := #[.val (.ref r), .val (.int (3 : Int32)), .val (.ref o), .val (.int (2 : Int32)), .val (.int (4 : Int32)), .val (.int (2 : Int32)), .val (.int c2)]) d10_32 rfl rfl rfl rfl ?_
        refine Go.iinc (pc' := 38) (w := (3 : Int32)) (Ls' := #[.val (.ref r), .val (.int (3 : Int32)), .val (.ref o), .val (.int (3 : Int32)), .val (.int (4 : Int32)), .val (.int (2 : Int32)), .val (.int c2)]) d10_35 rfl rfl rfl rfl ?_
        refine Go.iinc (pc' := 41) (w := (3 : Int32)) (Ls' := #[.val (.ref r), .val (.int (3 : Int32)), .val (.ref o), .val (.int (3 : Int32)), .val (.int (4 : Int32)), .val (.int (3 : Int32)), .val (.int c2)]) d10_38 rfl rfl rfl rfl ?_
        refine Go.goto (pc' := 3) d10_41 (by decide) (by decide) ?_
        refine Go.iload (pc' := 5) d10_3 rfl rfl ?_
        refine Go.iload (pc' := 7) d10_5 rfl rfl ?_
        refine Go.icmp (pc1 := 44) (pc2 := 10) d10_7 (by decide) (by decide) rfl (fun (c_211 : (4 : Int) ≤ (3 : Int)) => ?_) (fun (c_211 : (3 : Int) < (4 : Int)) => ?_)
        · exact absurd c_211 (by decide)
        refine Go.aloadN (pc' := 11) d10_10 rfl rfl rfl ?_
        refine Go.iloadN (pc' := 12) d10_11 rfl rfl ?_
        refine Go.ldC (pc' := 13) (k := 3) (v := (.int c3)) f_205 rfl rfl d10_12 rfl ?_
        refine Go.istore (pc' := 15) (Ls' := #[.val (.ref r), .val (.int (3 : Int32)), .val (.ref o), .val (.int (3 : Int32)), .val (.int (4 : Int32)), .val (.int (3 : Int32)), .val (.int c3)]) d10_13 rfl rfl ?_
        refine Go.iload (pc' := 17) d10_15 rfl rfl ?_
        refine Go.sipush (pc' := 20) (v := (255 : Int32)) d10_17 rfl rfl ?_
        refine Go.icmp (pc1 := 26) (pc2 := 23) d10_20 (by decide) (by decide) rfl (fun (c_212 : c3.toInt ≤ (255 : Int)) => ?_) (fun (c_212 : (255 : Int) < c3.toInt) => ?_)
        · refine Go.aloadN (pc' := 27) d10_26 rfl rfl rfl ?_
          refine Go.iloadN (pc' := 28) d10_27 rfl rfl ?_
          refine Go.iload (pc' := 30) d10_28 rfl rfl ?_
          refine Go.i2b (pc' := 31) d10_30 rfl ?_
          generalize eb_213 : c3.toInt8.toInt32 = b_213
          have k_214 : b_213.toInt % 256 = c3.toInt ∧ -128 ≤ b_213.toInt ∧ b_213.toInt < 128 := by
            rw [← eb_213]
            have := c_i2b c3
            have := rng32 c3.toInt8.toInt32
            have := rng32 c3
            have := hc3
            omega
          have nb_213 : nar .byte b_213 = b_213 := own_nb k_214.2
          refine Go.stB (pc' := 32) (k := 3) A_204 rfl (by show 3 < 4; decide) d10_31 hg rfl ?_
          intro h_215 W_216 A_217
          rw [nb_213] at W_216 A_217
          have f_218 : Ary Z h_215 r .char [(.int c0), (.int c1), (.int c2), (.int c3)] := f_205.sm (Sm.wr W_216 hne)
          have t_219 : r < h_215.size := Nat.lt_of_lt_of_le t_206 (Nat.le_of_eq W_216.size.symm)
          have t_220 : o < h_215.size := Nat.lt_of_lt_of_le t_207 (Nat.le_of_eq W_216.size.symm)
          have z_221 : n0 ≤ h_215.size := Nat.le_trans z_208 (Nat.le_of_eq W_216.size.symm)
          have b_222 : h0.size ≤ h_215.size := Nat.le_trans b_209 (Nat.le_of_eq W_216.size.symm)
          have K_223 : Keep h0 h_215 [o] := K_210.wr W_216 (Or.inl (List.mem_of_getElem? (i := 0) rfl))
          change Ary Z h_215 o .byte [(.int b_174), (.int b_187), (.int b_200), (.int b_213)] at A_217
          refine Go.iinc (pc' := 35) (w := (4 : Int32)) (Ls' := #[.val (.ref r), .val (.int (4 : Int32)), .val (.ref o), .val (.int (3 : Int32)), .val (.int (4 : Int32)), .val (.int (3 : Int32)), .val (.int c3)]) d10_32 rfl rfl rfl rfl ?_
          refine Go.iinc (pc' := 38) (w := (4 : Int32)) (Ls' := #[.val (.ref r), .val (.int (4 : Int32)), .val (.ref o), .val (.int (4 : Int32)), .val (.int (4 : Int32)), .val (.int (3 : Int32)), .val (.int c3)]) d10_35 rfl rfl rfl rfl ?_
          refine Go.iinc (pc' := 41) (w := (4 : Int32)) (Ls' := #[.val (.ref r), .val (.int (4 : Int32)), .val (.ref o), .val (.int (4 : Int32)), .val (.int (4 : Int32)), .val (.int (4 : Int32)), .val (.int c3)]) d10_38 rfl rfl rfl rfl ?_
          refine Go.goto (pc' := 3) d10_41 (by decide) (by decide) ?_
          refine Go.iload (pc' := 5) d10_3 rfl rfl ?_
          refine Go.iload (pc' := 7) d10_5 rfl rfl ?_
          refine Go.icmp (pc1 := 44) (pc2 := 10) d10_7 (by decide) (by decide) rfl (fun (c_224 : (4 : Int) ≤ (4 : Int)) => ?_) (fun (c_224 : (4 : Int) < (4 : Int)) => ?_)
          rotate_left
          · exact absurd c_224 (by decide)
          refine Go.iload (pc' := 46) d10_44 rfl rfl ?_
          exact Go.retI d10_46 rfl ⟨_, rfl, K_223, Or.inl ⟨b_174, b_187, b_200, b_213, rfl, A_217, k_175.1, k_188.1, k_201.1, k_214.1⟩⟩ (by decide) (by decide)
        · refine Go.iload (pc' := 25) d10_23 rfl rfl ?_
          exact Go.retI d10_25 rfl ⟨_, rfl, K_210, Or.inr (Or.inr (Or.inr (Or.inr (⟨rfl, by omega⟩))))⟩ (by decide) (by decide)
      · refine Go.iload (pc' := 25) d10_23 rfl rfl ?_
        exact Go.retI d10_25 rfl ⟨_, rfl, K_197, Or.inr (Or.inr (Or.inr (Or.inl ⟨rfl, by omega⟩)))⟩ (by decide) (by decide)
    · refine Go.iload (pc' := 25) d10_23 rfl rfl ?_
      exact Go.retI d10_25 rfl ⟨_, rfl, K_184, Or.inr (Or.inr (Or.inl ⟨rfl, by omega⟩))⟩ (by decide) (by decide)
  · refine Go.iload (pc' := 25) d10_23 rfl rfl ?_
    exact Go.retI d10_25 rfl ⟨_, rfl, (Keep.refl _ _), Or.inr (Or.inl ⟨rfl, by omega⟩)⟩ (by decide) (by decide)
set_option maxRecDepth 65536 in
set_option maxHeartbeats 40000000 in
theorem m_c3_4 (l : Launch) (Z : State) (a0 : Array Value) (hw : ∀ d ∈ tables_1, d.before a0 Z = true) (r : Addr) (c0 c1 c2 c3 : Int32) (h0 : Heap) (n0 : Nat) (z0 : n0 ≤ h0.size)  (hR : Ary Z h0 r .char [.int c0, .int c1, .int c2, .int c3]) (hc0 : 0 ≤ c0.toInt ∧ c0.toInt < 65536) (hc1 : 0 ≤ c1.toInt ∧ c1.toInt < 65536) (hc2 : 0 ≤ c2.toInt ∧ c2.toInt < 65536) (hc3 : 0 ≤ c3.toInt ∧ c3.toInt < 65536) (hd0 : c0.toInt < 256) (hd1 : c1.toInt < 256) (hd2 : c2.toInt < 256) (hd3 : c3.toInt < 256) : Mt .n l Z (⟨"java/lang/StringUTF16", "compress", "([CII)[B"⟩ : MethodName) jdk_52_method_16_code 6 (some (.array .byte)) ({ frames := 3, cells := 2, slots := 12, locals := 40 } : Room) n0 (fun v h => ∃ o : Addr, v = some (.ref o) ∧ Keep h0 h [] ∧ h0.size ≤ o ∧ o < h.size ∧ ((∃ b0 b1 b2 b3 : Int32, Ary Z h o .byte [.int b0, .int b1, .int b2, .int b3] ∧ b0.toInt % 256 = c0.toInt ∧ b1.toInt % 256 = c1.toInt ∧ b2.toInt % 256 = c2.toInt ∧ b3.toInt % 256 = c3.toInt))) h0 #[(.ref r), (.int (0 : Int32)), (.int (4 : Int32))] := by
  refine Mt.go (Ls := #[.val (.ref r), .val (.int (0 : Int32)), .val (.int (4 : Int32)), .unset, .unset, .unset]) (by first | exact plainFor_of_name (by decide +kernel) | decide +kernel | (simp [plainFor]; done)) (fun m => by first | (simp [entryFrame, mkF, argsToLocals, Value.category]; done) | rfl) ?_
  show (Go .n l ({ frames := 3, cells := 2, slots := 12, locals := 40 } : Room) Z (⟨"java/lang/StringUTF16", "compress", "([CII)[B"⟩ : MethodName) jdk_52_method_16_code 6 (some (.array .byte)) n0 2 12 (fun v h => ∃ o : Addr, v = some (.ref o) ∧ Keep h0 h [] ∧ h0.size ≤ o ∧ o < h.size ∧ ((∃ b0 b1 b2 b3 : Int32, Ary Z h o .byte [.int b0, .int b1, .int b2, .int b3] ∧ b0.toInt % 256 = c0.toInt ∧ b1.toInt % 256 = c1.toInt ∧ b2.toInt % 256 = c2.toInt ∧ b3.toInt % 256 = c3.toInt)))) h0 0 0 0 #[.val (.ref r), .val (.int (0 : Int32)), .val (.int (4 : Int32)), .unset, .unset, .unset] []
  refine Go.iloadN (pc' := 1) d9_0 rfl rfl ?_
  refine Go.newA (pc' := 3) (k := 4) (ty := .byte) (cap := 4) (hw _ (List.mem_of_getElem? (i := 21) rfl)) rfl rfl (by decide) (by decide) d9_1 (by decide) (by decide) rfl ?_
  intro h_225 a_226 q_227 E_228 A_229
  have n_231 : r ≠ a_226 := Nat.ne_of_lt (q_227 ▸ hR.lt)
  have g_232 : n0 ≤ a_226 := q_227 ▸ z0
  have g_233 : h0.size ≤ a_226 := q_227 ▸ (Nat.le_refl _)
  have f_234 : Ary Z h_225 r .char [(.int c0), (.int c1), (.int c2), (.int c3)] := hR.sm (Sm.ext E_228)
  have t_235 : r < h_225.size := Nat.lt_of_lt_of_le hR.lt E_228.1
  have z_236 : n0 ≤ h_225.size := Nat.le_trans z0 E_228.1
  have b_237 : h0.size ≤ h_225.size := Nat.le_trans (Nat.le_refl _) E_228.1
  have K_238 : Keep h0 h_225 [] := (Keep.refl _ _).ext E_228
  have t_239 : a_226 < h_225.size := A_229.lt
  change Ary Z h_225 a_226 .byte [(.int (0 : Int32)), (.int (0 : Int32)), (.int (0 : Int32)), (.int (0 : Int32))] at A_229
  refine Go.astoreN (pc' := 4) (Ls' := #[.val (.ref r), .val (.int (0 : Int32)), .val (.int (4 : Int32)), .val (.ref a_226), .unset, .unset]) d9_3 rfl rfl rfl ?_
  refine Go.aloadN (pc' := 5) d9_4 rfl rfl rfl ?_
  refine Go.iloadN (pc' := 6) d9_5 rfl rfl ?_
  refine Go.aloadN (pc' := 7) d9_6 rfl rfl rfl ?_
  refine Go.iconst (pc' := 8) (v := (0 : Int32)) d9_7 rfl rfl ?_
  refine Go.iloadN (pc' := 9) d9_8 rfl rfl ?_
  refine Go.callS (pc' := 12) (argsL := [(.ref r), (.int (0 : Int32)), (.ref a_226), (.int (0 : Int32)), (.int (4 : Int32))]) (rest := []) (W := 0) (hw _ (List.mem_of_getElem? (i := 69) rfl)) (hw _ (List.mem_of_getElem? (i := 70) rfl)) (hw _ (List.mem_of_getElem? (i := 67) rfl)) (hw _ (List.mem_of_getElem? (i := 71) rfl)) (by decide) (m_c5_4 l Z a0 hw r a_226 c0 c1 c2 c3 h_225 n0 z_236 f_234 A_229 g_232 n_231 hc0 hc1 hc2 hc3) d9_9 rfl pd0 rfl rfl (Nat.le_of_eq rfl) (by decide) (by decide) (by decide) (by decide) rfl ?_
  rintro _ h_240 ⟨q_241, rfl, K_242, hq_243⟩
  have f_244 : Ary Z h_240 r .char [(.int c0), (.int c1), (.int c2), (.int c3)] := f_234.sm (Sm.keep K_242 (ninS n_231 nin0))
  have t_246 : r < h_240.size := Nat.lt_of_lt_of_le t_235 K_242.1
  have t_247 : a_226 < h_240.size := Nat.lt_of_lt_of_le t_239 K_242.1
  have z_248 : n0 ≤ h_240.size := Nat.le_trans z_236 K_242.1
  have b_249 : h0.size ≤ h_240.size := Nat.le_trans b_237 K_242.1
  have K_250 : Keep h0 h_240 [] := K_238.trans K_242 (allS (Or.inr g_233) all0)
  show (Go .n l ({ frames := 3, cells := 2, slots := 12, locals := 40 } : Room) Z (⟨"java/lang/StringUTF16", "compress", "([CII)[B"⟩ : MethodName) jdk_52_method_16_code 6 (some (.array .byte)) n0 2 12 (fun v h => ∃ o : Addr, v = some (.ref o) ∧ Keep h0 h [] ∧ h0.size ≤ o ∧ o < h.size ∧ ((∃ b0 b1 b2 b3 : Int32, Ary Z h o .byte [.int b0, .int b1, .int b2, .int b3] ∧ b0.toInt % 256 = c0.toInt ∧ b1.toInt % 256 = c1.toInt ∧ b2.toInt % 256 = c2.toInt ∧ b3.toInt % 256 = c3.toInt)))) h_240 (0 + 1 + 0) (0 + 4 + 0) 12 #[.val (.ref r), .val (.int (0 : Int32)), .val (.int (4 : Int32)), .val (.ref a_226), .unset, .unset] [(.int q_241)]
  rcases hq_243 with ⟨b0, b1, b2, b3, rfl, A_251, e_252, e_253, e_254, e_255⟩ | ⟨rfl, hq_243⟩ | ⟨rfl, hq_243⟩ | ⟨rfl, hq_243⟩ | ⟨rfl, hq_243⟩
  · show (Go .n l ({ frames := 3, cells := 2, slots := 12, locals := 40 } : Room) Z (⟨"java/lang/StringUTF16", "compress", "([CII)[B"⟩ : MethodName) jdk_52_method_16_code 6 (some (.array .byte)) n0 2 12 (fun v h => ∃ o : Addr, v = some (.ref o) ∧ Keep h0 h [] ∧ h0.size ≤ o ∧ o < h.size ∧ ((∃ b0 b1 b2 b3 : Int32, Ary Z h o .byte [.int b0, .int b1, .int b2, .int b3] ∧ b0.toInt % 256 = c0.toInt ∧ b1.toInt % 256 = c1.toInt ∧ b2.toInt % 256 = c2.toInt ∧ b3.toInt % 256 = c3.toInt)))) h_240 (0 + 1 + 0) (0 + 4 + 0) 12 #[.val (.ref r), .val (.int (0 : Int32)), .val (.int (4 : Int32)), .val (.ref a_226), .unset, .unset] [(.int (4 : Int32))]
    refine Go.istore (pc' := 14) (Ls' := #[.val (.ref r), .val (.int (0 : Int32)), .val (.int (4 : Int32)), .val (.ref a_226), .val (.int (4 : Int32)), .unset]) d9_12 rfl rfl ?_
    refine Go.iload (pc' := 16) d9_14 rfl rfl ?_
    refine Go.iloadN (pc' := 17) d9_16 rfl rfl ?_
    refine Go.icmp (pc1 := 57) (pc2 := 20) d9_17 (by decide) (by decide) rfl (fun (c_256 : (4 : Int) = (4 : Int)) => ?_) (fun (c_256 : (4 : Int) ≠ (4 : Int)) => ?_)
    rotate_left
    · exact absurd c_256 (by decide)
    refine Go.aloadN (pc' := 58) d9_57 rfl rfl rfl ?_
    exact Go.retA d9_58 rfl rfl rfl ⟨a_226, rfl, K_250, g_233, t_247, b0, b1, b2, b3, A_251, e_252, e_253, e_254, e_255⟩ (by decide) (by decide)
  · show (Go .n l ({ frames := 3, cells := 2, slots := 12, locals := 40 } : Room) Z (⟨"java/lang/StringUTF16", "compress", "([CII)[B"⟩ : MethodName) jdk_52_method_16_code 6 (some (.array .byte)) n0 2 12 (fun v h => ∃ o : Addr, v = some (.ref o) ∧ Keep h0 h [] ∧ h0.size ≤ o ∧ o < h.size ∧ ((∃ b0 b1 b2 b3 : Int32, Ary Z h o .byte [.int b0, .int b1, .int b2, .int b3] ∧ b0.toInt % 256 = c0.toInt ∧ b1.toInt % 256 = c1.toInt ∧ b2.toInt % 256 = c2.toInt ∧ b3.toInt % 256 = c3.toInt)))) h_240 (0 + 1 + 0) (0 + 4 + 0) 12 #[.val (.ref r), .val (.int (0 : Int32)), .val (.int (4 : Int32)), .val (.ref a_226), .unset, .unset] [(.int (0 : Int32))]
    exfalso; omega
  · show (Go .n l ({ frames := 3, cells := 2, slots := 12, locals := 40 } : Room) Z (⟨"java/lang/StringUTF16", "compress", "([CII)[B"⟩ : MethodName) jdk_52_method_16_code 6 (some (.array .byte)) n0 2 12 (fun v h => ∃ o : Addr, v = some (.ref o) ∧ Keep h0 h [] ∧ h0.size ≤ o ∧ o < h.size ∧ ((∃ b0 b1 b2 b3 : Int32, Ary Z h o .byte [.int b0, .int b1, .int b2, .int b3] ∧ b0.toInt % 256 = c0.toInt ∧ b1.toInt % 256 = c1.toInt ∧ b2.toInt % 256 = c2.toInt ∧ b3.toInt % 256 = c3.toInt)))) h_240 (0 + 1 + 0) (0 + 4 + 0) 12 #[.val (.ref r), .val (.int (0 : Int32)), .val (.int (4 : Int32)), .val (.ref a_226), .unset, .unset] [(.int (1 : Int32))]
    exfalso; omega
  · show (Go .n l ({ frames := 3, cells := 2, slots := 12, locals := 40 } : Room) Z (⟨"java/lang/StringUTF16", "compress", "([CII)[B"⟩ : MethodName) jdk_52_method_16_code 6 (some (.array .byte)) n0 2 12 (fun v h => ∃ o : Addr, v = some (.ref o) ∧ Keep h0 h [] ∧ h0.size ≤ o ∧ o < h.size ∧ ((∃ b0 b1 b2 b3 : Int32, Ary Z h o .byte [.int b0, .int b1, .int b2, .int b3] ∧ b0.toInt % 256 = c0.toInt ∧ b1.toInt % 256 = c1.toInt ∧ b2.toInt % 256 = c2.toInt ∧ b3.toInt % 256 = c3.toInt)))) h_240 (0 + 1 + 0) (0 + 4 + 0) 12 #[.val (.ref r), .val (.int (0 : Int32)), .val (.int (4 : Int32)), .val (.ref a_226), .unset, .unset] [(.int (2 : Int32))]
    exfalso; omega
  · show (Go .n l ({ frames := 3, cells := 2, slots := 12, locals := 40 } : Room) Z (⟨"java/lang/StringUTF16", "compress", "([CII)[B"⟩ : MethodName) jdk_52_method_16_code 6 (some (.array .byte)) n0 2 12 (fun v h => ∃ o : Addr, v = some (.ref o) ∧ Keep h0 h [] ∧ h0.size ≤ o ∧ o < h.size ∧ ((∃ b0 b1 b2 b3 : Int32, Ary Z h o .byte [.int b0, .int b1, .int b2, .int b3] ∧ b0.toInt % 256 = c0.toInt ∧ b1.toInt % 256 = c1.toInt ∧ b2.toInt % 256 = c2.toInt ∧ b3.toInt % 256 = c3.toInt)))) h_240 (0 + 1 + 0) (0 + 4 + 0) 12 #[.val (.ref r), .val (.int (0 : Int32)), .val (.int (4 : Int32)), .val (.ref a_226), .unset, .unset] [(.int (3 : Int32))]
    exfalso; omega
set_option maxRecDepth 65536 in
set_option maxHeartbeats 40000000 in
theorem m_c5_5 (l : Launch) (Z : State) (a0 : Array Value) (hw : ∀ d ∈ tables_1, d.before a0 Z = true) (r o : Addr) (c0 c1 c2 c3 c4 : Int32) (h0 : Heap) (n0 : Nat) (z0 : n0 ≤ h0.size) (hR : Ary Z h0 r .char [.int c0, .int c1, .int c2, .int c3, .int c4]) (hA : Ary Z h0 o .byte [.int (0 : Int32), .int (0 : Int32), .int (0 : Int32), .int (0 : Int32), .int (0 : Int32)]) (hg : n0 ≤ o) (hne : r ≠ o) (hc0 : 0 ≤ c0.toInt ∧ c0.toInt < 65536) (hc1 : 0 ≤ c1.toInt ∧ c1.toInt < 65536) (hc2 : 0 ≤ c2.toInt ∧ c2.toInt < 65536) (hc3 : 0 ≤ c3.toInt ∧ c3.toInt < 65536) (hc4 : 0 ≤ c4.toInt ∧ c4.toInt < 65536) : Mt .n l Z (⟨"java/lang/StringUTF16", "compress", "([CI[BII)I"⟩ : MethodName) jdk_52_method_21_code 7 (some .int) ({ frames := 0, cells := 0, slots := 0, locals := 0 } : Room) n0 (fun v h => ∃ q : Int32, v = some (.int q) ∧ Keep h0 h [o] ∧ ((∃ b0 b1 b2 b3 b4 : Int32, q = (5 : Int32) ∧ Ary Z h o .byte [.int b0, .int b1, .int b2, .int b3, .int b4] ∧ b0.toInt % 256 = c0.toInt ∧ b1.toInt % 256 = c1.toInt ∧ b2.toInt % 256 = c2.toInt ∧ b3.toInt % 256 = c3.toInt ∧ b4.toInt % 256 = c4.toInt) ∨ ((q = (0 : Int32) ∧ 255 < c0.toInt) ∨ (q = (1 : Int32) ∧ 255 < c1.toInt) ∨ (q = (2 : Int32) ∧ 255 < c2.toInt) ∨ (q = (3 : Int32) ∧ 255 < c3.toInt) ∨ (q = (4 : Int32) ∧ 255 < c4.toInt)))) h0 #[(.ref r), (.int (0 : Int32)), (.ref o), (.int (0 : Int32)), (.int (5 : Int32))] := by
  refine Mt.go (Ls := #[.val (.ref r), .val (.int (0 : Int32)), .val (.ref o), .val (.int (0 : Int32)), .val (.int (5 : Int32)), .unset, .unset]) (by first | exact plainFor_of_name (by decide +kernel) | decide +kernel | (simp [plainFor]; done)) (fun m => by first | (simp [entryFrame, mkF, argsToLocals, Value.category]; done) | rfl) ?_
  show (Go .n l ({ frames := 0, cells := 0, slots := 0, locals := 0 } : Room) Z (⟨"java/lang/StringUTF16", "compress", "([CI[BII)I"⟩ : MethodName) jdk_52_method_21_code 7 (some .int) n0 0 0 (fun v h => ∃ q : Int32, v = some (.int q) ∧ Keep h0 h [o] ∧ ((∃ b0 b1 b2 b3 b4 : Int32, q = (5 : Int32) ∧ Ary Z h o .byte [.int b0, .int b1, .int b2, .int b3, .int b4] ∧ b0.toInt % 256 = c0.toInt ∧ b1.toInt % 256 = c1.toInt ∧ b2.toInt % 256 = c2.toInt ∧ b3.toInt % 256 = c3.toInt ∧ b4.toInt % 256 = c4.toInt) ∨ ((q = (0 : Int32) ∧ 255 < c0.toInt) ∨ (q = (1 : Int32) ∧ 255 < c1.toInt) ∨ (q = (2 : Int32) ∧ 255 < c2.toInt) ∨ (q = (3 : Int32) ∧ 255 < c3.toInt) ∨ (q = (4 : Int32) ∧ 255 < c4.toInt))))) h0 0 0 0 #[.val (.ref r), .val (.int (0 : Int32)), .val (.ref o), .val (.int (0 : Int32)), .val (.int (5 : Int32)), .unset, .unset] []
  refine Go.iconst (pc' := 1) (v := (0 : Int32)) d10_0 rfl rfl ?_
  refine Go.istore (pc' := 3) (Ls' := #[.val (.ref r), .val (.int (0 : Int32)), .val (.ref o), .val (.int (0 : Int32)), .val (.int (5 : Int32)), .val (.int (0 : Int32)), .unset]) d10_1 rfl rfl ?_
  refine Go.iload (pc' := 5) d10_3 rfl rfl ?_
  refine Go.iload (pc' := 7) d10_5 rfl rfl ?_
  refine Go.icmp (pc1 := 44) (pc2 := 10) d10_7 (by decide) (by decide) rfl (fun (c_257 : (5 : Int) ≤ (0 : Int)) => ?_) (fun (c_257 : (0 : Int) < (5 : Int)) => ?_)
  · exact absurd c_257 (by decide)
  refine Go.aloadN (pc' := 11) d10_10 rfl rfl rfl ?_
  refine Go.iloadN (pc' := 12) d10_11 rfl rfl ?_
  refine Go.ldC (pc' := 13) (k := 0) (v := (.int c0)) hR rfl rfl d10_12 rfl ?_
  refine Go.istore (pc' := 15) (Ls' := #[.val (.ref r), .val (.int (0 : Int32)), .val (.ref o), .val (.int (0 : Int32)), .val (.int (5 : Int32)), .val (.int (0 : Int32)), .val (.int c0)]) d10_13 rfl rfl ?_
  refine Go.iload (pc' := 17) d10_15 rfl rfl ?_
  refine Go.sipush (pc' := 20) (v := (255 : Int32)) d10_17 rfl rfl ?_
  refine Go.icmp (pc1 := 26) (pc2 := 23) d10_20 (by decide) (by decide) rfl (fun (c_258 : c0.toInt ≤ (255 : Int)) => ?_) (fun (c_258 : (255 : Int) < c0.toInt) => ?_)
  · refine Go.aloadN (pc' := 27) d10_26 rfl rfl rfl ?_
    refine Go.iloadN (pc' := 28) d10_27 rfl rfl ?_
    refine Go.iload (pc' := 30) d10_28 rfl rfl ?_
    refine Go.i2b (pc' := 31) d10_30 rfl ?_
    generalize eb_259 : c0.toInt8.toInt32 = b_259
    have k_260 : b_259.toInt % 256 = c0.toInt ∧ -128 ≤ b_259.toInt ∧ b_259.toInt < 128 := by
      rw [← eb_259]
      have := c_i2b c0
      have := rng32 c0.toInt8.toInt32
      have := rng32 c0
      have := hc0
      omega
    have nb_259 : nar .byte b_259 = b_259 := own_nb k_260.2
    refine Go.stB (pc' := 32) (k := 0) hA rfl (by show 0 < 5; decide) d10_31 hg rfl ?_
    intro h_261 W_262 A_263
    rw [nb_259] at W_262 A_263
    have f_264 : Ary Z h_261 r .char [(.int c0), (.int c1), (.int c2), (.int c3), (.int c4)] := hR.sm (Sm.wr W_262 hne)
    have t_265 : r < h_261.size := Nat.lt_of_lt_of_le hR.lt (Nat.le_of_eq W_262.size.symm)
    have t_266 : o < h_261.size := Nat.lt_of_lt_of_le hA.lt (Nat.le_of_eq W_262.size.symm)
    have z_267 : n0 ≤ h_261.size := Nat.le_trans z0 (Nat.le_of_eq W_262.size.symm)
    have b_268 : h0.size ≤ h_261.size := Nat.le_trans (Nat.le_refl _) (Nat.le_of_eq W_262.size.symm)
    have K_269 : Keep h0 h_261 [o] := (Keep.refl _ _).wr W_262 (Or.inl (List.mem_of_getElem? (i := 0) rfl))
    change Ary Z h_261 o .byte [(.int b_259), (.int (0 : Int32)), (.int (0 : Int32)), (.int (0 : Int32)), (.int (0 : Int32))] at A_263
    refine Go.iinc (pc' := 35) (w := (1 : Int32)) (Ls' := #[.val (.ref r), .val (.int (1 : Int32)), .val (.ref o), .val (.int (0 : Int32)), .val (.int (5 : Int32)), .val (.int (0 : Int32)), .val (.int c0)]) d10_32 rfl rfl rfl rfl ?_
    refine Go.iinc (pc' := 38) (w := (1 : Int32)) (Ls' := #[.val (.ref r), .val (.int (1 : Int32)), .val (.ref o), .val (.int (1 : Int32)), .val (.int (5 : Int32)), .val (.int (0 : Int32)), .val (.int c0)]) d10_35 rfl rfl rfl rfl ?_
    refine Go.iinc (pc' := 41) (w := (1 : Int32)) (Ls' := #[.val (.ref r), .val (.int (1 : Int32)), .val (.ref o), .val (.int (1 : Int32)), .val (.int (5 : Int32)), .val (.int (1 : Int32)), .val (.int c0)]) d10_38 rfl rfl rfl rfl ?_
    refine Go.goto (pc' := 3) d10_41 (by decide) (by decide) ?_
    refine Go.iload (pc' := 5) d10_3 rfl rfl ?_
    refine Go.iload (pc' := 7) d10_5 rfl rfl ?_
    refine Go.icmp (pc1 := 44) (pc2 := 10) d10_7 (by decide) (by decide) rfl (fun (c_270 : (5 : Int) ≤ (1 : Int)) => ?_) (fun (c_270 : (1 : Int) < (5 : Int)) => ?_)
    · exact absurd c_270 (by decide)
    refine Go.aloadN (pc' := 11) d10_10 rfl rfl rfl ?_
    refine Go.iloadN (pc' := 12) d10_11 rfl rfl ?_
    refine Go.ldC (pc' := 13) (k := 1) (v := (.int c1)) f_264 rfl rfl d10_12 rfl ?_
    refine Go.istore (pc' := 15) (Ls' := #[.val (.ref r), .val (.int (1 : Int32)), .val (.ref o), .val (.int (1 : Int32)), .val (.int (5 : Int32)), .val (.int (1 : Int32)), .val (.int c1)]) d10_13 rfl rfl ?_
    refine Go.iload (pc' := 17) d10_15 rfl rfl ?_
    refine Go.sipush (pc' := 20) (v := (255 : Int32)) d10_17 rfl rfl ?_
    refine Go.icmp (pc1 := 26) (pc2 := 23) d10_20 (by decide) (by decide) rfl (fun (c_271 : c1.toInt ≤ (255 : Int)) => ?_) (fun (c_271 : (255 : Int) < c1.toInt) => ?_)
    · refine Go.aloadN (pc' := 27) d10_26 rfl rfl rfl ?_
      refine Go.iloadN (pc' := 28) d10_27 rfl rfl ?_
      refine Go.iload (pc' := 30) d10_28 rfl rfl ?_
      refine Go.i2b (pc' := 31) d10_30 rfl ?_
      generalize eb_272 : c1.toInt8.toInt32 = b_272
      have k_273 : b_272.toInt % 256 = c1.toInt ∧ -128 ≤ b_272.toInt ∧ b_272.toInt < 128 := by
        rw [← eb_272]
        have := c_i2b c1
        have := rng32 c1.toInt8.toInt32
        have := rng32 c1
        have := hc1
        omega
      have nb_272 : nar .byte b_272 = b_272 := own_nb k_273.2
      refine Go.stB (pc' := 32) (k := 1) A_263 rfl (by show 1 < 5; decide) d10_31 hg rfl ?_
      intro h_274 W_275 A_276
      rw [nb_272] at W_275 A_276
      have f_277 : Ary Z h_274 r .char [(.int c0), (.int c1), (.int c2), (.int c3), (.int c4)] := f_264.sm (Sm.wr W_275 hne)
      have t_278 : r < h_274.size := Nat.lt_of_lt_of_le t_265 (Nat.le_of_eq W_275.size.symm)
      have t_279 : o < h_274.size := Nat.lt_of_lt_of_le t_266 (Nat.le_of_eq W_275.size.symm)
      have z_280 : n0 ≤ h_274.size := Nat.le_trans z_267 (Nat.le_of_eq W_275.size.symm)
      have b_281 : h0.size ≤ h_274.size := Nat.le_trans b_268 (Nat.le_of_eq W_275.size.symm)
      have K_282 : Keep h0 h_274 [o] := K_269.wr W_275 (Or.inl (List.mem_of_getElem? (i := 0) rfl))
      change Ary Z h_274 o .byte [(.int b_259), (.int b_272), (.int (0 : Int32)), (.int (0 : Int32)), (.int (0 : Int32))] at A_276
      refine Go.iinc (pc' := 35) (w := (2 : Int32)) (Ls' := #[.val (.ref r), .val (.int (2 : Int32)), .val (.ref o), .val (.int (1 : Int32)), .val (.int (5 : Int32)), .val (.int (1 : Int32)), .val (.int c1)]) d10_32 rfl rfl rfl rfl ?_
      refine Go.iinc (pc' := 38) (w := (2 : Int32)) (Ls' := #[.val (.ref r), .val (.int (2 : Int32)), .val (.ref o), .val (.int (2 : Int32)), .val (.int (5 : Int32)), .val (.int (1 : Int32)), .val (.int c1)]) d10_35 rfl rfl rfl rfl ?_
      refine Go.iinc (pc' := 41) (w := (2 : Int32)) (Ls' := #[.val (.ref r), .val (.int (2 : Int32)), .val (.ref o), .val (.int (2 : Int32)), .val (.int (5 : Int32)), .val (.int (2 : Int32)), .val (.int c1)]) d10_38 rfl rfl rfl rfl ?_
      refine Go.goto (pc' := 3) d10_41 (by decide) (by decide) ?_
      refine Go.iload (pc' := 5) d10_3 rfl rfl ?_
      refine Go.iload (pc' := 7) d10_5 rfl rfl ?_
      refine Go.icmp (pc1 := 44) (pc2 := 10) d10_7 (by decide) (by decide) rfl (fun (c_283 : (5 : Int) ≤ (2 : Int)) => ?_) (fun (c_283 : (2 : Int) < (5 : Int)) => ?_)
      · exact absurd c_283 (by decide)
      refine Go.aloadN (pc' := 11) d10_10 rfl rfl rfl ?_
      refine Go.iloadN (pc' := 12) d10_11 rfl rfl ?_
      refine Go.ldC (pc' := 13) (k := 2) (v := (.int c2)) f_277 rfl rfl d10_12 rfl ?_
      refine Go.istore (pc' := 15) (Ls' := #[.val (.ref r), .val (.int (2 : Int32)), .val (.ref o), .val (.int (2 : Int32)), .val (.int (5 : Int32)), .val (.int (2 : Int32)), .val (.int c2)]) d10_13 rfl rfl ?_
      refine Go.iload (pc' := 17) d10_15 rfl rfl ?_
      refine Go.sipush (pc' := 20) (v := (255 : Int32)) d10_17 rfl rfl ?_
      refine Go.icmp (pc1 := 26) (pc2 := 23) d10_20 (by decide) (by decide) rfl (fun (c_284 : c2.toInt ≤ (255 : Int)) => ?_) (fun (c_284 : (255 : Int) < c2.toInt) => ?_)
      · refine Go.aloadN (pc' := 27) d10_26 rfl rfl rfl ?_
        refine Go.iloadN (pc' := 28) d10_27 rfl rfl ?_
        refine Go.iload (pc' := 30) d10_28 rfl rfl ?_
        refine Go.i2b (pc' := 31) d10_30 rfl ?_
        generalize eb_285 : c2.toInt8.toInt32 = b_285
        have k_286 : b_285.toInt % 256 = c2.toInt ∧ -128 ≤ b_285.toInt ∧ b_285.toInt < 128 := by
          rw [← eb_285]
          have := c_i2b c2
          have := rng32 c2.toInt8.toInt32
          have := rng32 c2
          have := hc2
          omega
        have nb_285 : nar .byte b_285 = b_285 := own_nb k_286.2
        refine Go.stB (pc' := 32) (k := 2) A_276 rfl (by show 2 < 5; decide) d10_31 hg rfl ?_
        intro h_287 W_288 A_289
        rw [nb_285] at W_288 A_289
        have f_290 : Ary Z h_287 r .char [(.int c0), (.int c1), (.int c2), (.int c3), (.int c4)] := f_277.sm (Sm.wr W_288 hne)
        have t_291 : r < h_287.size := Nat.lt_of_lt_of_le t_278 (Nat.le_of_eq W_288.size.symm)
        have t_292 : o < h_287.size := Nat.lt_of_lt_of_le t_279 (Nat.le_of_eq W_288.size.symm)
        have z_293 : n0 ≤ h_287.size := Nat.le_trans z_280 (Nat.le_of_eq W_288.size.symm)
        have b_294 : h0.size ≤ h_287.size := Nat.le_trans b_281 (Nat.le_of_eq W_288.size.symm)
        have K_295 : Keep h0 h_287 [o] := K_282.wr W_288 (Or.inl (List.mem_of_getElem? (i := 0) rfl))
        change Ary Z h_287 o .byte [(.int b_259), (.int b_272), (.int b_285), (.int (0 : Int32)), (.int (0 : Int32))] at A_289
        refine Go.iinc (pc' := 35) (w := (3 : Int32)) (Ls' := #[.val (.ref r), .val (.int (3 : Int32)), .val (.ref o), .val (.int (2 : Int32)), .val (.int (5 : Int32)), .val (.int (2 : Int32)), .val (.int c2)]) d10_32 rfl rfl rfl rfl ?_
        refine Go.iinc (pc' := 38) (w := (3 : Int32)) (Ls' := #[.val (.ref r), .val (.int (3 : Int32)), .val (.ref o), .val (.int (3 : Int32)), .val (.int (5 : Int32)), .val (.int (2 : Int32)), .val (.int c2)]) d10_35 rfl rfl rfl rfl ?_
        refine Go.iinc (pc' := 41) (w := (3 : Int32)) (Ls' := #[.val (.ref r), .val (.int (3 : Int32)), .val (.ref o), .val (.int (3 : Int32)), .val (.int (5 : Int32)), .val (.int (3 : Int32)), .val (.int c2)]) d10_38 rfl rfl rfl rfl ?_
        refine Go.goto (pc' := 3) d10_41 (by decide) (by decide) ?_
        refine Go.iload (pc' := 5) d10_3 rfl rfl ?_
        refine Go.iload (pc' := 7) d10_5 rfl rfl ?_
        refine Go.icmp (pc1 := 44) (pc2 := 10) d10_7 (by decide) (by decide) rfl (fun (c_296 : (5 : Int) ≤ (3 : Int)) => ?_) (fun (c_296 : (3 : Int) < (5 : Int)) => ?_)
        · exact absurd c_296 (by decide)
        refine Go.aloadN (pc' := 11) d10_10 rfl rfl rfl ?_
        refine Go.iloadN (pc' := 12) d10_11 rfl rfl ?_
        refine Go.ldC (pc' := 13) (k := 3) (v := (.int c3)) f_290 rfl rfl d10_12 rfl ?_
        refine Go.istore (pc' := 15) (Ls' := #[.val (.ref r), .val (.int (3 : Int32)), .val (.ref o), .val (.int (3 : Int32)), .val (.int (5 : Int32)), .val (.int (3 : Int32)), .val (.int c3)]) d10_13 rfl rfl ?_
        refine Go.iload (pc' := 17) d10_15 rfl rfl ?_
        refine Go.sipush (pc' := 20) (v := (255 : Int32)) d10_17 rfl rfl ?_
        refine Go.icmp (pc1 := 26) (pc2 := 23) d10_20 (by decide) (by decide) rfl (fun (c_297 : c3.toInt ≤ (255 : Int)) => ?_) (fun (c_297 : (255 : Int) < c3.toInt) => ?_)
        · refine Go.aloadN (pc' := 27) d10_26 rfl rfl rfl ?_
          refine Go.iloadN (pc' := 28) d10_27 rfl rfl ?_
          refine Go.iload (pc' := 30) d10_28 rfl rfl ?_
          refine Go.i2b (pc' := 31) d10_30 rfl ?_
          generalize eb_298 : c3.toInt8.toInt32 = b_298
          have k_299 : b_298.toInt % 256 = c3.toInt ∧ -128 ≤ b_298.toInt ∧ b_298.toInt < 128 := by
            rw [← eb_298]
            have := c_i2b c3
            have := rng32 c3.toInt8.toInt32
            have := rng32 c3
            have := hc3
            omega
          have nb_298 : nar .byte b_298 = b_298 := own_nb k_299.2
          refine Go.stB (pc' := 32) (k := 3) A_289 rfl (by show 3 < 5; decide) d10_31 hg rfl ?_
          intro h_300 W_301 A_302
          rw [nb_298] at W_301 A_302
          have f_303 : Ary Z h_300 r .char [(.int c0), (.int c1), (.int c2), (.int c3), (.int c4)] := f_290.sm (Sm.wr W_301 hne)
          have t_304 : r < h_300.size := Nat.lt_of_lt_of_le t_291 (Nat.le_of_eq W_301.size.symm)
          have t_305 : o < h_300.size := Nat.lt_of_lt_of_le t_292 (Nat.le_of_eq W_301.size.symm)
          have z_306 : n0 ≤ h_300.size := Nat.le_trans z_293 (Nat.le_of_eq W_301.size.symm)
          have b_307 : h0.size ≤ h_300.size := Nat.le_trans b_294 (Nat.le_of_eq W_301.size.symm)
          have K_308 : Keep h0 h_300 [o] := K_295.wr W_301 (Or.inl (List.mem_of_getElem? (i := 0) rfl))
          change Ary Z h_300 o .byte [(.int b_259), (.int b_272), (.int b_285), (.int b_298), (.int (0 : Int32))] at A_302
          refine Go.iinc (pc' := 35) (w := (4 : Int32)) (Ls' := #[.val (.ref r), .val (.int (4 : Int32)), .val (.ref o), .val (.int (3 : Int32)), .val (.int (5 : Int32)), .val (.int (3 : Int32)), .val (.int c3)]) d10_32 rfl rfl rfl rfl ?_
          refine Go.iinc (pc' := 38) (w := (4 : Int32)) (Ls' := #[.val (.ref r), .val (.int (4 : Int32)), .val (.ref o), .val (.int (4 : Int32)), .val (.int (5 : Int32)), .val (.int (3 : Int32)), .val (.int c3)]) d10_35 rfl rfl rfl rfl ?_
          refine Go.iinc (pc' := 41) (w := (4 : Int32)) (Ls' := #[.val (.ref r), .val (.int (4 : Int32)), .val (.ref o), .val (.int (4 : Int32)), .val (.int (5 : Int32)), .val (.int (4 : Int32)), .val (.int c3)]) d10_38 rfl rfl rfl rfl ?_
          refine Go.goto (pc' := 3) d10_41 (by decide) (by decide) ?_
          refine Go.iload (pc' := 5) d10_3 rfl rfl ?_
          refine Go.iload (pc' := 7) d10_5 rfl rfl ?_
          refine Go.icmp (pc1 := 44) (pc2 := 10) d10_7 (by decide) (by decide) rfl (fun (c_309 : (5 : Int) ≤ (4 : Int)) => ?_) (fun (c_309 : (4 : Int) < (5 : Int)) => ?_)
          · exact absurd c_309 (by decide)
          refine Go.aloadN (pc' := 11) d10_10 rfl rfl rfl ?_
          refine Go.iloadN (pc' := 12) d10_11 rfl rfl ?_
          refine Go.ldC (pc' := 13) (k := 4) (v := (.int c4)) f_303 rfl rfl d10_12 rfl ?_
          refine Go.istore (pc' := 15) (Ls' := #[.val (.ref r), .val (.int (4 : Int32)), .val (.ref o), .val (.int (4 : Int32)), .val (.int (5 : Int32)), .val (.int (4 : Int32)), .val (.int c4)]) d10_13 rfl rfl ?_
          refine Go.iload (pc' := 17) d10_15 rfl rfl ?_
          refine Go.sipush (pc' := 20) (v := (255 : Int32)) d10_17 rfl rfl ?_
          refine Go.icmp (pc1 := 26) (pc2 := 23) d10_20 (by decide) (by decide) rfl (fun (c_310 : c4.toInt ≤ (255 : Int)) => ?_) (fun (c_310 : (255 : Int) < c4.toInt) => ?_)
          · refine Go.aloadN (pc' := 27) d10_26 rfl rfl rfl ?_
            refine Go.iloadN (pc' := 28) d10_27 rfl rfl ?_
            refine Go.iload (pc' := 30) d10_28 rfl rfl ?_
            refine Go.i2b (pc' := 31) d10_30 rfl ?_
            generalize eb_311 : c4.toInt8.toInt32 = b_311
            have k_312 : b_311.toInt % 256 = c4.toInt ∧ -128 ≤ b_311.toInt ∧ b_311.toInt < 128 := by
              rw [← eb_311]
              have := c_i2b c4
              have := rng32 c4.toInt8.toInt32
              have := rng32 c4
              have := hc4
              omega
            have nb_311 : nar .byte b_311 = b_311 := own_nb k_312.2
            refine Go.stB (pc' := 32) (k := 4) A_302 rfl (by show 4 < 5; decide) d10_31 hg rfl ?_
            intro h_313 W_314 A_315
            rw [nb_311] at W_314 A_315
            have f_316 : Ary Z h_313 r .char [(.int c0), (.int c1), (.int c2), (.int c3), (.int c4)] := f_303.sm (Sm.wr W_314 hne)
            have t_317 : r < h_313.size := Nat.lt_of_lt_of_le t_304 (Nat.le_of_eq W_314.size.symm)
            have t_318 : o < h_313.size := Nat.lt_of_lt_of_le t_305 (Nat.le_of_eq W_314.size.symm)
            have z_319 : n0 ≤ h_313.size := Nat.le_trans z_306 (Nat.le_of_eq W_314.size.symm)
            have b_320 : h0.size ≤ h_313.size := Nat.le_trans b_307 (Nat.le_of_eq W_314.size.symm)
            have K_321 : Keep h0 h_313 [o] := K_308.wr W_314 (Or.inl (List.mem_of_getElem? (i := 0) rfl))
            change Ary Z h_313 o .byte [(.int b_259), (.int b_272), (.int b_285), (.int b_298), (.int b_311)] at A_315
            refine Go.iinc (pc' := 35) (w := (5 : Int32)) (Ls' := #[.val (.ref r), .val (.int (5 : Int32)), .val (.ref o), .val (.int (4 : Int32)), .val (.int (5 : Int32)), .val (.int (4 : Int32)), .val (.int c4)]) d10_32 rfl rfl rfl rfl ?_
            refine Go.iinc (pc' := 38) (w := (5 : Int32)) (Ls' := #[.val (.ref r), .val (.int (5 : Int32)), .val (.ref o), .val (.int (5 : Int32)), .val (.int (5 : Int32)), .val (.int (4 : Int32)), .val (.int c4)]) d10_35 rfl rfl rfl rfl ?_
            refine Go.iinc (pc' := 41) (w := (5 : Int32)) (Ls' := #[.val (.ref r), .val (.int (5 : Int32)), .val (.ref o), .val (.int (5 : Int32)), .val (.int (5 : Int32)), .val (.int (5 : Int32)), .val (.int c4)]) d10_38 rfl rfl rfl rfl ?_
            refine Go.goto (pc' := 3) d10_41 (by decide) (by decide) ?_
            refine Go.iload (pc' := 5) d10_3 rfl rfl ?_
            refine Go.iload (pc' := 7) d10_5 rfl rfl ?_
            refine Go.icmp (pc1 := 44) (pc2 := 10) d10_7 (by decide) (by decide) rfl (fun (c_322 : (5 : Int) ≤ (5 : Int)) => ?_) (fun (c_322 : (5 : Int) < (5 : Int)) => ?_)
            rotate_left
            · exact absurd c_322 (by decide)
            refine Go.iload (pc' := 46) d10_44 rfl rfl ?_
            exact Go.retI d10_46 rfl ⟨_, rfl, K_321, Or.inl ⟨b_259, b_272, b_285, b_298, b_311, rfl, A_315, k_260.1, k_273.1, k_286.1, k_299.1, k_312.1⟩⟩ (by decide) (by decide)
          · refine Go.iload (pc' := 25) d10_23 rfl rfl ?_
            exact Go.retI d10_25 rfl ⟨_, rfl, K_308, Or.inr (Or.inr (Or.inr (Or.inr (Or.inr (⟨rfl, by omega⟩)))))⟩ (by decide) (by decide)
        · refine Go.iload (pc' := 25) d10_23 rfl rfl ?_
          exact Go.retI d10_25 rfl ⟨_, rfl, K_295, Or.inr (Or.inr (Or.inr (Or.inr (Or.inl ⟨rfl, by omega⟩))))⟩ (by decide) (by decide)
      · refine Go.iload (pc' := 25) d10_23 rfl rfl ?_
        exact Go.retI d10_25 rfl ⟨_, rfl, K_282, Or.inr (Or.inr (Or.inr (Or.inl ⟨rfl, by omega⟩)))⟩ (by decide) (by decide)
    · refine Go.iload (pc' := 25) d10_23 rfl rfl ?_
      exact Go.retI d10_25 rfl ⟨_, rfl, K_269, Or.inr (Or.inr (Or.inl ⟨rfl, by omega⟩))⟩ (by decide) (by decide)
  · refine Go.iload (pc' := 25) d10_23 rfl rfl ?_
    exact Go.retI d10_25 rfl ⟨_, rfl, (Keep.refl _ _), Or.inr (Or.inl ⟨rfl, by omega⟩)⟩ (by decide) (by decide)
set_option maxRecDepth 65536 in
set_option maxHeartbeats 40000000 in
theorem m_c3_5 (l : Launch) (Z : State) (a0 : Array Value) (hw : ∀ d ∈ tables_1, d.before a0 Z = true) (r : Addr) (c0 c1 c2 c3 c4 : Int32) (h0 : Heap) (n0 : Nat) (z0 : n0 ≤ h0.size)  (hR : Ary Z h0 r .char [.int c0, .int c1, .int c2, .int c3, .int c4]) (hc0 : 0 ≤ c0.toInt ∧ c0.toInt < 65536) (hc1 : 0 ≤ c1.toInt ∧ c1.toInt < 65536) (hc2 : 0 ≤ c2.toInt ∧ c2.toInt < 65536) (hc3 : 0 ≤ c3.toInt ∧ c3.toInt < 65536) (hc4 : 0 ≤ c4.toInt ∧ c4.toInt < 65536) (hd0 : c0.toInt < 256) (hd1 : c1.toInt < 256) (hd2 : c2.toInt < 256) (hd3 : c3.toInt < 256) (hd4 : c4.toInt < 256) : Mt .n l Z (⟨"java/lang/StringUTF16", "compress", "([CII)[B"⟩ : MethodName) jdk_52_method_16_code 6 (some (.array .byte)) ({ frames := 3, cells := 2, slots := 15, locals := 40 } : Room) n0 (fun v h => ∃ o : Addr, v = some (.ref o) ∧ Keep h0 h [] ∧ h0.size ≤ o ∧ o < h.size ∧ ((∃ b0 b1 b2 b3 b4 : Int32, Ary Z h o .byte [.int b0, .int b1, .int b2, .int b3, .int b4] ∧ b0.toInt % 256 = c0.toInt ∧ b1.toInt % 256 = c1.toInt ∧ b2.toInt % 256 = c2.toInt ∧ b3.toInt % 256 = c3.toInt ∧ b4.toInt % 256 = c4.toInt))) h0 #[(.ref r), (.int (0 : Int32)), (.int (5 : Int32))] := by
  refine Mt.go (Ls := #[.val (.ref r), .val (.int (0 : Int32)), .val (.int (5 : Int32)), .unset, .unset, .unset]) (by first | exact plainFor_of_name (by decide +kernel) | decide +kernel | (simp [plainFor]; done)) (fun m => by first | (simp [entryFrame, mkF, argsToLocals, Value.category]; done) | rfl) ?_
  show (Go .n l ({ frames := 3, cells := 2, slots := 15, locals := 40 } : Room) Z (⟨"java/lang/StringUTF16", "compress", "([CII)[B"⟩ : MethodName) jdk_52_method_16_code 6 (some (.array .byte)) n0 2 15 (fun v h => ∃ o : Addr, v = some (.ref o) ∧ Keep h0 h [] ∧ h0.size ≤ o ∧ o < h.size ∧ ((∃ b0 b1 b2 b3 b4 : Int32, Ary Z h o .byte [.int b0, .int b1, .int b2, .int b3, .int b4] ∧ b0.toInt % 256 = c0.toInt ∧ b1.toInt % 256 = c1.toInt ∧ b2.toInt % 256 = c2.toInt ∧ b3.toInt % 256 = c3.toInt ∧ b4.toInt % 256 = c4.toInt)))) h0 0 0 0 #[.val (.ref r), .val (.int (0 : Int32)), .val (.int (5 : Int32)), .unset, .unset, .unset] []
  refine Go.iloadN (pc' := 1) d9_0 rfl rfl ?_
  refine Go.newA (pc' := 3) (k := 5) (ty := .byte) (cap := 5) (hw _ (List.mem_of_getElem? (i := 21) rfl)) rfl rfl (by decide) (by decide) d9_1 (by decide) (by decide) rfl ?_
  intro h_323 a_324 q_325 E_326 A_327
  have n_329 : r ≠ a_324 := Nat.ne_of_lt (q_325 ▸ hR.lt)
  have g_330 : n0 ≤ a_324 := q_325 ▸ z0
  have g_331 : h0.size ≤ a_324 := q_325 ▸ (Nat.le_refl _)
  have f_332 : Ary Z h_323 r .char [(.int c0), (.int c1), (.int c2), (.int c3), (.int c4)] := hR.sm (Sm.ext E_326)
  have t_333 : r < h_323.size := Nat.lt_of_lt_of_le hR.lt E_326.1
  have z_334 : n0 ≤ h_323.size := Nat.le_trans z0 E_326.1
  have b_335 : h0.size ≤ h_323.size := Nat.le_trans (Nat.le_refl _) E_326.1
  have K_336 : Keep h0 h_323 [] := (Keep.refl _ _).ext E_326
  have t_337 : a_324 < h_323.size := A_327.lt
  change Ary Z h_323 a_324 .byte [(.int (0 : Int32)), (.int (0 : Int32)), (.int (0 : Int32)), (.int (0 : Int32)), (.int (0 : Int32))] at A_327
  refine Go.astoreN (pc' := 4) (Ls' := #[.val (.ref r), .val (.int (0 : Int32)), .val (.int (5 : Int32)), .val (.ref a_324), .unset, .unset]) d9_3 rfl rfl rfl ?_
  refine Go.aloadN (pc' := 5) d9_4 rfl rfl rfl ?_
  refine Go.iloadN (pc' := 6) d9_5 rfl rfl ?_
  refine Go.aloadN (pc' := 7) d9_6 rfl rfl rfl ?_
  refine Go.iconst (pc' := 8) (v := (0 : Int32)) d9_7 rfl rfl ?_
  refine Go.iloadN (pc' := 9) d9_8 rfl rfl ?_
  refine Go.callS (pc' := 12) (argsL := [(.ref r), (.int (0 : Int32)), (.ref a_324), (.int (0 : Int32)), (.int (5 : Int32))]) (rest := []) (W := 0) (hw _ (List.mem_of_getElem? (i := 69) rfl)) (hw _ (List.mem_of_getElem? (i := 70) rfl)) (hw _ (List.mem_of_getElem? (i := 67) rfl)) (hw _ (List.mem_of_getElem? (i := 71) rfl)) (by decide) (m_c5_5 l Z a0 hw r a_324 c0 c1 c2 c3 c4 h_323 n0 z_334 f_332 A_327 g_330 n_329 hc0 hc1 hc2 hc3 hc4) d9_9 rfl pd0 rfl rfl (Nat.le_of_eq rfl) (by decide) (by decide) (by decide) (by decide) rfl ?_
  rintro _ h_338 ⟨q_339, rfl, K_340, hq_341⟩
  have f_342 : Ary Z h_338 r .char [(.int c0), (.int c1), (.int c2), (.int c3), (.int c4)] := f_332.sm (Sm.keep K_340 (ninS n_329 nin0))
  have t_344 : r < h_338.size := Nat.lt_of_lt_of_le t_333 K_340.1
  have t_345 : a_324 < h_338.size := Nat.lt_of_lt_of_le t_337 K_340.1
  have z_346 : n0 ≤ h_338.size := Nat.le_trans z_334 K_340.1
  have b_347 : h0.size ≤ h_338.size := Nat.le_trans b_335 K_340.1
  have K_348 : Keep h0 h_338 [] := K_336.trans K_340 (allS (Or.inr g_331) all0)
  show (Go .n l ({ frames := 3, cells := 2, slots := 15, locals := 40 } : Room) Z (⟨"java/lang/StringUTF16", "compress", "([CII)[B"⟩ : MethodName) jdk_52_method_16_code 6 (some (.array .byte)) n0 2 15 (fun v h => ∃ o : Addr, v = some (.ref o) ∧ Keep h0 h [] ∧ h0.size ≤ o ∧ o < h.size ∧ ((∃ b0 b1 b2 b3 b4 : Int32, Ary Z h o .byte [.int b0, .int b1, .int b2, .int b3, .int b4] ∧ b0.toInt % 256 = c0.toInt ∧ b1.toInt % 256 = c1.toInt ∧ b2.toInt % 256 = c2.toInt ∧ b3.toInt % 256 = c3.toInt ∧ b4.toInt % 256 = c4.toInt)))) h_338 (0 + 1 + 0) (0 + 5 + 0) 12 #[.val (.ref r), .val (.int (0 : Int32)), .val (.int (5 : Int32)), .val (.ref a_324), .unset, .unset] [(.int q_339)]
  rcases hq_341 with ⟨b0, b1, b2, b3, b4, rfl, A_349, e_350, e_351, e_352, e_353, e_354⟩ | ⟨rfl, hq_341⟩ | ⟨rfl, hq_341⟩ | ⟨rfl, hq_341⟩ | ⟨rfl, hq_341⟩ | ⟨rfl, hq_341⟩
  · show (Go .n l ({ frames := 3, cells := 2, slots := 15, locals := 40 } : Room) Z (⟨"java/lang/StringUTF16", "compress", "([CII)[B"⟩ : MethodName) jdk_52_method_16_code 6 (some (.array .byte)) n0 2 15 (fun v h => ∃ o : Addr, v = some (.ref o) ∧ Keep h0 h [] ∧ h0.size ≤ o ∧ o < h.size ∧ ((∃ b0 b1 b2 b3 b4 : Int32, Ary Z h o .byte [.int b0, .int b1, .int b2, .int b3, .int b4] ∧ b0.toInt % 256 = c0.toInt ∧ b1.toInt % 256 = c1.toInt ∧ b2.toInt % 256 = c2.toInt ∧ b3.toInt % 256 = c3.toInt ∧ b4.toInt % 256 = c4.toInt)))) h_338 (0 + 1 + 0) (0 + 5 + 0) 12 #[.val (.ref r), .val (.int (0 : Int32)), .val (.int (5 : Int32)), .val (.ref a_324), .unset, .unset] [(.int (5 : Int32))]
    refine Go.istore (pc' := 14) (Ls' := #[.val (.ref r), .val (.int (0 : Int32)), .val (.int (5 : Int32)), .val (.ref a_324), .val (.int (5 : Int32)), .unset]) d9_12 rfl rfl ?_
    refine Go.iload (pc' := 16) d9_14 rfl rfl ?_
    refine Go.iloadN (pc' := 17) d9_16 rfl rfl ?_
    refine Go.icmp (pc1 := 57) (pc2 := 20) d9_17 (by decide) (by decide) rfl (fun (c_355 : (5 : Int) = (5 : Int)) => ?_) (fun (c_355 : (5 : Int) ≠ (5 : Int)) => ?_)
    rotate_left
    · exact absurd c_355 (by decide)
    refine Go.aloadN (pc' := 58) d9_57 rfl rfl rfl ?_
    exact Go.retA d9_58 rfl rfl rfl ⟨a_324, rfl, K_348, g_331, t_345, b0, b1, b2, b3, b4, A_349, e_350, e_351, e_352, e_353, e_354⟩ (by decide) (by decide)
  · show (Go .n l ({ frames := 3, cells := 2, slots := 15, locals := 40 } : Room) Z (⟨"java/lang/StringUTF16", "compress", "([CII)[B"⟩ : MethodName) jdk_52_method_16_code 6 (some (.array .byte)) n0 2 15 (fun v h => ∃ o : Addr, v = some (.ref o) ∧ Keep h0 h [] ∧ h0.size ≤ o ∧ o < h.size ∧ ((∃ b0 b1 b2 b3 b4 : Int32, Ary Z h o .byte [.int b0, .int b1, .int b2, .int b3, .int b4] ∧ b0.toInt % 256 = c0.toInt ∧ b1.toInt % 256 = c1.toInt ∧ b2.toInt % 256 = c2.toInt ∧ b3.toInt % 256 = c3.toInt ∧ b4.toInt % 256 = c4.toInt)))) h_338 (0 + 1 + 0) (0 + 5 + 0) 12 #[.val (.ref r), .val (.int (0 : Int32)), .val (.int (5 : Int32)), .val (.ref a_324), .unset, .unset] [(.int (0 : Int32))]
    exfalso; omega
  · show (Go .n l ({ frames := 3, cells := 2, slots := 15, locals := 40 } : Room) Z (⟨"java/lang/StringUTF16", "compress", "([CII)[B"⟩ : MethodName) jdk_52_method_16_code 6 (some (.array .byte)) n0 2 15 (fun v h => ∃ o : Addr, v = some (.ref o) ∧ Keep h0 h [] ∧ h0.size ≤ o ∧ o < h.size ∧ ((∃ b0 b1 b2 b3 b4 : Int32, Ary Z h o .byte [.int b0, .int b1, .int b2, .int b3, .int b4] ∧ b0.toInt % 256 = c0.toInt ∧ b1.toInt % 256 = c1.toInt ∧ b2.toInt % 256 = c2.toInt ∧ b3.toInt % 256 = c3.toInt ∧ b4.toInt % 256 = c4.toInt)))) h_338 (0 + 1 + 0) (0 + 5 + 0) 12 #[.val (.ref r), .val (.int (0 : Int32)), .val (.int (5 : Int32)), .val (.ref a_324), .unset, .unset] [(.int (1 : Int32))]
    exfalso; omega
  · show (Go .n l ({ frames := 3, cells := 2, slots := 15, locals := 40 } : Room) Z (⟨"java/lang/StringUTF16", "compress", "([CII)[B"⟩ : MethodName) jdk_52_method_16_code 6 (some (.array .byte)) n0 2 15 (fun v h => ∃ o : Addr, v = some (.ref o) ∧ Keep h0 h [] ∧ h0.size ≤ o ∧ o < h.size ∧ ((∃ b0 b1 b2 b3 b4 : Int32, Ary Z h o .byte [.int b0, .int b1, .int b2, .int b3, .int b4] ∧ b0.toInt % 256 = c0.toInt ∧ b1.toInt % 256 = c1.toInt ∧ b2.toInt % 256 = c2.toInt ∧ b3.toInt % 256 = c3.toInt ∧ b4.toInt % 256 = c4.toInt)))) h_338 (0 + 1 + 0) (0 + 5 + 0) 12 #[.val (.ref r), .val (.int (0 : Int32)), .val (.int (5 : Int32)), .val (.ref a_324), .unset, .unset] [(.int (2 : Int32))]
    exfalso; omega
  · show (Go .n l ({ frames := 3, cells := 2, slots := 15, locals := 40 } : Room) Z (⟨"java/lang/StringUTF16", "compress", "([CII)[B"⟩ : MethodName) jdk_52_method_16_code 6 (some (.array .byte)) n0 2 15 (fun v h => ∃ o : Addr, v = some (.ref o) ∧ Keep h0 h [] ∧ h0.size ≤ o ∧ o < h.size ∧ ((∃ b0 b1 b2 b3 b4 : Int32, Ary Z h o .byte [.int b0, .int b1, .int b2, .int b3, .int b4] ∧ b0.toInt % 256 = c0.toInt ∧ b1.toInt % 256 = c1.toInt ∧ b2.toInt % 256 = c2.toInt ∧ b3.toInt % 256 = c3.toInt ∧ b4.toInt % 256 = c4.toInt)))) h_338 (0 + 1 + 0) (0 + 5 + 0) 12 #[.val (.ref r), .val (.int (0 : Int32)), .val (.int (5 : Int32)), .val (.ref a_324), .unset, .unset] [(.int (3 : Int32))]
    exfalso; omega
  · show (Go .n l ({ frames := 3, cells := 2, slots := 15, locals := 40 } : Room) Z (⟨"java/lang/StringUTF16", "compress", "([CII)[B"⟩ : MethodName) jdk_52_method_16_code 6 (some (.array .byte)) n0 2 15 (fun v h => ∃ o : Addr, v = some (.ref o) ∧ Keep h0 h [] ∧ h0.size ≤ o ∧ o < h.size ∧ ((∃ b0 b1 b2 b3 b4 : Int32, Ary Z h o .byte [.int b0, .int b1, .int b2, .int b3, .int b4] ∧ b0.toInt % 256 = c0.toInt ∧ b1.toInt % 256 = c1.toInt ∧ b2.toInt % 256 = c2.toInt ∧ b3.toInt % 256 = c3.toInt ∧ b4.toInt % 256 = c4.toInt)))) h_338 (0 + 1 + 0) (0 + 5 + 0) 12 #[.val (.ref r), .val (.int (0 : Int32)), .val (.int (5 : Int32)), .val (.ref a_324), .unset, .unset] [(.int (4 : Int32))]
    exfalso; omega
set_option maxRecDepth 65536 in
set_option maxHeartbeats 40000000 in
theorem m_c5_6 (l : Launch) (Z : State) (a0 : Array Value) (hw : ∀ d ∈ tables_1, d.before a0 Z = true) (r o : Addr) (c0 c1 c2 c3 c4 c5 : Int32) (h0 : Heap) (n0 : Nat) (z0 : n0 ≤ h0.size) (hR : Ary Z h0 r .char [.int c0, .int c1, .int c2, .int c3, .int c4, .int c5]) (hA : Ary Z h0 o .byte [.int (0 : Int32), .int (0 : Int32), .int (0 : Int32), .int (0 : Int32), .int (0 : Int32), .int (0 : Int32)]) (hg : n0 ≤ o) (hne : r ≠ o) (hc0 : 0 ≤ c0.toInt ∧ c0.toInt < 65536) (hc1 : 0 ≤ c1.toInt ∧ c1.toInt < 65536) (hc2 : 0 ≤ c2.toInt ∧ c2.toInt < 65536) (hc3 : 0 ≤ c3.toInt ∧ c3.toInt < 65536) (hc4 : 0 ≤ c4.toInt ∧ c4.toInt < 65536) (hc5 : 0 ≤ c5.toInt ∧ c5.toInt < 65536) : Mt .n l Z (⟨"java/lang/StringUTF16", "compress", "([CI[BII)I"⟩ : MethodName) jdk_52_method_21_code 7 (some .int) ({ frames := 0, cells := 0, slots := 0, locals := 0 } : Room) n0 (fun v h => ∃ q : Int32, v = some (.int q) ∧ Keep h0 h [o] ∧ ((∃ b0 b1 b2 b3 b4 b5 : Int32, q = (6 : Int32) ∧ Ary Z h o .byte [.int b0, .int b1, .int b2, .int b3, .int b4, .int b5] ∧ b0.toInt % 256 = c0.toInt ∧ b1.toInt % 256 = c1.toInt ∧ b2.toInt % 256 = c2.toInt ∧ b3.toInt % 256 = c3.toInt ∧ b4.toInt % 256 = c4.toInt ∧ b5.toInt % 256 = c5.toInt) ∨ ((q = (0 : Int32) ∧ 255 < c0.toInt) ∨ (q = (1 : Int32) ∧ 255 < c1.toInt) ∨ (q = (2 : Int32) ∧ 255 < c2.toInt) ∨ (q = (3 : Int32) ∧ 255 < c3.toInt) ∨ (q = (4 : Int32) ∧ 255 < c4.toInt) ∨ (q = (5 : Int32) ∧ 255 < c5.toInt)))) h0 #[(.ref r), (.int (0 : Int32)), (.ref o), (.int (0 : Int32)), (.int (6 : Int32))] := by
  refine Mt.go (Ls := #[.val (.ref r), .val (.int (0 : Int32)), .val (.ref o), .val (.int (0 : Int32)), .val (.int (6 : Int32)), .unset, .unset]) (by first | exact plainFor_of_name (by decide +kernel) | decide +kernel | (simp [plainFor]; done)) (fun m => by first | (simp [entryFrame, mkF, argsToLocals, Value.category]; done) | rfl) ?_
  show (Go .n l ({ frames := 0, cells := 0, slots := 0, locals := 0 } : Room) Z (⟨"java/lang/StringUTF16", "compress", "([CI[BII)I"⟩ : MethodName) jdk_52_method_21_code 7 (some .int) n0 0 0 (fun v h => ∃ q : Int32, v = some (.int q) ∧ Keep h0 h [o] ∧ ((∃ b0 b1 b2 b3 b4 b5 : Int32, q = (6 : Int32) ∧ Ary Z h o .byte [.int b0, .int b1, .int b2, .int b3, .int b4, .int b5] ∧ b0.toInt % 256 = c0.toInt ∧ b1.toInt % 256 = c1.toInt ∧ b2.toInt % 256 = c2.toInt ∧ b3.toInt % 256 = c3.toInt ∧ b4.toInt % 256 = c4.toInt ∧ b5.toInt % 256 = c5.toInt) ∨ ((q = (0 : Int32) ∧ 255 < c0.toInt) ∨ (q = (1 : Int32) ∧ 255 < c1.toInt) ∨ (q = (2 : Int32) ∧ 255 < c2.toInt) ∨ (q = (3 : Int32) ∧ 255 < c3.toInt) ∨ (q = (4 : Int32) ∧ 255 < c4.toInt) ∨ (q = (5 : Int32) ∧ 255 < c5.toInt))))) h0 0 0 0 #[.val (.ref r), .val (.int (0 : Int32)), .val (.ref o), .val (.int (0 : Int32)), .val (.int (6 : Int32)), .unset, .unset] []
  refine Go.iconst (pc' := 1) (v := (0 : Int32)) d10_0 rfl rfl ?_
  refine Go.istore (pc' := 3) (Ls' := #[.val (.ref r), .val (.int (0 : Int32)), .val (.ref o), .val (.int (0 : Int32)), .val (.int (6 : Int32)), .val (.int (0 : Int32)), .unset]) d10_1 rfl rfl ?_
  refine Go.iload (pc' := 5) d10_3 rfl rfl ?_
  refine Go.iload (pc' := 7) d10_5 rfl rfl ?_
  refine Go.icmp (pc1 := 44) (pc2 := 10) d10_7 (by decide) (by decide) rfl (fun (c_356 : (6 : Int) ≤ (0 : Int)) => ?_) (fun (c_356 : (0 : Int) < (6 : Int)) => ?_)
  · exact absurd c_356 (by decide)
  refine Go.aloadN (pc' := 11) d10_10 rfl rfl rfl ?_
  refine Go.iloadN (pc' := 12) d10_11 rfl rfl ?_
  refine Go.ldC (pc' := 13) (k := 0) (v := (.int c0)) hR rfl rfl d10_12 rfl ?_
  refine Go.istore (pc' := 15) (Ls' := #[.val (.ref r), .val (.int (0 : Int32)), .val (.ref o), .val (.int (0 : Int32)), .val (.int (6 : Int32)), .val (.int (0 : Int32)), .val (.int c0)]) d10_13 rfl rfl ?_
  refine Go.iload (pc' := 17) d10_15 rfl rfl ?_
  refine Go.sipush (pc' := 20) (v := (255 : Int32)) d10_17 rfl rfl ?_
  refine Go.icmp (pc1 := 26) (pc2 := 23) d10_20 (by decide) (by decide) rfl (fun (c_357 : c0.toInt ≤ (255 : Int)) => ?_) (fun (c_357 : (255 : Int) < c0.toInt) => ?_)
  · refine Go.aloadN (pc' := 27) d10_26 rfl rfl rfl ?_
    refine Go.iloadN (pc' := 28) d10_27 rfl rfl ?_
    refine Go.iload (pc' := 30) d10_28 rfl rfl ?_
    refine Go.i2b (pc' := 31) d10_30 rfl ?_
    generalize eb_358 : c0.toInt8.toInt32 = b_358
    have k_359 : b_358.toInt % 256 = c0.toInt ∧ -128 ≤ b_358.toInt ∧ b_358.toInt < 128 := by
      rw [← eb_358]
      have := c_i2b c0
      have := rng32 c0.toInt8.toInt32
      have := rng32 c0
      have := hc0
      omega
    have nb_358 : nar .byte b_358 = b_358 := own_nb k_359.2
    refine Go.stB (pc' := 32) (k := 0) hA rfl (by show 0 < 6; decide) d10_31 hg rfl ?_
    intro h_360 W_361 A_362
    rw [nb_358] at W_361 A_362
    have f_363 : Ary Z h_360 r .char [(.int c0), (.int c1), (.int c2), (.int c3), (.int c4), (.int c5)] := hR.sm (Sm.wr W_361 hne)
    have t_364 : r < h_360.size := Nat.lt_of_lt_of_le hR.lt (Nat.le_of_eq W_361.size.symm)
    have t_365 : o < h_360.size := Nat.lt_of_lt_of_le hA.lt (Nat.le_of_eq W_361.size.symm)
    have z_366 : n0 ≤ h_360.size := Nat.le_trans z0 (Nat.le_of_eq W_361.size.symm)
    have b_367 : h0.size ≤ h_360.size := Nat.le_trans (Nat.le_refl _) (Nat.le_of_eq W_361.size.symm)
    have K_368 : Keep h0 h_360 [o] := (Keep.refl _ _).wr W_361 (Or.inl (List.mem_of_getElem? (i := 0) rfl))
    change Ary Z h_360 o .byte [(.int b_358), (.int (0 : Int32)), (.int (0 : Int32)), (.int (0 : Int32)), (.int (0 : Int32)), (.int (0 : Int32))] at A_362
    refine Go.iinc (pc' := 35) (w := (1 : Int32)) (Ls' := #[.val (.ref r), .val (.int (1 : Int32)), .val (.ref o), .val (.int (0 : Int32)), .val (.int (6 : Int32)), .val (.int (0 : Int32)), .val (.int c0)]) d10_32 rfl rfl rfl rfl ?_
    refine Go.iinc (pc' := 38) (w := (1 : Int32)) (Ls' := #[.val (.ref r), .val (.int (1 : Int32)), .val (.ref o), .val (.int (1 : Int32)), .val (.int (6 : Int32)), .val (.int (0 : Int32)), .val (.int c0)]) d10_35 rfl rfl rfl rfl ?_
    refine Go.iinc (pc' := 41) (w := (1 : Int32)) (Ls' := #[.val (.ref r), .val (.int (1 : Int32)), .val (.ref o), .val (.int (1 : Int32)), .val (.int (6 : Int32)), .val (.int (1 : Int32)), .val (.int c0)]) d10_38 rfl rfl rfl rfl ?_
    refine Go.goto (pc' := 3) d10_41 (by decide) (by decide) ?_
    refine Go.iload (pc' := 5) d10_3 rfl rfl ?_
    refine Go.iload (pc' := 7) d10_5 rfl rfl ?_
    refine Go.icmp (pc1 := 44) (pc2 := 10) d10_7 (by decide) (by decide) rfl (fun (c_369 : (6 : Int) ≤ (1 : Int)) => ?_) (fun (c_369 : (1 : Int) < (6 : Int)) => ?_)
    · exact absurd c_369 (by decide)
    refine Go.aloadN (pc' := 11) d10_10 rfl rfl rfl ?_
    refine Go.iloadN (pc' := 12) d10_11 rfl rfl ?_
    refine Go.ldC (pc' := 13) (k := 1) (v := (.int c1)) f_363 rfl rfl d10_12 rfl ?_
    refine Go.istore (pc' := 15) (Ls' := #[.val (.ref r), .val (.int (1 : Int32)), .val (.ref o), .val (.int (1 : Int32)), .val (.int (6 : Int32)), .val (.int (1 : Int32)), .val (.int c1)]) d10_13 rfl rfl ?_
    refine Go.iload (pc' := 17) d10_15 rfl rfl ?_
    refine Go.sipush (pc' := 20) (v := (255 : Int32)) d10_17 rfl rfl ?_
    refine Go.icmp (pc1 := 26) (pc2 := 23) d10_20 (by decide) (by decide) rfl (fun (c_370 : c1.toInt ≤ (255 : Int)) => ?_) (fun (c_370 : (255 : Int) < c1.toInt) => ?_)
    · refine Go.aloadN (pc' := 27) d10_26 rfl rfl rfl ?_
      refine Go.iloadN (pc' := 28) d10_27 rfl rfl ?_
      refine Go.iload (pc' := 30) d10_28 rfl rfl ?_
      refine Go.i2b (pc' := 31) d10_30 rfl ?_
      generalize eb_371 : c1.toInt8.toInt32 = b_371
      have k_372 : b_371.toInt % 256 = c1.toInt ∧ -128 ≤ b_371.toInt ∧ b_371.toInt < 128 := by
        rw [← eb_371]
        have := c_i2b c1
        have := rng32 c1.toInt8.toInt32
        have := rng32 c1
        have := hc1
        omega
      have nb_371 : nar .byte b_371 = b_371 := own_nb k_372.2
      refine Go.stB (pc' := 32) (k := 1) A_362 rfl (by show 1 < 6; decide) d10_31 hg rfl ?_
      intro h_373 W_374 A_375
      rw [nb_371] at W_374 A_375
      have f_376 : Ary Z h_373 r .char [(.int c0), (.int c1), (.int c2), (.int c3), (.int c4), (.int c5)] := f_363.sm (Sm.wr W_374 hne)
      have t_377 : r < h_373.size := Nat.lt_of_lt_of_le t_364 (Nat.le_of_eq W_374.size.symm)
      have t_378 : o < h_373.size := Nat.lt_of_lt_of_le t_365 (Nat.le_of_eq W_374.size.symm)
      have z_379 : n0 ≤ h_373.size := Nat.le_trans z_366 (Nat.le_of_eq W_374.size.symm)
      have b_380 : h0.size ≤ h_373.size := Nat.le_trans b_367 (Nat.le_of_eq W_374.size.symm)
      have K_381 : Keep h0 h_373 [o] := K_368.wr W_374 (Or.inl (List.mem_of_getElem? (i := 0) rfl))
      change Ary Z h_373 o .byte [(.int b_358), (.int b_371), (.int (0 : Int32)), (.int (0 : Int32)), (.int (0 : Int32)), (.int (0 : Int32))] at A_375
      refine Go.iinc (pc' := 35) (w := (2 : Int32)) (Ls' := #[.val (.ref r), .val (.int (2 : Int32)), .val (.ref o), .val (.int (1 : Int32)), .val (.int (6 : Int32)), .val (.int (1 : Int32)), .val (.int c1)]) d10_32 rfl rfl rfl rfl ?_
      refine Go.iinc (pc' := 38) (w := (2 : Int32)) (Ls' := #[.val (.ref r), .val (.int (2 : Int32)), .val (.ref o), .val (.int (2 : Int32)), .val (.int (6 : Int32)), .val (.int (1 : Int32)), .val (.int c1)]) d10_35 rfl rfl rfl rfl ?_
      refine Go.iinc (pc' := 41) (w := (2 : Int32)) (Ls' := #[.val (.ref r), .val (.int (2 : Int32)), .val (.ref o), .val (.int (2 : Int32)), .val (.int (6 : Int32)), .val (.int (2 : Int32)), .val (.int c1)]) d10_38 rfl rfl rfl rfl ?_
      refine Go.goto (pc' := 3) d10_41 (by decide) (by decide) ?_
      refine Go.iload (pc' := 5) d10_3 rfl rfl ?_
      refine Go.iload (pc' := 7) d10_5 rfl rfl ?_
      refine Go.icmp (pc1 := 44) (pc2 := 10) d10_7 (by decide) (by decide) rfl (fun (c_382 : (6 : Int) ≤ (2 : Int)) => ?_) (fun (c_382 : (2 : Int) < (6 : Int)) => ?_)
      · exact absurd c_382 (by decide)
      refine Go.aloadN (pc' := 11) d10_10 rfl rfl rfl ?_
      refine Go.iloadN (pc' := 12) d10_11 rfl rfl ?_
      refine Go.ldC (pc' := 13) (k := 2) (v := (.int c2)) f_376 rfl rfl d10_12 rfl ?_
      refine Go.istore (pc' := 15) (Ls' := #[.val (.ref r), .val (.int (2 : Int32)), .val (.ref o), .val (.int (2 : Int32)), .val (.int (6 : Int32)), .val (.int (2 : Int32)), .val (.int c2)]) d10_13 rfl rfl ?_
      refine Go.iload (pc' := 17) d10_15 rfl rfl ?_
      refine Go.sipush (pc' := 20) (v := (255 : Int32)) d10_17 rfl rfl ?_
      refine Go.icmp (pc1 := 26) (pc2 := 23) d10_20 (by decide) (by decide) rfl (fun (c_383 : c2.toInt ≤ (255 : Int)) => ?_) (fun (c_383 : (255 : Int) < c2.toInt) => ?_)
      · refine Go.aloadN (pc' := 27) d10_26 rfl rfl rfl ?_
        refine Go.iloadN (pc' := 28) d10_27 rfl rfl ?_
        refine Go.iload (pc' := 30) d10_28 rfl rfl ?_
        refine Go.i2b (pc' := 31) d10_30 rfl ?_
        generalize eb_384 : c2.toInt8.toInt32 = b_384
        have k_385 : b_384.toInt % 256 = c2.toInt ∧ -128 ≤ b_384.toInt ∧ b_384.toInt < 128 := by
          rw [← eb_384]
          have := c_i2b c2
          have := rng32 c2.toInt8.toInt32
          have := rng32 c2
          have := hc2
          omega
        have nb_384 : nar .byte b_384 = b_384 := own_nb k_385.2
        refine Go.stB (pc' := 32) (k := 2) A_375 rfl (by show 2 < 6; decide) d10_31 hg rfl ?_
        intro h_386 W_387 A_388
        rw [nb_384] at W_387 A_388
        have f_389 : Ary Z h_386 r .char [(.int c0), (.int c1), (.int c2), (.int c3), (.int c4), (.int c5)] := f_376.sm (Sm.wr W_387 hne)
        have t_390 : r < h_386.size := Nat.lt_of_lt_of_le t_377 (Nat.le_of_eq W_387.size.symm)
        have t_391 : o < h_386.size := Nat.lt_of_lt_of_le t_378 (Nat.le_of_eq W_387.size.symm)
        have z_392 : n0 ≤ h_386.size := Nat.le_trans z_379 (Nat.le_of_eq W_387.size.symm)
        have b_393 : h0.size ≤ h_386.size := Nat.le_trans b_380 (Nat.le_of_eq W_387.size.symm)
        have K_394 : Keep h0 h_386 [o] := K_381.wr W_387 (Or.inl (List.mem_of_getElem? (i := 0) rfl))
        change Ary Z h_386 o .byte [(.int b_358), (.int b_371), (.int b_384), (.int (0 : Int32)), (.int (0 : Int32)), (.int (0 : Int32))] at A_388
        refine Go.iinc (pc' := 35) (w := (3 : Int32)) (Ls' := #[.val (.ref r), .val (.int (3 : Int32)), .val (.ref o), .val (.int (2 : Int32)), .val (.int (6 : Int32)), .val (.int (2 : Int32)), .val (.int c2)]) d10_32 rfl rfl rfl rfl ?_
        refine Go.iinc (pc' := 38) (w := (3 : Int32)) (Ls' := #[.val (.ref r), .val (.int (3 : Int32)), .val (.ref o), .val (.int (3 : Int32)), .val (.int (6 : Int32)), .val (.int (2 : Int32)), .val (.int c2)]) d10_35 rfl rfl rfl rfl ?_
        refine Go.iinc (pc' := 41) (w := (3 : Int32)) (Ls' := #[.val (.ref r), .val (.int (3 : Int32)), .val (.ref o), .val (.int (3 : Int32)), .val (.int (6 : Int32)), .val (.int (3 : Int32)), .val (.int c2)]) d10_38 rfl rfl rfl rfl ?_
        refine Go.goto (pc' := 3) d10_41 (by decide) (by decide) ?_
        refine Go.iload (pc' := 5) d10_3 rfl rfl ?_
        refine Go.iload (pc' := 7) d10_5 rfl rfl ?_
        refine Go.icmp (pc1 := 44) (pc2 := 10) d10_7 (by decide) (by decide) rfl (fun (c_395 : (6 : Int) ≤ (3 : Int)) => ?_) (fun (c_395 : (3 : Int) < (6 : Int)) => ?_)
        · exact absurd c_395 (by decide)
        refine Go.aloadN (pc' := 11) d10_10 rfl rfl rfl ?_
        refine Go.iloadN (pc' := 12) d10_11 rfl rfl ?_
        refine Go.ldC (pc' := 13) (k := 3) (v := (.int c3)) f_389 rfl rfl d10_12 rfl ?_
        refine Go.istore (pc' := 15) (Ls' := #[.val (.ref r), .val (.int (3 : Int32)), .val (.ref o), .val (.int (3 : Int32)), .val (.int (6 : Int32)), .val (.int (3 : Int32)), .val (.int c3)]) d10_13 rfl rfl ?_
        refine Go.iload (pc' := 17) d10_15 rfl rfl ?_
        refine Go.sipush (pc' := 20) (v := (255 : Int32)) d10_17 rfl rfl ?_
        refine Go.icmp (pc1 := 26) (pc2 := 23) d10_20 (by decide) (by decide) rfl (fun (c_396 : c3.toInt ≤ (255 : Int)) => ?_) (fun (c_396 : (255 : Int) < c3.toInt) => ?_)
        · refine Go.aloadN (pc' := 27) d10_26 rfl rfl rfl ?_
          refine Go.iloadN (pc' := 28) d10_27 rfl rfl ?_
          refine Go.iload (pc' := 30) d10_28 rfl rfl ?_
          refine Go.i2b (pc' := 31) d10_30 rfl ?_
          generalize eb_397 : c3.toInt8.toInt32 = b_397
          have k_398 : b_397.toInt % 256 = c3.toInt ∧ -128 ≤ b_397.toInt ∧ b_397.toInt < 128 := by
            rw [← eb_397]
            have := c_i2b c3
            have := rng32 c3.toInt8.toInt32
            have := rng32 c3
            have := hc3
            omega
          have nb_397 : nar .byte b_397 = b_397 := own_nb k_398.2
          refine Go.stB (pc' := 32) (k := 3) A_388 rfl (by show 3 < 6; decide) d10_31 hg rfl ?_
          intro h_399 W_400 A_401
          rw [nb_397] at W_400 A_401
          have f_402 : Ary Z h_399 r .char [(.int c0), (.int c1), (.int c2), (.int c3), (.int c4), (.int c5)] := f_389.sm (Sm.wr W_400 hne)
          have t_403 : r < h_399.size := Nat.lt_of_lt_of_le t_390 (Nat.le_of_eq W_400.size.symm)
          have t_404 : o < h_399.size := Nat.lt_of_lt_of_le t_391 (Nat.le_of_eq W_400.size.symm)
          have z_405 : n0 ≤ h_399.size := Nat.le_trans z_392 (Nat.le_of_eq W_400.size.symm)
          have b_406 : h0.size ≤ h_399.size := Nat.le_trans b_393 (Nat.le_of_eq W_400.size.symm)
          have K_407 : Keep h0 h_399 [o] := K_394.wr W_400 (Or.inl (List.mem_of_getElem? (i := 0) rfl))
          change Ary Z h_399 o .byte [(.int b_358), (.int b_371), (.int b_384), (.int b_397), (.int (0 : Int32)), (.int (0 : Int32))] at A_401
          refine Go.iinc (pc' := 35) (w := (4 : Int32)) (Ls' := #[.val (.ref r), .val (.int (4 : Int32)), .val (.ref o), .val (.int (3 : Int32)), .val (.int (6 : Int32)), .val (.int (3 : Int32)), .val (.int c3)]) d10_32 rfl rfl rfl rfl ?_
          refine Go.iinc (pc' := 38) (w := (4 : Int32)) (Ls' := #[.val (.ref r), .val (.int (4 : Int32)), .val (.ref o), .val (.int (4 : Int32)), .val (.int (6 : Int32)), .val (.int (3 : Int32)), .val (.int c3)]) d10_35 rfl rfl rfl rfl ?_
          refine Go.iinc (pc' := 41) (w := (4 : Int32)) (Ls' := #[.val (.ref r), .val (.int (4 : Int32)), .val (.ref o), .val (.int (4 : Int32)), .val (.int (6 : Int32)), .val (.int (4 : Int32)), .val (.int c3)]) d10_38 rfl rfl rfl rfl ?_
          refine Go.goto (pc' := 3) d10_41 (by decide) (by decide) ?_
          refine Go.iload (pc' := 5) d10_3 rfl rfl ?_
          refine Go.iload (pc' := 7) d10_5 rfl rfl ?_
          refine Go.icmp (pc1 := 44) (pc2 := 10) d10_7 (by decide) (by decide) rfl (fun (c_408 : (6 : Int) ≤ (4 : Int)) => ?_) (fun (c_408 : (4 : Int) < (6 : Int)) => ?_)
          · exact absurd c_408 (by decide)
          refine Go.aloadN (pc' := 11) d10_10 rfl rfl rfl ?_
          refine Go.iloadN (pc' := 12) d10_11 rfl rfl ?_
          refine Go.ldC (pc' := 13) (k := 4) (v := (.int c4)) f_402 rfl rfl d10_12 rfl ?_
          refine Go.istore (pc' := 15) (Ls' := #[.val (.ref r), .val (.int (4 : Int32)), .val (.ref o), .val (.int (4 : Int32)), .val (.int (6 : Int32)), .val (.int (4 : Int32)), .val (.int c4)]) d10_13 rfl rfl ?_
          refine Go.iload (pc' := 17) d10_15 rfl rfl ?_
          refine Go.sipush (pc' := 20) (v := (255 : Int32)) d10_17 rfl rfl ?_
          refine Go.icmp (pc1 := 26) (pc2 := 23) d10_20 (by decide) (by decide) rfl (fun (c_409 : c4.toInt ≤ (255 : Int)) => ?_) (fun (c_409 : (255 : Int) < c4.toInt) => ?_)
          · refine Go.aloadN (pc' := 27) d10_26 rfl rfl rfl ?_
            refine Go.iloadN (pc' := 28) d10_27 rfl rfl ?_
            refine Go.iload (pc' := 30) d10_28 rfl rfl ?_
            refine Go.i2b (pc' := 31) d10_30 rfl ?_
            generalize eb_410 : c4.toInt8.toInt32 = b_410
            have k_411 : b_410.toInt % 256 = c4.toInt ∧ -128 ≤ b_410.toInt ∧ b_410.toInt < 128 := by
              rw [← eb_410]
              have := c_i2b c4
              have := rng32 c4.toInt8.toInt32
              have := rng32 c4
              have := hc4
              omega
            have nb_410 : nar .byte b_410 = b_410 := own_nb k_411.2
            refine Go.stB (pc' := 32) (k := 4) A_401 rfl (by show 4 < 6; decide) d10_31 hg rfl ?_
            intro h_412 W_413 A_414
            rw [nb_410] at W_413 A_414
            have f_415 : Ary Z h_412 r .char [(.int c0), (.int c1), (.int c2), (.int c3), (.int c4), (.int c5)] := f_402.sm (Sm.wr W_413 hne)
            have t_416 : r < h_412.size := Nat.lt_of_lt_of_le t_403 (Nat.le_of_eq W_413.size.symm)
            have t_417 : o < h_412.size := Nat.lt_of_lt_of_le t_404 (Nat.le_of_eq W_413.size.symm)
            have z_418 : n0 ≤ h_412.size := Nat.le_trans z_405 (Nat.le_of_eq W_413.size.symm)
            have b_419 : h0.size ≤ h_412.size := Nat.le_trans b_406 (Nat.le_of_eq W_413.size.symm)
            have K_420 : Keep h0 h_412 [o] := K_407.wr W_413 (Or.inl (List.mem_of_getElem? (i := 0) rfl))
            change Ary Z h_412 o .byte [(.int b_358), (.int b_371), (.int b_384), (.int b_397), (.int b_410), (.int (0 : Int32))] at A_414
            refine Go.iinc (pc' := 35) (w := (5 : Int32)) (Ls' := #[.val (.ref r), .val (.int (5 : Int32)), .val (.ref o), .val (.int (4 : Int32)), .val (.int (6 : Int32)), .val (.int (4 : Int32)), .val (.int c4)]) d10_32 rfl rfl rfl rfl ?_
            refine Go.iinc (pc' := 38) (w := (5 : Int32)) (Ls' := #[.val (.ref r), .val (.int (5 : Int32)), .val (.ref o), .val (.int (5 : Int32)), .val (.int (6 : Int32)), .val (.int (4 : Int32)), .val (.int c4)]) d10_35 rfl rfl rfl rfl ?_
            refine Go.iinc (pc' := 41) (w := (5 : Int32)) (Ls' := #[.val (.ref r), .val (.int (5 : Int32)), .val (.ref o), .val (.int (5 : Int32)), .val (.int (6 : Int32)), .val (.int (5 : Int32)), .val (.int c4)]) d10_38 rfl rfl rfl rfl ?_
            refine Go.goto (pc' := 3) d10_41 (by decide) (by decide) ?_
            refine Go.iload (pc' := 5) d10_3 rfl rfl ?_
            refine Go.iload (pc' := 7) d10_5 rfl rfl ?_
            refine Go.icmp (pc1 := 44) (pc2 := 10) d10_7 (by decide) (by decide) rfl (fun (c_421 : (6 : Int) ≤ (5 : Int)) => ?_) (fun (c_421 : (5 : Int) < (6 : Int)) => ?_)
            · exact absurd c_421 (by decide)
            refine Go.aloadN (pc' := 11) d10_10 rfl rfl rfl ?_
            refine Go.iloadN (pc' := 12) d10_11 rfl rfl ?_
            refine Go.ldC (pc' := 13) (k := 5) (v := (.int c5)) f_415 rfl rfl d10_12 rfl ?_
            refine Go.istore (pc' := 15) (Ls' := #[.val (.ref r), .val (.int (5 : Int32)), .val (.ref o), .val (.int (5 : Int32)), .val (.int (6 : Int32)), .val (.int (5 : Int32)), .val (.int c5)]) d10_13 rfl rfl ?_
            refine Go.iload (pc' := 17) d10_15 rfl rfl ?_
            refine Go.sipush (pc' := 20) (v := (255 : Int32)) d10_17 rfl rfl ?_
            refine Go.icmp (pc1 := 26) (pc2 := 23) d10_20 (by decide) (by decide) rfl (fun (c_422 : c5.toInt ≤ (255 : Int)) => ?_) (fun (c_422 : (255 : Int) < c5.toInt) => ?_)
            · refine Go.aloadN (pc' := 27) d10_26 rfl rfl rfl ?_
              refine Go.iloadN (pc' := 28) d10_27 rfl rfl ?_
              refine Go.iload (pc' := 30) d10_28 rfl rfl ?_
              refine Go.i2b (pc' := 31) d10_30 rfl ?_
              generalize eb_423 : c5.toInt8.toInt32 = b_423
              have k_424 : b_423.toInt % 256 = c5.toInt ∧ -128 ≤ b_423.toInt ∧ b_423.toInt < 128 := by
                rw [← eb_423]
                have := c_i2b c5
                have := rng32 c5.toInt8.toInt32
                have := rng32 c5
                have := hc5
                omega
              have nb_423 : nar .byte b_423 = b_423 := own_nb k_424.2
              refine Go.stB (pc' := 32) (k := 5) A_414 rfl (by show 5 < 6; decide) d10_31 hg rfl ?_
              intro h_425 W_426 A_427
              rw [nb_423] at W_426 A_427
              have f_428 : Ary Z h_425 r .char [(.int c0), (.int c1), (.int c2), (.int c3), (.int c4), (.int c5)] := f_415.sm (Sm.wr W_426 hne)
              have t_429 : r < h_425.size := Nat.lt_of_lt_of_le t_416 (Nat.le_of_eq W_426.size.symm)
              have t_430 : o < h_425.size := Nat.lt_of_lt_of_le t_417 (Nat.le_of_eq W_426.size.symm)
              have z_431 : n0 ≤ h_425.size := Nat.le_trans z_418 (Nat.le_of_eq W_426.size.symm)
              have b_432 : h0.size ≤ h_425.size := Nat.le_trans b_419 (Nat.le_of_eq W_426.size.symm)
              have K_433 : Keep h0 h_425 [o] := K_420.wr W_426 (Or.inl (List.mem_of_getElem? (i := 0) rfl))
              change Ary Z h_425 o .byte [(.int b_358), (.int b_371), (.int b_384), (.int b_397), (.int b_410), (.int b_423)] at A_427
              refine Go.iinc (pc' := 35) (w := (6 : Int32)) (Ls' := #[.val (.ref r), .val (.int (6 : Int32)), .val (.ref o), .val (.int (5 : Int32)), .val (.int (6 : Int32)), .val (.int (5 : Int32)), .val (.int c5)]) d10_32 rfl rfl rfl rfl ?_
              refine Go.iinc (pc' := 38) (w := (6 : Int32)) (Ls' := #[.val (.ref r), .val (.int (6 : Int32)), .val (.ref o), .val (.int (6 : Int32)), .val (.int (6 : Int32)), .val (.int (5 : Int32)), .val (.int c5)]) d10_35 rfl rfl rfl rfl ?_
              refine Go.iinc (pc' := 41) (w := (6 : Int32)) (Ls' := #[.val (.ref r), .val (.int (6 : Int32)), .val (.ref o), .val (.int (6 : Int32)), .val (.int (6 : Int32)), .val (.int (6 : Int32)), .val (.int c5)]) d10_38 rfl rfl rfl rfl ?_
              refine Go.goto (pc' := 3) d10_41 (by decide) (by decide) ?_
              refine Go.iload (pc' := 5) d10_3 rfl rfl ?_
              refine Go.iload (pc' := 7) d10_5 rfl rfl ?_
              refine Go.icmp (pc1 := 44) (pc2 := 10) d10_7 (by decide) (by decide) rfl (fun (c_434 : (6 : Int) ≤ (6 : Int)) => ?_) (fun (c_434 : (6 : Int) < (6 : Int)) => ?_)
              rotate_left
              · exact absurd c_434 (by decide)
              refine Go.iload (pc' := 46) d10_44 rfl rfl ?_
              exact Go.retI d10_46 rfl ⟨_, rfl, K_433, Or.inl ⟨b_358, b_371, b_384, b_397, b_410, b_423, rfl, A_427, k_359.1, k_372.1, k_385.1, k_398.1, k_411.1, k_424.1⟩⟩ (by decide) (by decide)
            · refine Go.iload (pc' := 25) d10_23 rfl rfl ?_
              exact Go.retI d10_25 rfl ⟨_, rfl, K_420, Or.inr (Or.inr (Or.inr (Or.inr (Or.inr (Or.inr (⟨rfl, by omega⟩))))))⟩ (by decide) (by decide)
          · refine Go.iload (pc' := 25) d10_23 rfl rfl ?_
            exact Go.retI d10_25 rfl ⟨_, rfl, K_407, Or.inr (Or.inr (Or.inr (Or.inr (Or.inr (Or.inl ⟨rfl, by omega⟩)))))⟩ (by decide) (by decide)
        · refine Go.iload (pc' := 25) d10_23 rfl rfl ?_
          exact Go.retI d10_25 rfl ⟨_, rfl, K_394, Or.inr (Or.inr (Or.inr (Or.inr (Or.inl ⟨rfl, by omega⟩))))⟩ (by decide) (by decide)
      · refine Go.iload (pc' := 25) d10_23 rfl rfl ?_
        exact Go.retI d10_25 rfl ⟨_, rfl, K_381, Or.inr (Or.inr (Or.inr (Or.inl ⟨rfl, by omega⟩)))⟩ (by decide) (by decide)
    · refine Go.iload (pc' := 25) d10_23 rfl rfl ?_
      exact Go.retI d10_25 rfl ⟨_, rfl, K_368, Or.inr (Or.inr (Or.inl ⟨rfl, by omega⟩))⟩ (by decide) (by decide)
  · refine Go.iload (pc' := 25) d10_23 rfl rfl ?_
    exact Go.retI d10_25 rfl ⟨_, rfl, (Keep.refl _ _), Or.inr (Or.inl ⟨rfl, by omega⟩)⟩ (by decide) (by decide)
set_option maxRecDepth 65536 in
set_option maxHeartbeats 40000000 in
theorem m_c3_6 (l : Launch) (Z : State) (a0 : Array Value) (hw : ∀ d ∈ tables_1, d.before a0 Z = true) (r : Addr) (c0 c1 c2 c3 c4 c5 : Int32) (h0 : Heap) (n0 : Nat) (z0 : n0 ≤ h0.size)  (hR : Ary Z h0 r .char [.int c0, .int c1, .int c2, .int c3, .int c4, .int c5]) (hc0 : 0 ≤ c0.toInt ∧ c0.toInt < 65536) (hc1 : 0 ≤ c1.toInt ∧ c1.toInt < 65536) (hc2 : 0 ≤ c2.toInt ∧ c2.toInt < 65536) (hc3 : 0 ≤ c3.toInt ∧ c3.toInt < 65536) (hc4 : 0 ≤ c4.toInt ∧ c4.toInt < 65536) (hc5 : 0 ≤ c5.toInt ∧ c5.toInt < 65536) (hd0 : c0.toInt < 256) (hd1 : c1.toInt < 256) (hd2 : c2.toInt < 256) (hd3 : c3.toInt < 256) (hd4 : c4.toInt < 256) (hd5 : c5.toInt < 256) : Mt .n l Z (⟨"java/lang/StringUTF16", "compress", "([CII)[B"⟩ : MethodName) jdk_52_method_16_code 6 (some (.array .byte)) ({ frames := 3, cells := 2, slots := 18, locals := 40 } : Room) n0 (fun v h => ∃ o : Addr, v = some (.ref o) ∧ Keep h0 h [] ∧ h0.size ≤ o ∧ o < h.size ∧ ((∃ b0 b1 b2 b3 b4 b5 : Int32, Ary Z h o .byte [.int b0, .int b1, .int b2, .int b3, .int b4, .int b5] ∧ b0.toInt % 256 = c0.toInt ∧ b1.toInt % 256 = c1.toInt ∧ b2.toInt % 256 = c2.toInt ∧ b3.toInt % 256 = c3.toInt ∧ b4.toInt % 256 = c4.toInt ∧ b5.toInt % 256 = c5.toInt))) h0 #[(.ref r), (.int (0 : Int32)), (.int (6 : Int32))] := by
  refine Mt.go (Ls := #[.val (.ref r), .val (.int (0 : Int32)), .val (.int (6 : Int32)), .unset, .unset, .unset]) (by first | exact plainFor_of_name (by decide +kernel) | decide +kernel | (simp [plainFor]; done)) (fun m => by first | (simp [entryFrame, mkF, argsToLocals, Value.category]; done) | rfl) ?_
  show (Go .n l ({ frames := 3, cells := 2, slots := 18, locals := 40 } : Room) Z (⟨"java/lang/StringUTF16", "compress", "([CII)[B"⟩ : MethodName) jdk_52_method_16_code 6 (some (.array .byte)) n0 2 18 (fun v h => ∃ o : Addr, v = some (.ref o) ∧ Keep h0 h [] ∧ h0.size ≤ o ∧ o < h.size ∧ ((∃ b0 b1 b2 b3 b4 b5 : Int32, Ary Z h o .byte [.int b0, .int b1, .int b2, .int b3, .int b4, .int b5] ∧ b0.toInt % 256 = c0.toInt ∧ b1.toInt % 256 = c1.toInt ∧ b2.toInt % 256 = c2.toInt ∧ b3.toInt % 256 = c3.toInt ∧ b4.toInt % 256 = c4.toInt ∧ b5.toInt % 256 = c5.toInt)))) h0 0 0 0 #[.val (.ref r), .val (.int (0 : Int32)), .val (.int (6 : Int32)), .unset, .unset, .unset] []
  refine Go.iloadN (pc' := 1) d9_0 rfl rfl ?_
  refine Go.newA (pc' := 3) (k := 6) (ty := .byte) (cap := 6) (hw _ (List.mem_of_getElem? (i := 21) rfl)) rfl rfl (by decide) (by decide) d9_1 (by decide) (by decide) rfl ?_
  intro h_435 a_436 q_437 E_438 A_439
  have n_441 : r ≠ a_436 := Nat.ne_of_lt (q_437 ▸ hR.lt)
  have g_442 : n0 ≤ a_436 := q_437 ▸ z0
  have g_443 : h0.size ≤ a_436 := q_437 ▸ (Nat.le_refl _)
  have f_444 : Ary Z h_435 r .char [(.int c0), (.int c1), (.int c2), (.int c3), (.int c4), (.int c5)] := hR.sm (Sm.ext E_438)
  have t_445 : r < h_435.size := Nat.lt_of_lt_of_le hR.lt E_438.1
  have z_446 : n0 ≤ h_435.size := Nat.le_trans z0 E_438.1
  have b_447 : h0.size ≤ h_435.size := Nat.le_trans (Nat.le_refl _) E_438.1
  have K_448 : Keep h0 h_435 [] := (Keep.refl _ _).ext E_438
  have t_449 : a_436 < h_435.size := A_439.lt
  change Ary Z h_435 a_436 .byte [(.int (0 : Int32)), (.int (0 : Int32)), (.int (0 : Int32)), (.int (0 : Int32)), (.int (0 : Int32)), (.int (0 : Int32))] at A_439
  refine Go.astoreN (pc' := 4) (Ls' := #[.val (.ref r), .val (.int (0 : Int32)), .val (.int (6 : Int32)), .val (.ref a_436), .unset, .unset]) d9_3 rfl rfl rfl ?_
  refine Go.aloadN (pc' := 5) d9_4 rfl rfl rfl ?_
  refine Go.iloadN (pc' := 6) d9_5 rfl rfl ?_
  refine Go.aloadN (pc' := 7) d9_6 rfl rfl rfl ?_
  refine Go.iconst (pc' := 8) (v := (0 : Int32)) d9_7 rfl rfl ?_
  refine Go.iloadN (pc' := 9) d9_8 rfl rfl ?_
  refine Go.callS (pc' := 12) (argsL := [(.ref r), (.int (0 : Int32)), (.ref a_436), (.int (0 : Int32)), (.int (6 : Int32))]) (rest := []) (W := 0) (hw _ (List.mem_of_getElem? (i := 69) rfl)) (hw _ (List.mem_of_getElem? (i := 70) rfl)) (hw _ (List.mem_of_getElem? (i := 67) rfl)) (hw _ (List.mem_of_getElem? (i := 71) rfl)) (by decide) (m_c5_6 l Z a0 hw r a_436 c0 c1 c2 c3 c4 c5 h_435 n0 z_446 f_444 A_439 g_442 n_441 hc0 hc1 hc2 hc3 hc4 hc5) d9_9 rfl pd0 rfl rfl (Nat.le_of_eq rfl) (by decide) (by decide) (by decide) (by decide) rfl ?_
  rintro _ h_450 ⟨q_451, rfl, K_452, hq_453⟩
  have f_454 : Ary Z h_450 r .char [(.int c0), (.int c1), (.int c2), (.int c3), (.int c4), (.int c5)] := f_444.sm (Sm.keep K_452 (ninS n_441 nin0))
  have t_456 : r < h_450.size := Nat.lt_of_lt_of_le t_445 K_452.1
  have t_457 : a_436 < h_450.size := Nat.lt_of_lt_of_le t_449 K_452.1
  have z_458 : n0 ≤ h_450.size := Nat.le_trans z_446 K_452.1
  have b_459 : h0.size ≤ h_450.size := Nat.le_trans b_447 K_452.1
  have K_460 : Keep h0 h_450 [] := K_448.trans K_452 (allS (Or.inr g_443) all0)
  show (Go .n l ({ frames := 3, cells := 2, slots := 18, locals := 40 } : Room) Z (⟨"java/lang/StringUTF16", "compress", "([CII)[B"⟩ : MethodName) jdk_52_method_16_code 6 (some (.array .byte)) n0 2 18 (fun v h => ∃ o : Addr, v = some (.ref o) ∧ Keep h0 h [] ∧ h0.size ≤ o ∧ o < h.size ∧ ((∃ b0 b1 b2 b3 b4 b5 : Int32, Ary Z h o .byte [.int b0, .int b1, .int b2, .int b3, .int b4, .int b5] ∧ b0.toInt % 256 = c0.toInt ∧ b1.toInt % 256 = c1.toInt ∧ b2.toInt % 256 = c2.toInt ∧ b3.toInt % 256 = c3.toInt ∧ b4.toInt % 256 = c4.toInt ∧ b5.toInt % 256 = c5.toInt)))) h_450 (0 + 1 + 0) (0 + 6 + 0) 12 #[.val (.ref r), .val (.int (0 : Int32)), .val (.int (6 : Int32)), .val (.ref a_436), .unset, .unset] [(.int q_451)]
  rcases hq_453 with ⟨b0, b1, b2, b3, b4, b5, rfl, A_461, e_462, e_463, e_464, e_465, e_466, e_467⟩ | ⟨rfl, hq_453⟩ | ⟨rfl, hq_453⟩ | ⟨rfl, hq_453⟩ | ⟨rfl, hq_453⟩ | ⟨rfl, hq_453⟩ | ⟨rfl, hq_453⟩
  · show (Go .n l ({ frames := 3, cells := 2, slots := 18, locals := 40 } : Room) Z (⟨"java/lang/StringUTF16", "compress", "([CII)[B"⟩ : MethodName) jdk_52_method_16_code 6 (some (.array .byte)) n0 2 18 (fun v h => ∃ o : Addr, v = some (.ref o) ∧ Keep h0 h [] ∧ h0.size ≤ o ∧ o < h.size ∧ ((∃ b0 b1 b2 b3 b4 b5 : Int32, Ary Z h o .byte [.int b0, .int b1, .int b2, .int b3, .int b4, .int b5] ∧ b0.toInt % 256 = c0.toInt ∧ b1.toInt % 256 = c1.toInt ∧ b2.toInt % 256 = c2.toInt ∧ b3.toInt % 256 = c3.toInt ∧ b4.toInt % 256 = c4.toInt ∧ b5.toInt % 256 = c5.toInt)))) h_450 (0 + 1 + 0) (0 + 6 + 0) 12 #[.val (.ref r), .val (.int (0 : Int32)), .val (.int (6 : Int32)), .val (.ref a_436), .unset, .unset] [(.int (6 : Int32))]
    refine Go.istore (pc' := 14) (Ls' := #[.val (.ref r), .val (.int (0 : Int32)), .val (.int (6 : Int32)), .val (.ref a_436), .val (.int (6 : Int32)), .unset]) d9_12 rfl rfl ?_
    refine Go.iload (pc' := 16) d9_14 rfl rfl ?_
    refine Go.iloadN (pc' := 17) d9_16 rfl rfl ?_
    refine Go.icmp (pc1 := 57) (pc2 := 20) d9_17 (by decide) (by decide) rfl (fun (c_468 : (6 : Int) = (6 : Int)) => ?_) (fun (c_468 : (6 : Int) ≠ (6 : Int)) => ?_)
    rotate_left
    · exact absurd c_468 (by decide)
    refine Go.aloadN (pc' := 58) d9_57 rfl rfl rfl ?_
    exact Go.retA d9_58 rfl rfl rfl ⟨a_436, rfl, K_460, g_443, t_457, b0, b1, b2, b3, b4, b5, A_461, e_462, e_463, e_464, e_465, e_466, e_467⟩ (by decide) (by decide)
  · show (Go .n l ({ frames := 3, cells := 2, slots := 18, locals := 40 } : Room) Z (⟨"java/lang/StringUTF16", "compress", "([CII)[B"⟩ : MethodName) jdk_52_method_16_code 6 (some (.array .byte)) n0 2 18 (fun v h => ∃ o : Addr, v = some (.ref o) ∧ Keep h0 h [] ∧ h0.size ≤ o ∧ o < h.size ∧ ((∃ b0 b1 b2 b3 b4 b5 : Int32, Ary Z h o .byte [.int b0, .int b1, .int b2, .int b3, .int b4, .int b5] ∧ b0.toInt % 256 = c0.toInt ∧ b1.toInt % 256 = c1.toInt ∧ b2.toInt % 256 = c2.toInt ∧ b3.toInt % 256 = c3.toInt ∧ b4.toInt % 256 = c4.toInt ∧ b5.toInt % 256 = c5.toInt)))) h_450 (0 + 1 + 0) (0 + 6 + 0) 12 #[.val (.ref r), .val (.int (0 : Int32)), .val (.int (6 : Int32)), .val (.ref a_436), .unset, .unset] [(.int (0 : Int32))]
    exfalso; omega
  · show (Go .n l ({ frames := 3, cells := 2, slots := 18, locals := 40 } : Room) Z (⟨"java/lang/StringUTF16", "compress", "([CII)[B"⟩ : MethodName) jdk_52_method_16_code 6 (some (.array .byte)) n0 2 18 (fun v h => ∃ o : Addr, v = some (.ref o) ∧ Keep h0 h [] ∧ h0.size ≤ o ∧ o < h.size ∧ ((∃ b0 b1 b2 b3 b4 b5 : Int32, Ary Z h o .byte [.int b0, .int b1, .int b2, .int b3, .int b4, .int b5] ∧ b0.toInt % 256 = c0.toInt ∧ b1.toInt % 256 = c1.toInt ∧ b2.toInt % 256 = c2.toInt ∧ b3.toInt % 256 = c3.toInt ∧ b4.toInt % 256 = c4.toInt ∧ b5.toInt % 256 = c5.toInt)))) h_450 (0 + 1 + 0) (0 + 6 + 0) 12 #[.val (.ref r), .val (.int (0 : Int32)), .val (.int (6 : Int32)), .val (.ref a_436), .unset, .unset] [(.int (1 : Int32))]
    exfalso; omega
  · show (Go .n l ({ frames := 3, cells := 2, slots := 18, locals := 40 } : Room) Z (⟨"java/lang/StringUTF16", "compress", "([CII)[B"⟩ : MethodName) jdk_52_method_16_code 6 (some (.array .byte)) n0 2 18 (fun v h => ∃ o : Addr, v = some (.ref o) ∧ Keep h0 h [] ∧ h0.size ≤ o ∧ o < h.size ∧ ((∃ b0 b1 b2 b3 b4 b5 : Int32, Ary Z h o .byte [.int b0, .int b1, .int b2, .int b3, .int b4, .int b5] ∧ b0.toInt % 256 = c0.toInt ∧ b1.toInt % 256 = c1.toInt ∧ b2.toInt % 256 = c2.toInt ∧ b3.toInt % 256 = c3.toInt ∧ b4.toInt % 256 = c4.toInt ∧ b5.toInt % 256 = c5.toInt)))) h_450 (0 + 1 + 0) (0 + 6 + 0) 12 #[.val (.ref r), .val (.int (0 : Int32)), .val (.int (6 : Int32)), .val (.ref a_436), .unset, .unset] [(.int (2 : Int32))]
    exfalso; omega
  · show (Go .n l ({ frames := 3, cells := 2, slots := 18, locals := 40 } : Room) Z (⟨"java/lang/StringUTF16", "compress", "([CII)[B"⟩ : MethodName) jdk_52_method_16_code 6 (some (.array .byte)) n0 2 18 (fun v h => ∃ o : Addr, v = some (.ref o) ∧ Keep h0 h [] ∧ h0.size ≤ o ∧ o < h.size ∧ ((∃ b0 b1 b2 b3 b4 b5 : Int32, Ary Z h o .byte [.int b0, .int b1, .int b2, .int b3, .int b4, .int b5] ∧ b0.toInt % 256 = c0.toInt ∧ b1.toInt % 256 = c1.toInt ∧ b2.toInt % 256 = c2.toInt ∧ b3.toInt % 256 = c3.toInt ∧ b4.toInt % 256 = c4.toInt ∧ b5.toInt % 256 = c5.toInt)))) h_450 (0 + 1 + 0) (0 + 6 + 0) 12 #[.val (.ref r), .val (.int (0 : Int32)), .val (.int (6 : Int32)), .val (.ref a_436), .unset, .unset] [(.int (3 : Int32))]
    exfalso; omega
  · show (Go .n l ({ frames := 3, cells := 2, slots := 18, locals := 40 } : Room) Z (⟨"java/lang/StringUTF16", "compress", "([CII)[B"⟩ : MethodName) jdk_52_method_16_code 6 (some (.array .byte)) n0 2 18 (fun v h => ∃ o : Addr, v = some (.ref o) ∧ Keep h0 h [] ∧ h0.size ≤ o ∧ o < h.size ∧ ((∃ b0 b1 b2 b3 b4 b5 : Int32, Ary Z h o .byte [.int b0, .int b1, .int b2, .int b3, .int b4, .int b5] ∧ b0.toInt % 256 = c0.toInt ∧ b1.toInt % 256 = c1.toInt ∧ b2.toInt % 256 = c2.toInt ∧ b3.toInt % 256 = c3.toInt ∧ b4.toInt % 256 = c4.toInt ∧ b5.toInt % 256 = c5.toInt)))) h_450 (0 + 1 + 0) (0 + 6 + 0) 12 #[.val (.ref r), .val (.int (0 : Int32)), .val (.int (6 : Int32)), .val (.ref a_436), .unset, .unset] [(.int (4 : Int32))]
    exfalso; omega
  · show (Go .n l ({ frames := 3, cells := 2, slots := 18, locals := 40 } : Room) Z (⟨"java/lang/StringUTF16", "compress", "([CII)[B"⟩ : MethodName) jdk_52_method_16_code 6 (some (.array .byte)) n0 2 18 (fun v h => ∃ o : Addr, v = some (.ref o) ∧ Keep h0 h [] ∧ h0.size ≤ o ∧ o < h.size ∧ ((∃ b0 b1 b2 b3 b4 b5 : Int32, Ary Z h o .byte [.int b0, .int b1, .int b2, .int b3, .int b4, .int b5] ∧ b0.toInt % 256 = c0.toInt ∧ b1.toInt % 256 = c1.toInt ∧ b2.toInt % 256 = c2.toInt ∧ b3.toInt % 256 = c3.toInt ∧ b4.toInt % 256 = c4.toInt ∧ b5.toInt % 256 = c5.toInt)))) h_450 (0 + 1 + 0) (0 + 6 + 0) 12 #[.val (.ref r), .val (.int (0 : Int32)), .val (.int (6 : Int32)), .val (.ref a_436), .unset, .unset] [(.int (5 : Int32))]
    exfalso; omega
set_option maxRecDepth 65536 in
set_option maxHeartbeats 40000000 in
theorem m_cl1_0 (l : Launch) (Z : State) (a0 : Array Value) (hw : ∀ d ∈ tables_1, d.before a0 Z = true) (o : Addr) (A : List Value) (h0 : Heap) (n0 : Nat) (z0 : n0 ≤ h0.size) (hA : Ary Z h0 o .byte A) (hL : A.length = 1) : Mt .n l Z (⟨"java/lang/StringUTF16", "coderFromArrayLen", "([BI)B"⟩ : MethodName) jdk_52_method_15_code 2 (some .byte) ({ frames := 0, cells := 0, slots := 0, locals := 0 } : Room) n0 (fun v h => v = some (.int (0 : Int32)) ∧ h0 = h) h0 #[(.ref o), (.int (1 : Int32))] := by
  refine Mt.go (Ls := #[.val (.ref o), .val (.int (1 : Int32))]) (by first | exact plainFor_of_name (by decide +kernel) | decide +kernel | (simp [plainFor]; done)) (fun m => by first | (simp [entryFrame, mkF, argsToLocals, Value.category]; done) | rfl) ?_
  show (Go .n l ({ frames := 0, cells := 0, slots := 0, locals := 0 } : Room) Z (⟨"java/lang/StringUTF16", "coderFromArrayLen", "([BI)B"⟩ : MethodName) jdk_52_method_15_code 2 (some .byte) n0 0 0 (fun v h => v = some (.int (0 : Int32)) ∧ h0 = h)) h0 0 0 0 #[.val (.ref o), .val (.int (1 : Int32))] []
  refine Go.iloadN (pc' := 1) d11_0 rfl rfl ?_
  refine Go.aloadN (pc' := 2) d11_1 rfl rfl rfl ?_
  refine Go.alen (pc' := 3) (z := (1 : Int32)) hA (by rw [hL]; rfl) d11_2 rfl ?_
  refine Go.isub (pc' := 4) d11_3 rfl ?_
  show (Go .n l ({ frames := 0, cells := 0, slots := 0, locals := 0 } : Room) Z (⟨"java/lang/StringUTF16", "coderFromArrayLen", "([BI)B"⟩ : MethodName) jdk_52_method_15_code 2 (some .byte) n0 0 0 (fun v h => v = some (.int (0 : Int32)) ∧ h0 = h)) h0 0 0 4 #[.val (.ref o), .val (.int (1 : Int32))] [(.int (0 : Int32))]
  refine Go.bipush (pc' := 6) (v := (31 : Int32)) d11_4 rfl rfl ?_
  refine Go.iushr (pc' := 7) d11_6 rfl ?_
  refine Go.i2b (pc' := 8) d11_7 rfl ?_
  generalize er_469 : (((0 : Int32).toUInt32 >>> ((31 : Int32) &&& 31).toUInt32).toInt32).toInt8.toInt32 = r_469
  have k_470 : r_469.toInt = 0 := by
    rw [← er_469]
    have : (0 : Int32).toInt = 0 := by decide
    have : (31 : Int32).toInt = 31 := by decide
    have := c_iushr (0 : Int32) (31 : Int32) 31 (by decide) (by decide)
    have := rng32 (((0 : Int32).toUInt32 >>> ((31 : Int32) &&& 31).toUInt32).toInt32)
    have := c_i2b (((0 : Int32).toUInt32 >>> ((31 : Int32) &&& 31).toUInt32).toInt32)
    have := rng32 ((((0 : Int32).toUInt32 >>> ((31 : Int32) &&& 31).toUInt32).toInt32).toInt8.toInt32)
    omega
  obtain rfl : r_469 = (0 : Int32) := Int32.toInt_inj.mp k_470
  exact Go.retN (t := .byte) d11_8 rfl (by simp) rfl ⟨rfl, rfl⟩ (by decide) (by decide)
set_option maxRecDepth 65536 in
set_option maxHeartbeats 40000000 in
theorem m_cl2_0 (l : Launch) (Z : State) (a0 : Array Value) (hw : ∀ d ∈ tables_1, d.before a0 Z = true) (o : Addr) (A : List Value) (h0 : Heap) (n0 : Nat) (z0 : n0 ≤ h0.size) (hA : Ary Z h0 o .byte A) (hL : A.length = 2) : Mt .n l Z (⟨"java/lang/StringUTF16", "coderFromArrayLen", "([BI)B"⟩ : MethodName) jdk_52_method_15_code 2 (some .byte) ({ frames := 0, cells := 0, slots := 0, locals := 0 } : Room) n0 (fun v h => v = some (.int (0 : Int32)) ∧ h0 = h) h0 #[(.ref o), (.int (2 : Int32))] := by
  refine Mt.go (Ls := #[.val (.ref o), .val (.int (2 : Int32))]) (by first | exact plainFor_of_name (by decide +kernel) | decide +kernel | (simp [plainFor]; done)) (fun m => by first | (simp [entryFrame, mkF, argsToLocals, Value.category]; done) | rfl) ?_
  show (Go .n l ({ frames := 0, cells := 0, slots := 0, locals := 0 } : Room) Z (⟨"java/lang/StringUTF16", "coderFromArrayLen", "([BI)B"⟩ : MethodName) jdk_52_method_15_code 2 (some .byte) n0 0 0 (fun v h => v = some (.int (0 : Int32)) ∧ h0 = h)) h0 0 0 0 #[.val (.ref o), .val (.int (2 : Int32))] []
  refine Go.iloadN (pc' := 1) d11_0 rfl rfl ?_
  refine Go.aloadN (pc' := 2) d11_1 rfl rfl rfl ?_
  refine Go.alen (pc' := 3) (z := (2 : Int32)) hA (by rw [hL]; rfl) d11_2 rfl ?_
  refine Go.isub (pc' := 4) d11_3 rfl ?_
  show (Go .n l ({ frames := 0, cells := 0, slots := 0, locals := 0 } : Room) Z (⟨"java/lang/StringUTF16", "coderFromArrayLen", "([BI)B"⟩ : MethodName) jdk_52_method_15_code 2 (some .byte) n0 0 0 (fun v h => v = some (.int (0 : Int32)) ∧ h0 = h)) h0 0 0 4 #[.val (.ref o), .val (.int (2 : Int32))] [(.int (0 : Int32))]
  refine Go.bipush (pc' := 6) (v := (31 : Int32)) d11_4 rfl rfl ?_
  refine Go.iushr (pc' := 7) d11_6 rfl ?_
  refine Go.i2b (pc' := 8) d11_7 rfl ?_
  generalize er_471 : (((0 : Int32).toUInt32 >>> ((31 : Int32) &&& 31).toUInt32).toInt32).toInt8.toInt32 = r_471
  have k_472 : r_471.toInt = 0 := by
    rw [← er_471]
    have : (0 : Int32).toInt = 0 := by decide
    have : (31 : Int32).toInt = 31 := by decide
    have := c_iushr (0 : Int32) (31 : Int32) 31 (by decide) (by decide)
    have := rng32 (((0 : Int32).toUInt32 >>> ((31 : Int32) &&& 31).toUInt32).toInt32)
    have := c_i2b (((0 : Int32).toUInt32 >>> ((31 : Int32) &&& 31).toUInt32).toInt32)
    have := rng32 ((((0 : Int32).toUInt32 >>> ((31 : Int32) &&& 31).toUInt32).toInt32).toInt8.toInt32)
    omega
  obtain rfl : r_471 = (0 : Int32) := Int32.toInt_inj.mp k_472
  exact Go.retN (t := .byte) d11_8 rfl (by simp) rfl ⟨rfl, rfl⟩ (by decide) (by decide)
set_option maxRecDepth 65536 in
set_option maxHeartbeats 40000000 in
theorem m_cl3_0 (l : Launch) (Z : State) (a0 : Array Value) (hw : ∀ d ∈ tables_1, d.before a0 Z = true) (o : Addr) (A : List Value) (h0 : Heap) (n0 : Nat) (z0 : n0 ≤ h0.size) (hA : Ary Z h0 o .byte A) (hL : A.length = 3) : Mt .n l Z (⟨"java/lang/StringUTF16", "coderFromArrayLen", "([BI)B"⟩ : MethodName) jdk_52_method_15_code 2 (some .byte) ({ frames := 0, cells := 0, slots := 0, locals := 0 } : Room) n0 (fun v h => v = some (.int (0 : Int32)) ∧ h0 = h) h0 #[(.ref o), (.int (3 : Int32))] := by
  refine Mt.go (Ls := #[.val (.ref o), .val (.int (3 : Int32))]) (by first | exact plainFor_of_name (by decide +kernel) | decide +kernel | (simp [plainFor]; done)) (fun m => by first | (simp [entryFrame, mkF, argsToLocals, Value.category]; done) | rfl) ?_
  show (Go .n l ({ frames := 0, cells := 0, slots := 0, locals := 0 } : Room) Z (⟨"java/lang/StringUTF16", "coderFromArrayLen", "([BI)B"⟩ : MethodName) jdk_52_method_15_code 2 (some .byte) n0 0 0 (fun v h => v = some (.int (0 : Int32)) ∧ h0 = h)) h0 0 0 0 #[.val (.ref o), .val (.int (3 : Int32))] []
  refine Go.iloadN (pc' := 1) d11_0 rfl rfl ?_
  refine Go.aloadN (pc' := 2) d11_1 rfl rfl rfl ?_
  refine Go.alen (pc' := 3) (z := (3 : Int32)) hA (by rw [hL]; rfl) d11_2 rfl ?_
  refine Go.isub (pc' := 4) d11_3 rfl ?_
  show (Go .n l ({ frames := 0, cells := 0, slots := 0, locals := 0 } : Room) Z (⟨"java/lang/StringUTF16", "coderFromArrayLen", "([BI)B"⟩ : MethodName) jdk_52_method_15_code 2 (some .byte) n0 0 0 (fun v h => v = some (.int (0 : Int32)) ∧ h0 = h)) h0 0 0 4 #[.val (.ref o), .val (.int (3 : Int32))] [(.int (0 : Int32))]
  refine Go.bipush (pc' := 6) (v := (31 : Int32)) d11_4 rfl rfl ?_
  refine Go.iushr (pc' := 7) d11_6 rfl ?_
  refine Go.i2b (pc' := 8) d11_7 rfl ?_
  generalize er_473 : (((0 : Int32).toUInt32 >>> ((31 : Int32) &&& 31).toUInt32).toInt32).toInt8.toInt32 = r_473
  have k_474 : r_473.toInt = 0 := by
    rw [← er_473]
    have : (0 : Int32).toInt = 0 := by decide
    have : (31 : Int32).toInt = 31 := by decide
    have := c_iushr (0 : Int32) (31 : Int32) 31 (by decide) (by decide)
    have := rng32 (((0 : Int32).toUInt32 >>> ((31 : Int32) &&& 31).toUInt32).toInt32)
    have := c_i2b (((0 : Int32).toUInt32 >>> ((31 : Int32) &&& 31).toUInt32).toInt32)
    have := rng32 ((((0 : Int32).toUInt32 >>> ((31 : Int32) &&& 31).toUInt32).toInt32).toInt8.toInt32)
    omega
  obtain rfl : r_473 = (0 : Int32) := Int32.toInt_inj.mp k_474
  exact Go.retN (t := .byte) d11_8 rfl (by simp) rfl ⟨rfl, rfl⟩ (by decide) (by decide)
set_option maxRecDepth 65536 in
set_option maxHeartbeats 40000000 in
theorem m_cl4_0 (l : Launch) (Z : State) (a0 : Array Value) (hw : ∀ d ∈ tables_1, d.before a0 Z = true) (o : Addr) (A : List Value) (h0 : Heap) (n0 : Nat) (z0 : n0 ≤ h0.size) (hA : Ary Z h0 o .byte A) (hL : A.length = 4) : Mt .n l Z (⟨"java/lang/StringUTF16", "coderFromArrayLen", "([BI)B"⟩ : MethodName) jdk_52_method_15_code 2 (some .byte) ({ frames := 0, cells := 0, slots := 0, locals := 0 } : Room) n0 (fun v h => v = some (.int (0 : Int32)) ∧ h0 = h) h0 #[(.ref o), (.int (4 : Int32))] := by
  refine Mt.go (Ls := #[.val (.ref o), .val (.int (4 : Int32))]) (by first | exact plainFor_of_name (by decide +kernel) | decide +kernel | (simp [plainFor]; done)) (fun m => by first | (simp [entryFrame, mkF, argsToLocals, Value.category]; done) | rfl) ?_
  show (Go .n l ({ frames := 0, cells := 0, slots := 0, locals := 0 } : Room) Z (⟨"java/lang/StringUTF16", "coderFromArrayLen", "([BI)B"⟩ : MethodName) jdk_52_method_15_code 2 (some .byte) n0 0 0 (fun v h => v = some (.int (0 : Int32)) ∧ h0 = h)) h0 0 0 0 #[.val (.ref o), .val (.int (4 : Int32))] []
  refine Go.iloadN (pc' := 1) d11_0 rfl rfl ?_
  refine Go.aloadN (pc' := 2) d11_1 rfl rfl rfl ?_
  refine Go.alen (pc' := 3) (z := (4 : Int32)) hA (by rw [hL]; rfl) d11_2 rfl ?_
  refine Go.isub (pc' := 4) d11_3 rfl ?_
  show (Go .n l ({ frames := 0, cells := 0, slots := 0, locals := 0 } : Room) Z (⟨"java/lang/StringUTF16", "coderFromArrayLen", "([BI)B"⟩ : MethodName) jdk_52_method_15_code 2 (some .byte) n0 0 0 (fun v h => v = some (.int (0 : Int32)) ∧ h0 = h)) h0 0 0 4 #[.val (.ref o), .val (.int (4 : Int32))] [(.int (0 : Int32))]
  refine Go.bipush (pc' := 6) (v := (31 : Int32)) d11_4 rfl rfl ?_
  refine Go.iushr (pc' := 7) d11_6 rfl ?_
  refine Go.i2b (pc' := 8) d11_7 rfl ?_
  generalize er_475 : (((0 : Int32).toUInt32 >>> ((31 : Int32) &&& 31).toUInt32).toInt32).toInt8.toInt32 = r_475
  have k_476 : r_475.toInt = 0 := by
    rw [← er_475]
    have : (0 : Int32).toInt = 0 := by decide
    have : (31 : Int32).toInt = 31 := by decide
    have := c_iushr (0 : Int32) (31 : Int32) 31 (by decide) (by decide)
    have := rng32 (((0 : Int32).toUInt32 >>> ((31 : Int32) &&& 31).toUInt32).toInt32)
    have := c_i2b (((0 : Int32).toUInt32 >>> ((31 : Int32) &&& 31).toUInt32).toInt32)
    have := rng32 ((((0 : Int32).toUInt32 >>> ((31 : Int32) &&& 31).toUInt32).toInt32).toInt8.toInt32)
    omega
  obtain rfl : r_475 = (0 : Int32) := Int32.toInt_inj.mp k_476
  exact Go.retN (t := .byte) d11_8 rfl (by simp) rfl ⟨rfl, rfl⟩ (by decide) (by decide)
set_option maxRecDepth 65536 in
set_option maxHeartbeats 40000000 in
theorem m_cl5_0 (l : Launch) (Z : State) (a0 : Array Value) (hw : ∀ d ∈ tables_1, d.before a0 Z = true) (o : Addr) (A : List Value) (h0 : Heap) (n0 : Nat) (z0 : n0 ≤ h0.size) (hA : Ary Z h0 o .byte A) (hL : A.length = 5) : Mt .n l Z (⟨"java/lang/StringUTF16", "coderFromArrayLen", "([BI)B"⟩ : MethodName) jdk_52_method_15_code 2 (some .byte) ({ frames := 0, cells := 0, slots := 0, locals := 0 } : Room) n0 (fun v h => v = some (.int (0 : Int32)) ∧ h0 = h) h0 #[(.ref o), (.int (5 : Int32))] := by
  refine Mt.go (Ls := #[.val (.ref o), .val (.int (5 : Int32))]) (by first | exact plainFor_of_name (by decide +kernel) | decide +kernel | (simp [plainFor]; done)) (fun m => by first | (simp [entryFrame, mkF, argsToLocals, Value.category]; done) | rfl) ?_
  show (Go .n l ({ frames := 0, cells := 0, slots := 0, locals := 0 } : Room) Z (⟨"java/lang/StringUTF16", "coderFromArrayLen", "([BI)B"⟩ : MethodName) jdk_52_method_15_code 2 (some .byte) n0 0 0 (fun v h => v = some (.int (0 : Int32)) ∧ h0 = h)) h0 0 0 0 #[.val (.ref o), .val (.int (5 : Int32))] []
  refine Go.iloadN (pc' := 1) d11_0 rfl rfl ?_
  refine Go.aloadN (pc' := 2) d11_1 rfl rfl rfl ?_
  refine Go.alen (pc' := 3) (z := (5 : Int32)) hA (by rw [hL]; rfl) d11_2 rfl ?_
  refine Go.isub (pc' := 4) d11_3 rfl ?_
  show (Go .n l ({ frames := 0, cells := 0, slots := 0, locals := 0 } : Room) Z (⟨"java/lang/StringUTF16", "coderFromArrayLen", "([BI)B"⟩ : MethodName) jdk_52_method_15_code 2 (some .byte) n0 0 0 (fun v h => v = some (.int (0 : Int32)) ∧ h0 = h)) h0 0 0 4 #[.val (.ref o), .val (.int (5 : Int32))] [(.int (0 : Int32))]
  refine Go.bipush (pc' := 6) (v := (31 : Int32)) d11_4 rfl rfl ?_
  refine Go.iushr (pc' := 7) d11_6 rfl ?_
  refine Go.i2b (pc' := 8) d11_7 rfl ?_
  generalize er_477 : (((0 : Int32).toUInt32 >>> ((31 : Int32) &&& 31).toUInt32).toInt32).toInt8.toInt32 = r_477
  have k_478 : r_477.toInt = 0 := by
    rw [← er_477]
    have : (0 : Int32).toInt = 0 := by decide
    have : (31 : Int32).toInt = 31 := by decide
    have := c_iushr (0 : Int32) (31 : Int32) 31 (by decide) (by decide)
    have := rng32 (((0 : Int32).toUInt32 >>> ((31 : Int32) &&& 31).toUInt32).toInt32)
    have := c_i2b (((0 : Int32).toUInt32 >>> ((31 : Int32) &&& 31).toUInt32).toInt32)
    have := rng32 ((((0 : Int32).toUInt32 >>> ((31 : Int32) &&& 31).toUInt32).toInt32).toInt8.toInt32)
    omega
  obtain rfl : r_477 = (0 : Int32) := Int32.toInt_inj.mp k_478
  exact Go.retN (t := .byte) d11_8 rfl (by simp) rfl ⟨rfl, rfl⟩ (by decide) (by decide)
set_option maxRecDepth 65536 in
set_option maxHeartbeats 40000000 in
theorem m_cl6_0 (l : Launch) (Z : State) (a0 : Array Value) (hw : ∀ d ∈ tables_1, d.before a0 Z = true) (o : Addr) (A : List Value) (h0 : Heap) (n0 : Nat) (z0 : n0 ≤ h0.size) (hA : Ary Z h0 o .byte A) (hL : A.length = 6) : Mt .n l Z (⟨"java/lang/StringUTF16", "coderFromArrayLen", "([BI)B"⟩ : MethodName) jdk_52_method_15_code 2 (some .byte) ({ frames := 0, cells := 0, slots := 0, locals := 0 } : Room) n0 (fun v h => v = some (.int (0 : Int32)) ∧ h0 = h) h0 #[(.ref o), (.int (6 : Int32))] := by
  refine Mt.go (Ls := #[.val (.ref o), .val (.int (6 : Int32))]) (by first | exact plainFor_of_name (by decide +kernel) | decide +kernel | (simp [plainFor]; done)) (fun m => by first | (simp [entryFrame, mkF, argsToLocals, Value.category]; done) | rfl) ?_
  show (Go .n l ({ frames := 0, cells := 0, slots := 0, locals := 0 } : Room) Z (⟨"java/lang/StringUTF16", "coderFromArrayLen", "([BI)B"⟩ : MethodName) jdk_52_method_15_code 2 (some .byte) n0 0 0 (fun v h => v = some (.int (0 : Int32)) ∧ h0 = h)) h0 0 0 0 #[.val (.ref o), .val (.int (6 : Int32))] []
  refine Go.iloadN (pc' := 1) d11_0 rfl rfl ?_
  refine Go.aloadN (pc' := 2) d11_1 rfl rfl rfl ?_
  refine Go.alen (pc' := 3) (z := (6 : Int32)) hA (by rw [hL]; rfl) d11_2 rfl ?_
  refine Go.isub (pc' := 4) d11_3 rfl ?_
  show (Go .n l ({ frames := 0, cells := 0, slots := 0, locals := 0 } : Room) Z (⟨"java/lang/StringUTF16", "coderFromArrayLen", "([BI)B"⟩ : MethodName) jdk_52_method_15_code 2 (some .byte) n0 0 0 (fun v h => v = some (.int (0 : Int32)) ∧ h0 = h)) h0 0 0 4 #[.val (.ref o), .val (.int (6 : Int32))] [(.int (0 : Int32))]
  refine Go.bipush (pc' := 6) (v := (31 : Int32)) d11_4 rfl rfl ?_
  refine Go.iushr (pc' := 7) d11_6 rfl ?_
  refine Go.i2b (pc' := 8) d11_7 rfl ?_
  generalize er_479 : (((0 : Int32).toUInt32 >>> ((31 : Int32) &&& 31).toUInt32).toInt32).toInt8.toInt32 = r_479
  have k_480 : r_479.toInt = 0 := by
    rw [← er_479]
    have : (0 : Int32).toInt = 0 := by decide
    have : (31 : Int32).toInt = 31 := by decide
    have := c_iushr (0 : Int32) (31 : Int32) 31 (by decide) (by decide)
    have := rng32 (((0 : Int32).toUInt32 >>> ((31 : Int32) &&& 31).toUInt32).toInt32)
    have := c_i2b (((0 : Int32).toUInt32 >>> ((31 : Int32) &&& 31).toUInt32).toInt32)
    have := rng32 ((((0 : Int32).toUInt32 >>> ((31 : Int32) &&& 31).toUInt32).toInt32).toInt8.toInt32)
    omega
  obtain rfl : r_479 = (0 : Int32) := Int32.toInt_inj.mp k_480
  exact Go.retN (t := .byte) d11_8 rfl (by simp) rfl ⟨rfl, rfl⟩ (by decide) (by decide)
set_option maxRecDepth 65536 in
set_option maxHeartbeats 40000000 in
theorem m_s2_1 (l : Launch) (Z : State) (a0 : Array Value) (hw : ∀ d ∈ tables_1, d.before a0 Z = true) (a r : Addr) (c0 : Int32) (cs : Int32) (h0 : Heap) (n0 : Nat) (z0 : n0 ≤ h0.size) (hO : Old Z n0 h0) (hSCS : Sta Z Z.heap "java/lang/String" "COMPACT_STRINGS" "Z" (.int cs)) (hcs : cs.toInt ≠ 0) (hE : Exa Z h0 a "java/lang/String") (hFV : Fld Z h0 a "java/lang/String" "value" "[B" .null) (hFC : Fld Z h0 a "java/lang/String" "coder" "B" (.int (0 : Int32))) (hg : n0 ≤ a) (hR : Ary Z h0 r .char [.int c0]) (hc0 : 0 ≤ c0.toInt ∧ c0.toInt < 65536) (hd0 : c0.toInt < 256) : Mt .n l Z (⟨"java/lang/String", "<init>", "([CIILjava/lang/Void;)V"⟩ : MethodName) jdk_42_method_149_code 6 none ({ frames := 4, cells := 2, slots := 3, locals := 60 } : Room) n0 (fun v h => v = none ∧ Keep h0 h [a] ∧ ∃ o : Addr, Fld Z h a "java/lang/String" "value" "[B" (.ref o) ∧ o < h.size ∧ (Fld Z h a "java/lang/String" "coder" "B" (.int (0 : Int32)) ∧ ∃ b0 : Int32, Ary Z h o .byte [.int b0] ∧ b0.toInt % 256 = c0.toInt)) h0 #[(.ref a), (.ref r), (.int (0 : Int32)), (.int (1 : Int32)), .null] := by
  refine Mt.go (Ls := #[.val (.ref a), .val (.ref r), .val (.int (0 : Int32)), .val (.int (1 : Int32)), .val .null, .unset]) (by first | exact plainFor_of_name (by decide +kernel) | decide +kernel | (simp [plainFor]; done)) (fun m => by first | (simp [entryFrame, mkF, argsToLocals, Value.category]; done) | rfl) ?_
  show (Go .n l ({ frames := 4, cells := 2, slots := 3, locals := 60 } : Room) Z (⟨"java/lang/String", "<init>", "([CIILjava/lang/Void;)V"⟩ : MethodName) jdk_42_method_149_code 6 none n0 2 3 (fun v h => v = none ∧ Keep h0 h [a] ∧ ∃ o : Addr, Fld Z h a "java/lang/String" "value" "[B" (.ref o) ∧ o < h.size ∧ (Fld Z h a "java/lang/String" "coder" "B" (.int (0 : Int32)) ∧ ∃ b0 : Int32, Ary Z h o .byte [.int b0] ∧ b0.toInt % 256 = c0.toInt))) h0 0 0 0 #[.val (.ref a), .val (.ref r), .val (.int (0 : Int32)), .val (.int (1 : Int32)), .val .null, .unset] []
  have hTCS : Sta Z h0 "java/lang/String" "COMPACT_STRINGS" "Z" (.int cs) := Sta.ext hO.2 hSCS
  have n_481 : a ≠ r := by obtain ⟨_, Ag, -⟩ := hR; exact ne_arr hE (hw _ (List.mem_of_getElem? (i := 8) rfl)) Ag
  refine Go.aloadN (pc' := 1) d3_0 rfl rfl rfl ?_
  refine Go.initO (pc' := 4) (W := 0) (hw _ (List.mem_of_getElem? (i := 17) rfl)) (hw _ (List.mem_of_getElem? (i := 18) rfl)) (hw _ (List.mem_of_getElem? (i := 19) rfl)) d3_1 rfl (by decide) (Nat.le_of_eq rfl) (by decide) rfl ?_
  refine Go.iloadN (pc' := 5) d3_4 rfl rfl ?_
  refine Go.ifc (pc1 := 27) (pc2 := 8) d3_5 (by decide) (by decide) rfl (fun (c_482 : (1 : Int) ≠ 0) => ?_) (fun (c_482 : (1 : Int) = 0) => ?_)
  rotate_left
  · exact absurd c_482 (by decide)
  refine Go.getS (pc' := 30) (hw _ (List.mem_of_getElem? (i := 57) rfl)) hTCS d3_27 rfl ?_
  refine Go.ifc (pc1 := 58) (pc2 := 33) d3_30 (by decide) (by decide) rfl (fun (c_483 : cs.toInt = 0) => ?_) (fun (c_483 : cs.toInt ≠ 0) => ?_)
  · exact absurd c_483 hcs
  refine Go.aloadN (pc' := 34) d3_33 rfl rfl rfl ?_
  refine Go.iloadN (pc' := 35) d3_34 rfl rfl ?_
  refine Go.iloadN (pc' := 36) d3_35 rfl rfl ?_
  refine Go.callS (pc' := 39) (argsL := [(.ref r), (.int (0 : Int32)), (.int (1 : Int32))]) (rest := []) (W := 0) (hw _ (List.mem_of_getElem? (i := 65) rfl)) (hw _ (List.mem_of_getElem? (i := 66) rfl)) (hw _ (List.mem_of_getElem? (i := 67) rfl)) (hw _ (List.mem_of_getElem? (i := 68) rfl)) (by decide) (m_c3_1 l Z a0 hw r c0 h0 n0 z0  hR hc0 hd0) d3_36 rfl pd1 rfl rfl (Nat.le_of_eq rfl) (by decide) (by decide) (by decide) (by decide) rfl ?_
  rintro _ h_484 ⟨o_485, rfl, K_486, q_487, t_488, ho_489⟩
  have n_490 : a ≠ o_485 := Nat.ne_of_lt (Nat.lt_of_lt_of_le hE.lt q_487)
  have n_491 : r ≠ o_485 := Nat.ne_of_lt (Nat.lt_of_lt_of_le hR.lt q_487)
  have g_492 : n0 ≤ o_485 := Nat.le_trans z0 q_487
  have g_493 : h0.size ≤ o_485 := Nat.le_trans (Nat.le_refl _) q_487
  have f_495 : Exa Z h_484 a "java/lang/String" := hE.sm (Sm.keep K_486 nin0)
  have f_496 : Fld Z h_484 a "java/lang/String" "value" "[B" .null := hFV.sm (Sm.keep K_486 nin0)
  have f_497 : Fld Z h_484 a "java/lang/String" "coder" "B" (.int (0 : Int32)) := hFC.sm (Sm.keep K_486 nin0)
  have f_498 : Ary Z h_484 r .char [(.int c0)] := hR.sm (Sm.keep K_486 nin0)
  have t_499 : a < h_484.size := Nat.lt_of_lt_of_le hE.lt K_486.1
  have t_500 : r < h_484.size := Nat.lt_of_lt_of_le hR.lt K_486.1
  have z_501 : n0 ≤ h_484.size := Nat.le_trans z0 K_486.1
  have b_502 : h0.size ≤ h_484.size := Nat.le_trans (Nat.le_refl _) K_486.1
  have K_503 : Keep h0 h_484 [a] := (Keep.refl _ _).trans K_486 all0
  have O_504 : Old Z n0 h_484 := hO.keep K_486 all0
  have f_494 : Sta Z h_484 "java/lang/String" "COMPACT_STRINGS" "Z" (.int cs) := Sta.ext O_504.2 hSCS
  show (Go .n l ({ frames := 4, cells := 2, slots := 3, locals := 60 } : Room) Z (⟨"java/lang/String", "<init>", "([CIILjava/lang/Void;)V"⟩ : MethodName) jdk_42_method_149_code 6 none n0 2 3 (fun v h => v = none ∧ Keep h0 h [a] ∧ ∃ o : Addr, Fld Z h a "java/lang/String" "value" "[B" (.ref o) ∧ o < h.size ∧ (Fld Z h a "java/lang/String" "coder" "B" (.int (0 : Int32)) ∧ ∃ b0 : Int32, Ary Z h o .byte [.int b0] ∧ b0.toInt % 256 = c0.toInt))) h_484 (0 + 2) (0 + 3) 39 #[.val (.ref a), .val (.ref r), .val (.int (0 : Int32)), .val (.int (1 : Int32)), .val .null, .unset] [(.ref o_485)]
  obtain ⟨b0, A_505, e_506⟩ := ho_489
  refine Go.astore (pc' := 41) (Ls' := #[.val (.ref a), .val (.ref r), .val (.int (0 : Int32)), .val (.int (1 : Int32)), .val .null, .val (.ref o_485)]) d3_39 rfl rfl rfl ?_
  refine Go.aloadN (pc' := 42) d3_41 rfl rfl rfl ?_
  refine Go.aload (pc' := 44) d3_42 rfl rfl rfl ?_
  refine Go.iloadN (pc' := 45) d3_44 rfl rfl ?_
  refine Go.callS (pc' := 48) (argsL := [(.ref o_485), (.int (1 : Int32))]) (rest := [(.ref a)]) (W := 1) (hw _ (List.mem_of_getElem? (i := 72) rfl)) (hw _ (List.mem_of_getElem? (i := 73) rfl)) (hw _ (List.mem_of_getElem? (i := 67) rfl)) (hw _ (List.mem_of_getElem? (i := 74) rfl)) (by decide) (m_cl1_0 l Z a0 hw o_485 [.int b0] h_484 n0 z_501 A_505 rfl) d3_45 rfl pd2 rfl rfl (Nat.le_of_eq rfl) (by decide) (by decide) (by decide) (by decide) rfl ?_
  rintro _ _ ⟨rfl, rfl⟩
  show (Go .n l ({ frames := 4, cells := 2, slots := 3, locals := 60 } : Room) Z (⟨"java/lang/String", "<init>", "([CIILjava/lang/Void;)V"⟩ : MethodName) jdk_42_method_149_code 6 none n0 2 3 (fun v h => v = none ∧ Keep h0 h [a] ∧ ∃ o : Addr, Fld Z h a "java/lang/String" "value" "[B" (.ref o) ∧ o < h.size ∧ (Fld Z h a "java/lang/String" "coder" "B" (.int (0 : Int32)) ∧ ∃ b0 : Int32, Ary Z h o .byte [.int b0] ∧ b0.toInt % 256 = c0.toInt))) h_484 (0 + 2 + 0) (0 + 3 + 0) 48 #[.val (.ref a), .val (.ref r), .val (.int (0 : Int32)), .val (.int (1 : Int32)), .val .null, .val (.ref o_485)] [(.int (0 : Int32)), (.ref a)]
  refine Go.putF (pc' := 51) (ty := .byte) (hw _ (List.mem_of_getElem? (i := 27) rfl)) f_497 f_495 (Or.inr ⟨(hw _ (List.mem_of_getElem? (i := 23) rfl)), rfl, rfl⟩) (hw _ (List.mem_of_getElem? (i := 8) rfl)) (by decide) rfl rfl d3_48 hg rfl ?_
  intro h_507 W_508
  have f_509 : Exa Z h_507 a "java/lang/String" := Exa.wr W_508 f_495
  have f_510 : Ary Z h_507 r .char [(.int c0)] := f_498.sm (Sm.wr W_508 n_481.symm)
  have f_512 : Ary Z h_507 o_485 .byte [(.int b0)] := A_505.sm (Sm.wr W_508 n_490.symm)
  have t_513 : a < h_507.size := Nat.lt_of_lt_of_le t_499 (Nat.le_of_eq W_508.size.symm)
  have t_514 : r < h_507.size := Nat.lt_of_lt_of_le t_500 (Nat.le_of_eq W_508.size.symm)
  have t_515 : o_485 < h_507.size := Nat.lt_of_lt_of_le t_488 (Nat.le_of_eq W_508.size.symm)
  have z_516 : n0 ≤ h_507.size := Nat.le_trans z_501 (Nat.le_of_eq W_508.size.symm)
  have b_517 : h0.size ≤ h_507.size := Nat.le_trans b_502 (Nat.le_of_eq W_508.size.symm)
  have K_518 : Keep h0 h_507 [a] := K_503.wr W_508 (Or.inl (List.mem_of_getElem? (i := 0) rfl))
  have O_519 : Old Z n0 h_507 := O_504.wr W_508 hg
  have f_511 : Sta Z h_507 "java/lang/String" "COMPACT_STRINGS" "Z" (.int cs) := Sta.ext O_519.2 hSCS
  have f_520 : Fld Z h_507 a "java/lang/String" "value" "[B" .null := Fld.other W_508 f_496 (Or.inr (slot_ne (Or.inr (hw _ (List.mem_of_getElem? (i := 22) rfl))) (Or.inr (hw _ (List.mem_of_getElem? (i := 23) rfl))) (by decide) (t := (.array .byte)) (t' := .byte) (by decide) (by decide)))
  have f_521 : Fld Z h_507 a "java/lang/String" "coder" "B" (.int (0 : Int32)) := Fld.same W_508 f_497
  refine Go.aloadN (pc' := 52) d3_51 rfl rfl rfl ?_
  refine Go.aload (pc' := 54) d3_52 rfl rfl rfl ?_
  refine Go.putF (pc' := 57) (ty := (.array .byte)) (hw _ (List.mem_of_getElem? (i := 26) rfl)) f_520 f_509 (Or.inr ⟨(hw _ (List.mem_of_getElem? (i := 22) rfl)), rfl, rfl⟩) (hw _ (List.mem_of_getElem? (i := 8) rfl)) (by decide) rfl rfl d3_54 hg rfl ?_
  intro h_522 W_523
  have f_524 : Exa Z h_522 a "java/lang/String" := Exa.wr W_523 f_509
  have f_525 : Ary Z h_522 r .char [(.int c0)] := f_510.sm (Sm.wr W_523 n_481.symm)
  have f_526 : Ary Z h_522 o_485 .byte [(.int b0)] := f_512.sm (Sm.wr W_523 n_490.symm)
  have t_528 : a < h_522.size := Nat.lt_of_lt_of_le t_513 (Nat.le_of_eq W_523.size.symm)
  have t_529 : r < h_522.size := Nat.lt_of_lt_of_le t_514 (Nat.le_of_eq W_523.size.symm)
  have t_530 : o_485 < h_522.size := Nat.lt_of_lt_of_le t_515 (Nat.le_of_eq W_523.size.symm)
  have z_531 : n0 ≤ h_522.size := Nat.le_trans z_516 (Nat.le_of_eq W_523.size.symm)
  have b_532 : h0.size ≤ h_522.size := Nat.le_trans b_517 (Nat.le_of_eq W_523.size.symm)
  have K_533 : Keep h0 h_522 [a] := K_518.wr W_523 (Or.inl (List.mem_of_getElem? (i := 0) rfl))
  have O_534 : Old Z n0 h_522 := O_519.wr W_523 hg
  have f_527 : Sta Z h_522 "java/lang/String" "COMPACT_STRINGS" "Z" (.int cs) := Sta.ext O_534.2 hSCS
  have f_535 : Fld Z h_522 a "java/lang/String" "value" "[B" (.ref o_485) := Fld.same W_523 f_520
  have f_536 : Fld Z h_522 a "java/lang/String" "coder" "B" (.int (0 : Int32)) := Fld.other W_523 f_521 (Or.inr (slot_ne (Or.inr (hw _ (List.mem_of_getElem? (i := 23) rfl))) (Or.inr (hw _ (List.mem_of_getElem? (i := 22) rfl))) (by decide) (t := .byte) (t' := (.array .byte)) (by decide) (by decide)))
  exact Go.ret0 d3_57 rfl ⟨rfl, K_533, o_485, f_535, t_530, f_536, b0, f_526, e_506⟩ (by decide) (by decide)
set_option maxRecDepth 65536 in
set_option maxHeartbeats 40000000 in
theorem m_s1_1 (l : Launch) (Z : State) (a0 : Array Value) (hw : ∀ d ∈ tables_1, d.before a0 Z = true) (a r : Addr) (c0 : Int32) (cs : Int32) (h0 : Heap) (n0 : Nat) (z0 : n0 ≤ h0.size) (hO : Old Z n0 h0) (hSCS : Sta Z Z.heap "java/lang/String" "COMPACT_STRINGS" "Z" (.int cs)) (hcs : cs.toInt ≠ 0) (hE : Exa Z h0 a "java/lang/String") (hFV : Fld Z h0 a "java/lang/String" "value" "[B" .null) (hFC : Fld Z h0 a "java/lang/String" "coder" "B" (.int (0 : Int32))) (hg : n0 ≤ a) (hR : Ary Z h0 r .char [.int c0]) (hc0 : 0 ≤ c0.toInt ∧ c0.toInt < 65536) (hd0 : c0.toInt < 256) : Mt .n l Z (⟨"java/lang/String", "<init>", "([C)V"⟩ : MethodName) jdk_42_method_3_code 2 none ({ frames := 5, cells := 2, slots := 3, locals := 78 } : Room) n0 (fun v h => v = none ∧ Keep h0 h [a] ∧ ∃ o : Addr, Fld Z h a "java/lang/String" "value" "[B" (.ref o) ∧ o < h.size ∧ (Fld Z h a "java/lang/String" "coder" "B" (.int (0 : Int32)) ∧ ∃ b0 : Int32, Ary Z h o .byte [.int b0] ∧ b0.toInt % 256 = c0.toInt)) h0 #[(.ref a), (.ref r)] := by
  refine Mt.go (Ls := #[.val (.ref a), .val (.ref r)]) (by first | exact plainFor_of_name (by decide +kernel) | decide +kernel | (simp [plainFor]; done)) (fun m => by first | (simp [entryFrame, mkF, argsToLocals, Value.category]; done) | rfl) ?_
  show (Go .n l ({ frames := 5, cells := 2, slots := 3, locals := 78 } : Room) Z (⟨"java/lang/String", "<init>", "([C)V"⟩ : MethodName) jdk_42_method_3_code 2 none n0 2 3 (fun v h => v = none ∧ Keep h0 h [a] ∧ ∃ o : Addr, Fld Z h a "java/lang/String" "value" "[B" (.ref o) ∧ o < h.size ∧ (Fld Z h a "java/lang/String" "coder" "B" (.int (0 : Int32)) ∧ ∃ b0 : Int32, Ary Z h o .byte [.int b0] ∧ b0.toInt % 256 = c0.toInt))) h0 0 0 0 #[.val (.ref a), .val (.ref r)] []
  have hTCS : Sta Z h0 "java/lang/String" "COMPACT_STRINGS" "Z" (.int cs) := Sta.ext hO.2 hSCS
  have n_537 : a ≠ r := by obtain ⟨_, Ag, -⟩ := hR; exact ne_arr hE (hw _ (List.mem_of_getElem? (i := 8) rfl)) Ag
  refine Go.aloadN (pc' := 1) d2_0 rfl rfl rfl ?_
  refine Go.aloadN (pc' := 2) d2_1 rfl rfl rfl ?_
  refine Go.iconst (pc' := 3) (v := (0 : Int32)) d2_2 rfl rfl ?_
  refine Go.aloadN (pc' := 4) d2_3 rfl rfl rfl ?_
  refine Go.alen (pc' := 5) (z := (1 : Int32)) hR rfl d2_4 rfl ?_
  refine Go.aconstNull (pc' := 6) d2_5 rfl ?_
  refine Go.callN (pc' := 9) (argsL := [(.ref r), (.int (0 : Int32)), (.int (1 : Int32)), .null]) (rest := []) (W := 0) rfl (hw _ (List.mem_of_getElem? (i := 13) rfl)) (hw _ (List.mem_of_getElem? (i := 14) rfl)) (hw _ (List.mem_of_getElem? (i := 9) rfl)) (hw _ (List.mem_of_getElem? (i := 16) rfl)) (by decide) (m_s2_1 l Z a0 hw a r c0 cs h0 n0 z0 hO hSCS hcs hE hFV hFC hg hR hc0 hd0) d2_6 rfl pd3 rfl rfl (Nat.le_of_eq rfl) (by decide) (by decide) (by decide) (by decide) rfl ?_
  rintro _ h_538 ⟨rfl, K, hs⟩
  have f_540 : Exa Z h_538 a "java/lang/String" := hE.keep K
  have f_543 : Ary Z h_538 r .char [(.int c0)] := hR.sm (Sm.keep K (ninS n_537.symm nin0))
  have t_544 : a < h_538.size := Nat.lt_of_lt_of_le hE.lt K.1
  have t_545 : r < h_538.size := Nat.lt_of_lt_of_le hR.lt K.1
  have z_546 : n0 ≤ h_538.size := Nat.le_trans z0 K.1
  have b_547 : h0.size ≤ h_538.size := Nat.le_trans (Nat.le_refl _) K.1
  have K_548 : Keep h0 h_538 [a] := (Keep.refl _ _).trans K (allS (Or.inl (List.mem_of_getElem? (i := 0) rfl)) all0)
  have O_549 : Old Z n0 h_538 := hO.keep K (allS hg all0)
  have f_539 : Sta Z h_538 "java/lang/String" "COMPACT_STRINGS" "Z" (.int cs) := Sta.ext O_549.2 hSCS
  show (Go .n l ({ frames := 5, cells := 2, slots := 3, locals := 78 } : Room) Z (⟨"java/lang/String", "<init>", "([C)V"⟩ : MethodName) jdk_42_method_3_code 2 none n0 2 3 (fun v h => v = none ∧ Keep h0 h [a] ∧ ∃ o : Addr, Fld Z h a "java/lang/String" "value" "[B" (.ref o) ∧ o < h.size ∧ (Fld Z h a "java/lang/String" "coder" "B" (.int (0 : Int32)) ∧ ∃ b0 : Int32, Ary Z h o .byte [.int b0] ∧ b0.toInt % 256 = c0.toInt))) h_538 (0 + 2) (0 + 3) 9 #[.val (.ref a), .val (.ref r)] []
  exact Go.ret0 d2_9 rfl ⟨rfl, K_548, hs⟩ (by decide) (by decide)
set_option maxRecDepth 65536 in
set_option maxHeartbeats 40000000 in
theorem m_s2_2 (l : Launch) (Z : State) (a0 : Array Value) (hw : ∀ d ∈ tables_1, d.before a0 Z = true) (a r : Addr) (c0 c1 : Int32) (cs : Int32) (h0 : Heap) (n0 : Nat) (z0 : n0 ≤ h0.size) (hO : Old Z n0 h0) (hSCS : Sta Z Z.heap "java/lang/String" "COMPACT_STRINGS" "Z" (.int cs)) (hcs : cs.toInt ≠ 0) (hE : Exa Z h0 a "java/lang/String") (hFV : Fld Z h0 a "java/lang/String" "value" "[B" .null) (hFC : Fld Z h0 a "java/lang/String" "coder" "B" (.int (0 : Int32))) (hg : n0 ≤ a) (hR : Ary Z h0 r .char [.int c0, .int c1]) (hc0 : 0 ≤ c0.toInt ∧ c0.toInt < 65536) (hc1 : 0 ≤ c1.toInt ∧ c1.toInt < 65536) (hd0 : c0.toInt < 256) (hd1 : c1.toInt < 256) : Mt .n l Z (⟨"java/lang/String", "<init>", "([CIILjava/lang/Void;)V"⟩ : MethodName) jdk_42_method_149_code 6 none ({ frames := 4, cells := 2, slots := 6, locals := 60 } : Room) n0 (fun v h => v = none ∧ Keep h0 h [a] ∧ ∃ o : Addr, Fld Z h a "java/lang/String" "value" "[B" (.ref o) ∧ o < h.size ∧ (Fld Z h a "java/lang/String" "coder" "B" (.int (0 : Int32)) ∧ ∃ b0 b1 : Int32, Ary Z h o .byte [.int b0, .int b1] ∧ b0.toInt % 256 = c0.toInt ∧ b1.toInt % 256 = c1.toInt)) h0 #[(.ref a), (.ref r), (.int (0 : Int32)), (.int (2 : Int32)), .null] := by
  refine Mt.go (Ls := #[.val (.ref a), .val (.ref r), .val (.int (0 : Int32)), .val (.int (2 : Int32)), .val .null, .unset]) (by first | exact plainFor_of_name (by decide +kernel) | decide +kernel | (simp [plainFor]; done)) (fun m => by first | (simp [entryFrame, mkF, argsToLocals, Value.category]; done) | rfl) ?_
  show (Go .n l ({ frames := 4, cells := 2, slots := 6, locals := 60 } : Room) Z (⟨"java/lang/String", "<init>", "([CIILjava/lang/Void;)V"⟩ : MethodName) jdk_42_method_149_code 6 none n0 2 6 (fun v h => v = none ∧ Keep h0 h [a] ∧ ∃ o : Addr, Fld Z h a "java/lang/String" "value" "[B" (.ref o) ∧ o < h.size ∧ (Fld Z h a "java/lang/String" "coder" "B" (.int (0 : Int32)) ∧ ∃ b0 b1 : Int32, Ary Z h o .byte [.int b0, .int b1] ∧ b0.toInt % 256 = c0.toInt ∧ b1.toInt % 256 = c1.toInt))) h0 0 0 0 #[.val (.ref a), .val (.ref r), .val (.int (0 : Int32)), .val (.int (2 : Int32)), .val .null, .unset] []
  have hTCS : Sta Z h0 "java/lang/String" "COMPACT_STRINGS" "Z" (.int cs) := Sta.ext hO.2 hSCS
  have n_550 : a ≠ r := by obtain ⟨_, Ag, -⟩ := hR; exact ne_arr hE (hw _ (List.mem_of_getElem? (i := 8) rfl)) Ag
  refine Go.aloadN (pc' := 1) d3_0 rfl rfl rfl ?_
  refine Go.initO (pc' := 4) (W := 0) (hw _ (List.mem_of_getElem? (i := 17) rfl)) (hw _ (List.mem_of_getElem? (i := 18) rfl)) (hw _ (List.mem_of_getElem? (i := 19) rfl)) d3_1 rfl (by decide) (Nat.le_of_eq rfl) (by decide) rfl ?_
  refine Go.iloadN (pc' := 5) d3_4 rfl rfl ?_
  refine Go.ifc (pc1 := 27) (pc2 := 8) d3_5 (by decide) (by decide) rfl (fun (c_551 : (2 : Int) ≠ 0) => ?_) (fun (c_551 : (2 : Int) = 0) => ?_)
  rotate_left
  · exact absurd c_551 (by decide)
  refine Go.getS (pc' := 30) (hw _ (List.mem_of_getElem? (i := 57) rfl)) hTCS d3_27 rfl ?_
  refine Go.ifc (pc1 := 58) (pc2 := 33) d3_30 (by decide) (by decide) rfl (fun (c_552 : cs.toInt = 0) => ?_) (fun (c_552 : cs.toInt ≠ 0) => ?_)
  · exact absurd c_552 hcs
  refine Go.aloadN (pc' := 34) d3_33 rfl rfl rfl ?_
  refine Go.iloadN (pc' := 35) d3_34 rfl rfl ?_
  refine Go.iloadN (pc' := 36) d3_35 rfl rfl ?_
  refine Go.callS (pc' := 39) (argsL := [(.ref r), (.int (0 : Int32)), (.int (2 : Int32))]) (rest := []) (W := 0) (hw _ (List.mem_of_getElem? (i := 65) rfl)) (hw _ (List.mem_of_getElem? (i := 66) rfl)) (hw _ (List.mem_of_getElem? (i := 67) rfl)) (hw _ (List.mem_of_getElem? (i := 68) rfl)) (by decide) (m_c3_2 l Z a0 hw r c0 c1 h0 n0 z0  hR hc0 hc1 hd0 hd1) d3_36 rfl pd1 rfl rfl (Nat.le_of_eq rfl) (by decide) (by decide) (by decide) (by decide) rfl ?_
  rintro _ h_553 ⟨o_554, rfl, K_555, q_556, t_557, ho_558⟩
  have n_559 : a ≠ o_554 := Nat.ne_of_lt (Nat.lt_of_lt_of_le hE.lt q_556)
  have n_560 : r ≠ o_554 := Nat.ne_of_lt (Nat.lt_of_lt_of_le hR.lt q_556)
  have g_561 : n0 ≤ o_554 := Nat.le_trans z0 q_556
  have g_562 : h0.size ≤ o_554 := Nat.le_trans (Nat.le_refl _) q_556
  have f_564 : Exa Z h_553 a "java/lang/String" := hE.sm (Sm.keep K_555 nin0)
  have f_565 : Fld Z h_553 a "java/lang/String" "value" "[B" .null := hFV.sm (Sm.keep K_555 nin0)
  have f_566 : Fld Z h_553 a "java/lang/String" "coder" "B" (.int (0 : Int32)) := hFC.sm (Sm.keep K_555 nin0)
  have f_567 : Ary Z h_553 r .char [(.int c0), (.int c1)] := hR.sm (Sm.keep K_555 nin0)
  have t_568 : a < h_553.size := Nat.lt_of_lt_of_le hE.lt K_555.1
  have t_569 : r < h_553.size := Nat.lt_of_lt_of_le hR.lt K_555.1
  have z_570 : n0 ≤ h_553.size := Nat.le_trans z0 K_555.1
  have b_571 : h0.size ≤ h_553.size := Nat.le_trans (Nat.le_refl _) K_555.1
  have K_572 : Keep h0 h_553 [a] := (Keep.refl _ _).trans K_555 all0
  have O_573 : Old Z n0 h_553 := hO.keep K_555 all0
  have f_563 : Sta Z h_553 "java/lang/String" "COMPACT_STRINGS" "Z" (.int cs) := Sta.ext O_573.2 hSCS
  show (Go .n l ({ frames := 4, cells := 2, slots := 6, locals := 60 } : Room) Z (⟨"java/lang/String", "<init>", "([CIILjava/lang/Void;)V"⟩ : MethodName) jdk_42_method_149_code 6 none n0 2 6 (fun v h => v = none ∧ Keep h0 h [a] ∧ ∃ o : Addr, Fld Z h a "java/lang/String" "value" "[B" (.ref o) ∧ o < h.size ∧ (Fld Z h a "java/lang/String" "coder" "B" (.int (0 : Int32)) ∧ ∃ b0 b1 : Int32, Ary Z h o .byte [.int b0, .int b1] ∧ b0.toInt % 256 = c0.toInt ∧ b1.toInt % 256 = c1.toInt))) h_553 (0 + 2) (0 + 6) 39 #[.val (.ref a), .val (.ref r), .val (.int (0 : Int32)), .val (.int (2 : Int32)), .val .null, .unset] [(.ref o_554)]
  obtain ⟨b0, b1, A_574, e_575, e_576⟩ := ho_558
  refine Go.astore (pc' := 41) (Ls' := #[.val (.ref a), .val (.ref r), .val (.int (0 : Int32)), .val (.int (2 : Int32)), .val .null, .val (.ref o_554)]) d3_39 rfl rfl rfl ?_
  refine Go.aloadN (pc' := 42) d3_41 rfl rfl rfl ?_
  refine Go.aload (pc' := 44) d3_42 rfl rfl rfl ?_
  refine Go.iloadN (pc' := 45) d3_44 rfl rfl ?_
  refine Go.callS (pc' := 48) (argsL := [(.ref o_554), (.int (2 : Int32))]) (rest := [(.ref a)]) (W := 1) (hw _ (List.mem_of_getElem? (i := 72) rfl)) (hw _ (List.mem_of_getElem? (i := 73) rfl)) (hw _ (List.mem_of_getElem? (i := 67) rfl)) (hw _ (List.mem_of_getElem? (i := 74) rfl)) (by decide) (m_cl2_0 l Z a0 hw o_554 [.int b0, .int b1] h_553 n0 z_570 A_574 rfl) d3_45 rfl pd2 rfl rfl (Nat.le_of_eq rfl) (by decide) (by decide) (by decide) (by decide) rfl ?_
  rintro _ _ ⟨rfl, rfl⟩
  show (Go .n l ({ frames := 4, cells := 2, slots := 6, locals := 60 } : Room) Z (⟨"java/lang/String", "<init>", "([CIILjava/lang/Void;)V"⟩ : MethodName) jdk_42_method_149_code 6 none n0 2 6 (fun v h => v = none ∧ Keep h0 h [a] ∧ ∃ o : Addr, Fld Z h a "java/lang/String" "value" "[B" (.ref o) ∧ o < h.size ∧ (Fld Z h a "java/lang/String" "coder" "B" (.int (0 : Int32)) ∧ ∃ b0 b1 : Int32, Ary Z h o .byte [.int b0, .int b1] ∧ b0.toInt % 256 = c0.toInt ∧ b1.toInt % 256 = c1.toInt))) h_553 (0 + 2 + 0) (0 + 6 + 0) 48 #[.val (.ref a), .val (.ref r), .val (.int (0 : Int32)), .val (.int (2 : Int32)), .val .null, .val (.ref o_554)] [(.int (0 : Int32)), (.ref a)]
  refine Go.putF (pc' := 51) (ty := .byte) (hw _ (List.mem_of_getElem? (i := 27) rfl)) f_566 f_564 (Or.inr ⟨(hw _ (List.mem_of_getElem? (i := 23) rfl)), rfl, rfl⟩) (hw _ (List.mem_of_getElem? (i := 8) rfl)) (by decide) rfl rfl d3_48 hg rfl ?_
  intro h_577 W_578
  have f_579 : Exa Z h_577 a "java/lang/String" := Exa.wr W_578 f_564
  have f_580 : Ary Z h_577 r .char [(.int c0), (.int c1)] := f_567.sm (Sm.wr W_578 n_550.symm)
  have f_582 : Ary Z h_577 o_554 .byte [(.int b0), (.int b1)] := A_574.sm (Sm.wr W_578 n_559.symm)
  have t_583 : a < h_577.size := Nat.lt_of_lt_of_le t_568 (Nat.le_of_eq W_578.size.symm)
  have t_584 : r < h_577.size := Nat.lt_of_lt_of_le t_569 (Nat.le_of_eq W_578.size.symm)
  have t_585 : o_554 < h_577.size := Nat.lt_of_lt_of_le t_557 (Nat.le_of_eq W_578.size.symm)
  have z_586 : n0 ≤ h_577.size := Nat.le_trans z_570 (Nat.le_of_eq W_578.size.symm)
  have b_587 : h0.size ≤ h_577.size := Nat.le_trans b_571 (Nat.le_of_eq W_578.size.symm)
  have K_588 : Keep h0 h_577 [a] := K_572.wr W_578 (Or.inl (List.mem_of_getElem? (i := 0) rfl))
  have O_589 : Old Z n0 h_577 := O_573.wr W_578 hg
  have f_581 : Sta Z h_577 "java/lang/String" "COMPACT_STRINGS" "Z" (.int cs) := Sta.ext O_589.2 hSCS
  have f_590 : Fld Z h_577 a "java/lang/String" "value" "[B" .null := Fld.other W_578 f_565 (Or.inr (slot_ne (Or.inr (hw _ (List.mem_of_getElem? (i := 22) rfl))) (Or.inr (hw _ (List.mem_of_getElem? (i := 23) rfl))) (by decide) (t := (.array .byte)) (t' := .byte) (by decide) (by decide)))
  have f_591 : Fld Z h_577 a "java/lang/String" "coder" "B" (.int (0 : Int32)) := Fld.same W_578 f_566
  refine Go.aloadN (pc' := 52) d3_51 rfl rfl rfl ?_
  refine Go.aload (pc' := 54) d3_52 rfl rfl rfl ?_
  refine Go.putF (pc' := 57) (ty := (.array .byte)) (hw _ (List.mem_of_getElem? (i := 26) rfl)) f_590 f_579 (Or.inr ⟨(hw _ (List.mem_of_getElem? (i := 22) rfl)), rfl, rfl⟩) (hw _ (List.mem_of_getElem? (i := 8) rfl)) (by decide) rfl rfl d3_54 hg rfl ?_
  intro h_592 W_593
  have f_594 : Exa Z h_592 a "java/lang/String" := Exa.wr W_593 f_579
  have f_595 : Ary Z h_592 r .char [(.int c0), (.int c1)] := f_580.sm (Sm.wr W_593 n_550.symm)
  have f_596 : Ary Z h_592 o_554 .byte [(.int b0), (.int b1)] := f_582.sm (Sm.wr W_593 n_559.symm)
  have t_598 : a < h_592.size := Nat.lt_of_lt_of_le t_583 (Nat.le_of_eq W_593.size.symm)
  have t_599 : r < h_592.size := Nat.lt_of_lt_of_le t_584 (Nat.le_of_eq W_593.size.symm)
  have t_600 : o_554 < h_592.size := Nat.lt_of_lt_of_le t_585 (Nat.le_of_eq W_593.size.symm)
  have z_601 : n0 ≤ h_592.size := Nat.le_trans z_586 (Nat.le_of_eq W_593.size.symm)
  have b_602 : h0.size ≤ h_592.size := Nat.le_trans b_587 (Nat.le_of_eq W_593.size.symm)
  have K_603 : Keep h0 h_592 [a] := K_588.wr W_593 (Or.inl (List.mem_of_getElem? (i := 0) rfl))
  have O_604 : Old Z n0 h_592 := O_589.wr W_593 hg
  have f_597 : Sta Z h_592 "java/lang/String" "COMPACT_STRINGS" "Z" (.int cs) := Sta.ext O_604.2 hSCS
  have f_605 : Fld Z h_592 a "java/lang/String" "value" "[B" (.ref o_554) := Fld.same W_593 f_590
  have f_606 : Fld Z h_592 a "java/lang/String" "coder" "B" (.int (0 : Int32)) := Fld.other W_593 f_591 (Or.inr (slot_ne (Or.inr (hw _ (List.mem_of_getElem? (i := 23) rfl))) (Or.inr (hw _ (List.mem_of_getElem? (i := 22) rfl))) (by decide) (t := .byte) (t' := (.array .byte)) (by decide) (by decide)))
  exact Go.ret0 d3_57 rfl ⟨rfl, K_603, o_554, f_605, t_600, f_606, b0, b1, f_596, e_575, e_576⟩ (by decide) (by decide)
set_option maxRecDepth 65536 in
set_option maxHeartbeats 40000000 in
theorem m_s1_2 (l : Launch) (Z : State) (a0 : Array Value) (hw : ∀ d ∈ tables_1, d.before a0 Z = true) (a r : Addr) (c0 c1 : Int32) (cs : Int32) (h0 : Heap) (n0 : Nat) (z0 : n0 ≤ h0.size) (hO : Old Z n0 h0) (hSCS : Sta Z Z.heap "java/lang/String" "COMPACT_STRINGS" "Z" (.int cs)) (hcs : cs.toInt ≠ 0) (hE : Exa Z h0 a "java/lang/String") (hFV : Fld Z h0 a "java/lang/String" "value" "[B" .null) (hFC : Fld Z h0 a "java/lang/String" "coder" "B" (.int (0 : Int32))) (hg : n0 ≤ a) (hR : Ary Z h0 r .char [.int c0, .int c1]) (hc0 : 0 ≤ c0.toInt ∧ c0.toInt < 65536) (hc1 : 0 ≤ c1.toInt ∧ c1.toInt < 65536) (hd0 : c0.toInt < 256) (hd1 : c1.toInt < 256) : Mt .n l Z (⟨"java/lang/String", "<init>", "([C)V"⟩ : MethodName) jdk_42_method_3_code 2 none ({ frames := 5, cells := 2, slots := 6, locals := 78 } : Room) n0 (fun v h => v = none ∧ Keep h0 h [a] ∧ ∃ o : Addr, Fld Z h a "java/lang/String" "value" "[B" (.ref o) ∧ o < h.size ∧ (Fld Z h a "java/lang/String" "coder" "B" (.int (0 : Int32)) ∧ ∃ b0 b1 : Int32, Ary Z h o .byte [.int b0, .int b1] ∧ b0.toInt % 256 = c0.toInt ∧ b1.toInt % 256 = c1.toInt)) h0 #[(.ref a), (.ref r)] := by
  refine Mt.go (Ls := #[.val (.ref a), .val (.ref r)]) (by first | exact plainFor_of_name (by decide +kernel) | decide +kernel | (simp [plainFor]; done)) (fun m => by first | (simp [entryFrame, mkF, argsToLocals, Value.category]; done) | rfl) ?_
  show (Go .n l ({ frames := 5, cells := 2, slots := 6, locals := 78 } : Room) Z (⟨"java/lang/String", "<init>", "([C)V"⟩ : MethodName) jdk_42_method_3_code 2 none n0 2 6 (fun v h => v = none ∧ Keep h0 h [a] ∧ ∃ o : Addr, Fld Z h a "java/lang/String" "value" "[B" (.ref o) ∧ o < h.size ∧ (Fld Z h a "java/lang/String" "coder" "B" (.int (0 : Int32)) ∧ ∃ b0 b1 : Int32, Ary Z h o .byte [.int b0, .int b1] ∧ b0.toInt % 256 = c0.toInt ∧ b1.toInt % 256 = c1.toInt))) h0 0 0 0 #[.val (.ref a), .val (.ref r)] []
  have hTCS : Sta Z h0 "java/lang/String" "COMPACT_STRINGS" "Z" (.int cs) := Sta.ext hO.2 hSCS
  have n_607 : a ≠ r := by obtain ⟨_, Ag, -⟩ := hR; exact ne_arr hE (hw _ (List.mem_of_getElem? (i := 8) rfl)) Ag
  refine Go.aloadN (pc' := 1) d2_0 rfl rfl rfl ?_
  refine Go.aloadN (pc' := 2) d2_1 rfl rfl rfl ?_
  refine Go.iconst (pc' := 3) (v := (0 : Int32)) d2_2 rfl rfl ?_
  refine Go.aloadN (pc' := 4) d2_3 rfl rfl rfl ?_
  refine Go.alen (pc' := 5) (z := (2 : Int32)) hR rfl d2_4 rfl ?_
  refine Go.aconstNull (pc' := 6) d2_5 rfl ?_
  refine Go.callN (pc' := 9) (argsL := [(.ref r), (.int (0 : Int32)), (.int (2 : Int32)), .null]) (rest := []) (W := 0) rfl (hw _ (List.mem_of_getElem? (i := 13) rfl)) (hw _ (List.mem_of_getElem? (i := 14) rfl)) (hw _ (List.mem_of_getElem? (i := 9) rfl)) (hw _ (List.mem_of_getElem? (i := 16) rfl)) (by decide) (m_s2_2 l Z a0 hw a r c0 c1 cs h0 n0 z0 hO hSCS hcs hE hFV hFC hg hR hc0 hc1 hd0 hd1) d2_6 rfl pd3 rfl rfl (Nat.le_of_eq rfl) (by decide) (by decide) (by decide) (by decide) rfl ?_
  rintro _ h_608 ⟨rfl, K, hs⟩
  have f_610 : Exa Z h_608 a "java/lang/String" := hE.keep K
  have f_613 : Ary Z h_608 r .char [(.int c0), (.int c1)] := hR.sm (Sm.keep K (ninS n_607.symm nin0))
  have t_614 : a < h_608.size := Nat.lt_of_lt_of_le hE.lt K.1
  have t_615 : r < h_608.size := Nat.lt_of_lt_of_le hR.lt K.1
  have z_616 : n0 ≤ h_608.size := Nat.le_trans z0 K.1
  have b_617 : h0.size ≤ h_608.size := Nat.le_trans (Nat.le_refl _) K.1
  have K_618 : Keep h0 h_608 [a] := (Keep.refl _ _).trans K (allS (Or.inl (List.mem_of_getElem? (i := 0) rfl)) all0)
  have O_619 : Old Z n0 h_608 := hO.keep K (allS hg all0)
  have f_609 : Sta Z h_608 "java/lang/String" "COMPACT_STRINGS" "Z" (.int cs) := Sta.ext O_619.2 hSCS
  show (Go .n l ({ frames := 5, cells := 2, slots := 6, locals := 78 } : Room) Z (⟨"java/lang/String", "<init>", "([C)V"⟩ : MethodName) jdk_42_method_3_code 2 none n0 2 6 (fun v h => v = none ∧ Keep h0 h [a] ∧ ∃ o : Addr, Fld Z h a "java/lang/String" "value" "[B" (.ref o) ∧ o < h.size ∧ (Fld Z h a "java/lang/String" "coder" "B" (.int (0 : Int32)) ∧ ∃ b0 b1 : Int32, Ary Z h o .byte [.int b0, .int b1] ∧ b0.toInt % 256 = c0.toInt ∧ b1.toInt % 256 = c1.toInt))) h_608 (0 + 2) (0 + 6) 9 #[.val (.ref a), .val (.ref r)] []
  exact Go.ret0 d2_9 rfl ⟨rfl, K_618, hs⟩ (by decide) (by decide)
set_option maxRecDepth 65536 in
set_option maxHeartbeats 40000000 in
theorem m_s2_3 (l : Launch) (Z : State) (a0 : Array Value) (hw : ∀ d ∈ tables_1, d.before a0 Z = true) (a r : Addr) (c0 c1 c2 : Int32) (cs : Int32) (h0 : Heap) (n0 : Nat) (z0 : n0 ≤ h0.size) (hO : Old Z n0 h0) (hSCS : Sta Z Z.heap "java/lang/String" "COMPACT_STRINGS" "Z" (.int cs)) (hcs : cs.toInt ≠ 0) (hE : Exa Z h0 a "java/lang/String") (hFV : Fld Z h0 a "java/lang/String" "value" "[B" .null) (hFC : Fld Z h0 a "java/lang/String" "coder" "B" (.int (0 : Int32))) (hg : n0 ≤ a) (hR : Ary Z h0 r .char [.int c0, .int c1, .int c2]) (hc0 : 0 ≤ c0.toInt ∧ c0.toInt < 65536) (hc1 : 0 ≤ c1.toInt ∧ c1.toInt < 65536) (hc2 : 0 ≤ c2.toInt ∧ c2.toInt < 65536) (hd0 : c0.toInt < 256) (hd1 : c1.toInt < 256) (hd2 : c2.toInt < 256) : Mt .n l Z (⟨"java/lang/String", "<init>", "([CIILjava/lang/Void;)V"⟩ : MethodName) jdk_42_method_149_code 6 none ({ frames := 4, cells := 2, slots := 9, locals := 60 } : Room) n0 (fun v h => v = none ∧ Keep h0 h [a] ∧ ∃ o : Addr, Fld Z h a "java/lang/String" "value" "[B" (.ref o) ∧ o < h.size ∧ (Fld Z h a "java/lang/String" "coder" "B" (.int (0 : Int32)) ∧ ∃ b0 b1 b2 : Int32, Ary Z h o .byte [.int b0, .int b1, .int b2] ∧ b0.toInt % 256 = c0.toInt ∧ b1.toInt % 256 = c1.toInt ∧ b2.toInt % 256 = c2.toInt)) h0 #[(.ref a), (.ref r), (.int (0 : Int32)), (.int (3 : Int32)), .null] := by
  refine Mt.go (Ls := #[.val (.ref a), .val (.ref r), .val (.int (0 : Int32)), .val (.int (3 : Int32)), .val .null, .unset]) (by first | exact plainFor_of_name (by decide +kernel) | decide +kernel | (simp [plainFor]; done)) (fun m => by first | (simp [entryFrame, mkF, argsToLocals, Value.category]; done) | rfl) ?_
  show (Go .n l ({ frames := 4, cells := 2, slots := 9, locals := 60 } : Room) Z (⟨"java/lang/String", "<init>", "([CIILjava/lang/Void;)V"⟩ : MethodName) jdk_42_method_149_code 6 none n0 2 9 (fun v h => v = none ∧ Keep h0 h [a] ∧ ∃ o : Addr, Fld Z h a "java/lang/String" "value" "[B" (.ref o) ∧ o < h.size ∧ (Fld Z h a "java/lang/String" "coder" "B" (.int (0 : Int32)) ∧ ∃ b0 b1 b2 : Int32, Ary Z h o .byte [.int b0, .int b1, .int b2] ∧ b0.toInt % 256 = c0.toInt ∧ b1.toInt % 256 = c1.toInt ∧ b2.toInt % 256 = c2.toInt))) h0 0 0 0 #[.val (.ref a), .val (.ref r), .val (.int (0 : Int32)), .val (.int (3 : Int32)), .val .null, .unset] []
  have hTCS : Sta Z h0 "java/lang/String" "COMPACT_STRINGS" "Z" (.int cs) := Sta.ext hO.2 hSCS
  have n_620 : a ≠ r := by obtain ⟨_, Ag, -⟩ := hR; exact ne_arr hE (hw _ (List.mem_of_getElem? (i := 8) rfl)) Ag
  refine Go.aloadN (pc' := 1) d3_0 rfl rfl rfl ?_
  refine Go.initO (pc' := 4) (W := 0) (hw _ (List.mem_of_getElem? (i := 17) rfl)) (hw _ (List.mem_of_getElem? (i := 18) rfl)) (hw _ (List.mem_of_getElem? (i := 19) rfl)) d3_1 rfl (by decide) (Nat.le_of_eq rfl) (by decide) rfl ?_
  refine Go.iloadN (pc' := 5) d3_4 rfl rfl ?_
  refine Go.ifc (pc1 := 27) (pc2 := 8) d3_5 (by decide) (by decide) rfl (fun (c_621 : (3 : Int) ≠ 0) => ?_) (fun (c_621 : (3 : Int) = 0) => ?_)
  rotate_left
  · exact absurd c_621 (by decide)
  refine Go.getS (pc' := 30) (hw _ (List.mem_of_getElem? (i := 57) rfl)) hTCS d3_27 rfl ?_
  refine Go.ifc (pc1 := 58) (pc2 := 33) d3_30 (by decide) (by decide) rfl (fun (c_622 : cs.toInt = 0) => ?_) (fun (c_622 : cs.toInt ≠ 0) => ?_)
  · exact absurd c_622 hcs
  refine Go.aloadN (pc' := 34) d3_33 rfl rfl rfl ?_
  refine Go.iloadN (pc' := 35) d3_34 rfl rfl ?_
  refine Go.iloadN (pc' := 36) d3_35 rfl rfl ?_
  refine Go.callS (pc' := 39) (argsL := [(.ref r), (.int (0 : Int32)), (.int (3 : Int32))]) (rest := []) (W := 0) (hw _ (List.mem_of_getElem? (i := 65) rfl)) (hw _ (List.mem_of_getElem? (i := 66) rfl)) (hw _ (List.mem_of_getElem? (i := 67) rfl)) (hw _ (List.mem_of_getElem? (i := 68) rfl)) (by decide) (m_c3_3 l Z a0 hw r c0 c1 c2 h0 n0 z0  hR hc0 hc1 hc2 hd0 hd1 hd2) d3_36 rfl pd1 rfl rfl (Nat.le_of_eq rfl) (by decide) (by decide) (by decide) (by decide) rfl ?_
  rintro _ h_623 ⟨o_624, rfl, K_625, q_626, t_627, ho_628⟩
  have n_629 : a ≠ o_624 := Nat.ne_of_lt (Nat.lt_of_lt_of_le hE.lt q_626)
  have n_630 : r ≠ o_624 := Nat.ne_of_lt (Nat.lt_of_lt_of_le hR.lt q_626)
  have g_631 : n0 ≤ o_624 := Nat.le_trans z0 q_626
  have g_632 : h0.size ≤ o_624 := Nat.le_trans (Nat.le_refl _) q_626
  have f_634 : Exa Z h_623 a "java/lang/String" := hE.sm (Sm.keep K_625 nin0)
  have f_635 : Fld Z h_623 a "java/lang/String" "value" "[B" .null := hFV.sm (Sm.keep K_625 nin0)
  have f_636 : Fld Z h_623 a "java/lang/String" "coder" "B" (.int (0 : Int32)) := hFC.sm (Sm.keep K_625 nin0)
  have f_637 : Ary Z h_623 r .char [(.int c0), (.int c1), (.int c2)] := hR.sm (Sm.keep K_625 nin0)
  have t_638 : a < h_623.size := Nat.lt_of_lt_of_le hE.lt K_625.1
  have t_639 : r < h_623.size := Nat.lt_of_lt_of_le hR.lt K_625.1
  have z_640 : n0 ≤ h_623.size := Nat.le_trans z0 K_625.1
  have b_641 : h0.size ≤ h_623.size := Nat.le_trans (Nat.le_refl _) K_625.1
  have K_642 : Keep h0 h_623 [a] := (Keep.refl _ _).trans K_625 all0
  have O_643 : Old Z n0 h_623 := hO.keep K_625 all0
  have f_633 : Sta Z h_623 "java/lang/String" "COMPACT_STRINGS" "Z" (.int cs) := Sta.ext O_643.2 hSCS
  show (Go .n l ({ frames := 4, cells := 2, slots := 9, locals := 60 } : Room) Z (⟨"java/lang/String", "<init>", "([CIILjava/lang/Void;)V"⟩ : MethodName) jdk_42_method_149_code 6 none n0 2 9 (fun v h => v = none ∧ Keep h0 h [a] ∧ ∃ o : Addr, Fld Z h a "java/lang/String" "value" "[B" (.ref o) ∧ o < h.size ∧ (Fld Z h a "java/lang/String" "coder" "B" (.int (0 : Int32)) ∧ ∃ b0 b1 b2 : Int32, Ary Z h o .byte [.int b0, .int b1, .int b2] ∧ b0.toInt % 256 = c0.toInt ∧ b1.toInt % 256 = c1.toInt ∧ b2.toInt % 256 = c2.toInt))) h_623 (0 + 2) (0 + 9) 39 #[.val (.ref a), .val (.ref r), .val (.int (0 : Int32)), .val (.int (3 : Int32)), .val .null, .unset] [(.ref o_624)]
  obtain ⟨b0, b1, b2, A_644, e_645, e_646, e_647⟩ := ho_628
  refine Go.astore (pc' := 41) (Ls' := #[.val (.ref a), .val (.ref r), .val (.int (0 : Int32)), .val (.int (3 : Int32)), .val .null, .val (.ref o_624)]) d3_39 rfl rfl rfl ?_
  refine Go.aloadN (pc' := 42) d3_41 rfl rfl rfl ?_
  refine Go.aload (pc' := 44) d3_42 rfl rfl rfl ?_
  refine Go.iloadN (pc' := 45) d3_44 rfl rfl ?_
  refine Go.callS (pc' := 48) (argsL := [(.ref o_624), (.int (3 : Int32))]) (rest := [(.ref a)]) (W := 1) (hw _ (List.mem_of_getElem? (i := 72) rfl)) (hw _ (List.mem_of_getElem? (i := 73) rfl)) (hw _ (List.mem_of_getElem? (i := 67) rfl)) (hw _ (List.mem_of_getElem? (i := 74) rfl)) (by decide) (m_cl3_0 l Z a0 hw o_624 [.int b0, .int b1, .int b2] h_623 n0 z_640 A_644 rfl) d3_45 rfl pd2 rfl rfl (Nat.le_of_eq rfl) (by decide) (by decide) (by decide) (by decide) rfl ?_
  rintro _ _ ⟨rfl, rfl⟩
  show (Go .n l ({ frames := 4, cells := 2, slots := 9, locals := 60 } : Room) Z (⟨"java/lang/String", "<init>", "([CIILjava/lang/Void;)V"⟩ : MethodName) jdk_42_method_149_code 6 none n0 2 9 (fun v h => v = none ∧ Keep h0 h [a] ∧ ∃ o : Addr, Fld Z h a "java/lang/String" "value" "[B" (.ref o) ∧ o < h.size ∧ (Fld Z h a "java/lang/String" "coder" "B" (.int (0 : Int32)) ∧ ∃ b0 b1 b2 : Int32, Ary Z h o .byte [.int b0, .int b1, .int b2] ∧ b0.toInt % 256 = c0.toInt ∧ b1.toInt % 256 = c1.toInt ∧ b2.toInt % 256 = c2.toInt))) h_623 (0 + 2 + 0) (0 + 9 + 0) 48 #[.val (.ref a), .val (.ref r), .val (.int (0 : Int32)), .val (.int (3 : Int32)), .val .null, .val (.ref o_624)] [(.int (0 : Int32)), (.ref a)]
  refine Go.putF (pc' := 51) (ty := .byte) (hw _ (List.mem_of_getElem? (i := 27) rfl)) f_636 f_634 (Or.inr ⟨(hw _ (List.mem_of_getElem? (i := 23) rfl)), rfl, rfl⟩) (hw _ (List.mem_of_getElem? (i := 8) rfl)) (by decide) rfl rfl d3_48 hg rfl ?_
  intro h_648 W_649
  have f_650 : Exa Z h_648 a "java/lang/String" := Exa.wr W_649 f_634
  have f_651 : Ary Z h_648 r .char [(.int c0), (.int c1), (.int c2)] := f_637.sm (Sm.wr W_649 n_620.symm)
  have f_653 : Ary Z h_648 o_624 .byte [(.int b0), (.int b1), (.int b2)] := A_644.sm (Sm.wr W_649 n_629.symm)
  have t_654 : a < h_648.size := Nat.lt_of_lt_of_le t_638 (Nat.le_of_eq W_649.size.symm)
  have t_655 : r < h_648.size := Nat.lt_of_lt_of_le t_639 (Nat.le_of_eq W_649.size.symm)
  have t_656 : o_624 < h_648.size := Nat.lt_of_lt_of_le t_627 (Nat.le_of_eq W_649.size.symm)
  have z_657 : n0 ≤ h_648.size := Nat.le_trans z_640 (Nat.le_of_eq W_649.size.symm)
  have b_658 : h0.size ≤ h_648.size := Nat.le_trans b_641 (Nat.le_of_eq W_649.size.symm)
  have K_659 : Keep h0 h_648 [a] := K_642.wr W_649 (Or.inl (List.mem_of_getElem? (i := 0) rfl))
  have O_660 : Old Z n0 h_648 := O_643.wr W_649 hg
  have f_652 : Sta Z h_648 "java/lang/String" "COMPACT_STRINGS" "Z" (.int cs) := Sta.ext O_660.2 hSCS
  have f_661 : Fld Z h_648 a "java/lang/String" "value" "[B" .null := Fld.other W_649 f_635 (Or.inr (slot_ne (Or.inr (hw _ (List.mem_of_getElem? (i := 22) rfl))) (Or.inr (hw _ (List.mem_of_getElem? (i := 23) rfl))) (by decide) (t := (.array .byte)) (t' := .byte) (by decide) (by decide)))
  have f_662 : Fld Z h_648 a "java/lang/String" "coder" "B" (.int (0 : Int32)) := Fld.same W_649 f_636
  refine Go.aloadN (pc' := 52) d3_51 rfl rfl rfl ?_
  refine Go.aload (pc' := 54) d3_52 rfl rfl rfl ?_
  refine Go.putF (pc' := 57) (ty := (.array .byte)) (hw _ (List.mem_of_getElem? (i := 26) rfl)) f_661 f_650 (Or.inr ⟨(hw _ (List.mem_of_getElem? (i := 22) rfl)), rfl, rfl⟩) (hw _ (List.mem_of_getElem? (i := 8) rfl)) (by decide) rfl rfl d3_54 hg rfl ?_
  intro h_663 W_664
  have f_665 : Exa Z h_663 a "java/lang/String" := Exa.wr W_664 f_650
  have f_666 : Ary Z h_663 r .char [(.int c0), (.int c1), (.int c2)] := f_651.sm (Sm.wr W_664 n_620.symm)
  have f_667 : Ary Z h_663 o_624 .byte [(.int b0), (.int b1), (.int b2)] := f_653.sm (Sm.wr W_664 n_629.symm)
  have t_669 : a < h_663.size := Nat.lt_of_lt_of_le t_654 (Nat.le_of_eq W_664.size.symm)
  have t_670 : r < h_663.size := Nat.lt_of_lt_of_le t_655 (Nat.le_of_eq W_664.size.symm)
  have t_671 : o_624 < h_663.size := Nat.lt_of_lt_of_le t_656 (Nat.le_of_eq W_664.size.symm)
  have z_672 : n0 ≤ h_663.size := Nat.le_trans z_657 (Nat.le_of_eq W_664.size.symm)
  have b_673 : h0.size ≤ h_663.size := Nat.le_trans b_658 (Nat.le_of_eq W_664.size.symm)
  have K_674 : Keep h0 h_663 [a] := K_659.wr W_664 (Or.inl (List.mem_of_getElem? (i := 0) rfl))
  have O_675 : Old Z n0 h_663 := O_660.wr W_664 hg
  have f_668 : Sta Z h_663 "java/lang/String" "COMPACT_STRINGS" "Z" (.int cs) := Sta.ext O_675.2 hSCS
  have f_676 : Fld Z h_663 a "java/lang/String" "value" "[B" (.ref o_624) := Fld.same W_664 f_661
  have f_677 : Fld Z h_663 a "java/lang/String" "coder" "B" (.int (0 : Int32)) := Fld.other W_664 f_662 (Or.inr (slot_ne (Or.inr (hw _ (List.mem_of_getElem? (i := 23) rfl))) (Or.inr (hw _ (List.mem_of_getElem? (i := 22) rfl))) (by decide) (t := .byte) (t' := (.array .byte)) (by decide) (by decide)))
  exact Go.ret0 d3_57 rfl ⟨rfl, K_674, o_624, f_676, t_671, f_677, b0, b1, b2, f_667, e_645, e_646, e_647⟩ (by decide) (by decide)
set_option maxRecDepth 65536 in
set_option maxHeartbeats 40000000 in
theorem m_s1_3 (l : Launch) (Z : State) (a0 : Array Value) (hw : ∀ d ∈ tables_1, d.before a0 Z = true) (a r : Addr) (c0 c1 c2 : Int32) (cs : Int32) (h0 : Heap) (n0 : Nat) (z0 : n0 ≤ h0.size) (hO : Old Z n0 h0) (hSCS : Sta Z Z.heap "java/lang/String" "COMPACT_STRINGS" "Z" (.int cs)) (hcs : cs.toInt ≠ 0) (hE : Exa Z h0 a "java/lang/String") (hFV : Fld Z h0 a "java/lang/String" "value" "[B" .null) (hFC : Fld Z h0 a "java/lang/String" "coder" "B" (.int (0 : Int32))) (hg : n0 ≤ a) (hR : Ary Z h0 r .char [.int c0, .int c1, .int c2]) (hc0 : 0 ≤ c0.toInt ∧ c0.toInt < 65536) (hc1 : 0 ≤ c1.toInt ∧ c1.toInt < 65536) (hc2 : 0 ≤ c2.toInt ∧ c2.toInt < 65536) (hd0 : c0.toInt < 256) (hd1 : c1.toInt < 256) (hd2 : c2.toInt < 256) : Mt .n l Z (⟨"java/lang/String", "<init>", "([C)V"⟩ : MethodName) jdk_42_method_3_code 2 none ({ frames := 5, cells := 2, slots := 9, locals := 78 } : Room) n0 (fun v h => v = none ∧ Keep h0 h [a] ∧ ∃ o : Addr, Fld Z h a "java/lang/String" "value" "[B" (.ref o) ∧ o < h.size ∧ (Fld Z h a "java/lang/String" "coder" "B" (.int (0 : Int32)) ∧ ∃ b0 b1 b2 : Int32, Ary Z h o .byte [.int b0, .int b1, .int b2] ∧ b0.toInt % 256 = c0.toInt ∧ b1.toInt % 256 = c1.toInt ∧ b2.toInt % 256 = c2.toInt)) h0 #[(.ref a), (.ref r)] := by
  refine Mt.go (Ls := #[.val (.ref a), .val (.ref r)]) (by first | exact plainFor_of_name (by decide +kernel) | decide +kernel | (simp [plainFor]; done)) (fun m => by first | (simp [entryFrame, mkF, argsToLocals, Value.category]; done) | rfl) ?_
  show (Go .n l ({ frames := 5, cells := 2, slots := 9, locals := 78 } : Room) Z (⟨"java/lang/String", "<init>", "([C)V"⟩ : MethodName) jdk_42_method_3_code 2 none n0 2 9 (fun v h => v = none ∧ Keep h0 h [a] ∧ ∃ o : Addr, Fld Z h a "java/lang/String" "value" "[B" (.ref o) ∧ o < h.size ∧ (Fld Z h a "java/lang/String" "coder" "B" (.int (0 : Int32)) ∧ ∃ b0 b1 b2 : Int32, Ary Z h o .byte [.int b0, .int b1, .int b2] ∧ b0.toInt % 256 = c0.toInt ∧ b1.toInt % 256 = c1.toInt ∧ b2.toInt % 256 = c2.toInt))) h0 0 0 0 #[.val (.ref a), .val (.ref r)] []
  have hTCS : Sta Z h0 "java/lang/String" "COMPACT_STRINGS" "Z" (.int cs) := Sta.ext hO.2 hSCS
  have n_678 : a ≠ r := by obtain ⟨_, Ag, -⟩ := hR; exact ne_arr hE (hw _ (List.mem_of_getElem? (i := 8) rfl)) Ag
  refine Go.aloadN (pc' := 1) d2_0 rfl rfl rfl ?_
  refine Go.aloadN (pc' := 2) d2_1 rfl rfl rfl ?_
  refine Go.iconst (pc' := 3) (v := (0 : Int32)) d2_2 rfl rfl ?_
  refine Go.aloadN (pc' := 4) d2_3 rfl rfl rfl ?_
  refine Go.alen (pc' := 5) (z := (3 : Int32)) hR rfl d2_4 rfl ?_
  refine Go.aconstNull (pc' := 6) d2_5 rfl ?_
  refine Go.callN (pc' := 9) (argsL := [(.ref r), (.int (0 : Int32)), (.int (3 : Int32)), .null]) (rest := []) (W := 0) rfl (hw _ (List.mem_of_getElem? (i := 13) rfl)) (hw _ (List.mem_of_getElem? (i := 14) rfl)) (hw _ (List.mem_of_getElem? (i := 9) rfl)) (hw _ (List.mem_of_getElem? (i := 16) rfl)) (by decide) (m_s2_3 l Z a0 hw a r c0 c1 c2 cs h0 n0 z0 hO hSCS hcs hE hFV hFC hg hR hc0 hc1 hc2 hd0 hd1 hd2) d2_6 rfl pd3 rfl rfl (Nat.le_of_eq rfl) (by decide) (by decide) (by decide) (by decide) rfl ?_
  rintro _ h_679 ⟨rfl, K, hs⟩
  have f_681 : Exa Z h_679 a "java/lang/String" := hE.keep K
  have f_684 : Ary Z h_679 r .char [(.int c0), (.int c1), (.int c2)] := hR.sm (Sm.keep K (ninS n_678.symm nin0))
  have t_685 : a < h_679.size := Nat.lt_of_lt_of_le hE.lt K.1
  have t_686 : r < h_679.size := Nat.lt_of_lt_of_le hR.lt K.1
  have z_687 : n0 ≤ h_679.size := Nat.le_trans z0 K.1
  have b_688 : h0.size ≤ h_679.size := Nat.le_trans (Nat.le_refl _) K.1
  have K_689 : Keep h0 h_679 [a] := (Keep.refl _ _).trans K (allS (Or.inl (List.mem_of_getElem? (i := 0) rfl)) all0)
  have O_690 : Old Z n0 h_679 := hO.keep K (allS hg all0)
  have f_680 : Sta Z h_679 "java/lang/String" "COMPACT_STRINGS" "Z" (.int cs) := Sta.ext O_690.2 hSCS
  show (Go .n l ({ frames := 5, cells := 2, slots := 9, locals := 78 } : Room) Z (⟨"java/lang/String", "<init>", "([C)V"⟩ : MethodName) jdk_42_method_3_code 2 none n0 2 9 (fun v h => v = none ∧ Keep h0 h [a] ∧ ∃ o : Addr, Fld Z h a "java/lang/String" "value" "[B" (.ref o) ∧ o < h.size ∧ (Fld Z h a "java/lang/String" "coder" "B" (.int (0 : Int32)) ∧ ∃ b0 b1 b2 : Int32, Ary Z h o .byte [.int b0, .int b1, .int b2] ∧ b0.toInt % 256 = c0.toInt ∧ b1.toInt % 256 = c1.toInt ∧ b2.toInt % 256 = c2.toInt))) h_679 (0 + 2) (0 + 9) 9 #[.val (.ref a), .val (.ref r)] []
  exact Go.ret0 d2_9 rfl ⟨rfl, K_689, hs⟩ (by decide) (by decide)
set_option maxRecDepth 65536 in
set_option maxHeartbeats 40000000 in
theorem m_s2_4 (l : Launch) (Z : State) (a0 : Array Value) (hw : ∀ d ∈ tables_1, d.before a0 Z = true) (a r : Addr) (c0 c1 c2 c3 : Int32) (cs : Int32) (h0 : Heap) (n0 : Nat) (z0 : n0 ≤ h0.size) (hO : Old Z n0 h0) (hSCS : Sta Z Z.heap "java/lang/String" "COMPACT_STRINGS" "Z" (.int cs)) (hcs : cs.toInt ≠ 0) (hE : Exa Z h0 a "java/lang/String") (hFV : Fld Z h0 a "java/lang/String" "value" "[B" .null) (hFC : Fld Z h0 a "java/lang/String" "coder" "B" (.int (0 : Int32))) (hg : n0 ≤ a) (hR : Ary Z h0 r .char [.int c0, .int c1, .int c2, .int c3]) (hc0 : 0 ≤ c0.toInt ∧ c0.toInt < 65536) (hc1 : 0 ≤ c1.toInt ∧ c1.toInt < 65536) (hc2 : 0 ≤ c2.toInt ∧ c2.toInt < 65536) (hc3 : 0 ≤ c3.toInt ∧ c3.toInt < 65536) (hd0 : c0.toInt < 256) (hd1 : c1.toInt < 256) (hd2 : c2.toInt < 256) (hd3 : c3.toInt < 256) : Mt .n l Z (⟨"java/lang/String", "<init>", "([CIILjava/lang/Void;)V"⟩ : MethodName) jdk_42_method_149_code 6 none ({ frames := 4, cells := 2, slots := 12, locals := 60 } : Room) n0 (fun v h => v = none ∧ Keep h0 h [a] ∧ ∃ o : Addr, Fld Z h a "java/lang/String" "value" "[B" (.ref o) ∧ o < h.size ∧ (Fld Z h a "java/lang/String" "coder" "B" (.int (0 : Int32)) ∧ ∃ b0 b1 b2 b3 : Int32, Ary Z h o .byte [.int b0, .int b1, .int b2, .int b3] ∧ b0.toInt % 256 = c0.toInt ∧ b1.toInt % 256 = c1.toInt ∧ b2.toInt % 256 = c2.toInt ∧ b3.toInt % 256 = c3.toInt)) h0 #[(.ref a), (.ref r), (.int (0 : Int32)), (.int (4 : Int32)), .null] := by
  refine Mt.go (Ls := #[.val (.ref a), .val (.ref r), .val (.int (0 : Int32)), .val (.int (4 : Int32)), .val .null, .unset]) (by first | exact plainFor_of_name (by decide +kernel) | decide +kernel | (simp [plainFor]; done)) (fun m => by first | (simp [entryFrame, mkF, argsToLocals, Value.category]; done) | rfl) ?_
  show (Go .n l ({ frames := 4, cells := 2, slots := 12, locals := 60 } : Room) Z (⟨"java/lang/String", "<init>", "([CIILjava/lang/Void;)V"⟩ : MethodName) jdk_42_method_149_code 6 none n0 2 12 (fun v h => v = none ∧ Keep h0 h [a] ∧ ∃ o : Addr, Fld Z h a "java/lang/String" "value" "[B" (.ref o) ∧ o < h.size ∧ (Fld Z h a "java/lang/String" "coder" "B" (.int (0 : Int32)) ∧ ∃ b0 b1 b2 b3 : Int32, Ary Z h o .byte [.int b0, .int b1, .int b2, .int b3] ∧ b0.toInt % 256 = c0.toInt ∧ b1.toInt % 256 = c1.toInt ∧ b2.toInt % 256 = c2.toInt ∧ b3.toInt % 256 = c3.toInt))) h0 0 0 0 #[.val (.ref a), .val (.ref r), .val (.int (0 : Int32)), .val (.int (4 : Int32)), .val .null, .unset] []
  have hTCS : Sta Z h0 "java/lang/String" "COMPACT_STRINGS" "Z" (.int cs) := Sta.ext hO.2 hSCS
  have n_691 : a ≠ r := by obtain ⟨_, Ag, -⟩ := hR; exact ne_arr hE (hw _ (List.mem_of_getElem? (i := 8) rfl)) Ag
  refine Go.aloadN (pc' := 1) d3_0 rfl rfl rfl ?_
  refine Go.initO (pc' := 4) (W := 0) (hw _ (List.mem_of_getElem? (i := 17) rfl)) (hw _ (List.mem_of_getElem? (i := 18) rfl)) (hw _ (List.mem_of_getElem? (i := 19) rfl)) d3_1 rfl (by decide) (Nat.le_of_eq rfl) (by decide) rfl ?_
  refine Go.iloadN (pc' := 5) d3_4 rfl rfl ?_
  refine Go.ifc (pc1 := 27) (pc2 := 8) d3_5 (by decide) (by decide) rfl (fun (c_692 : (4 : Int) ≠ 0) => ?_) (fun (c_692 : (4 : Int) = 0) => ?_)
  rotate_left
  · exact absurd c_692 (by decide)
  refine Go.getS (pc' := 30) (hw _ (List.mem_of_getElem? (i := 57) rfl)) hTCS d3_27 rfl ?_
  refine Go.ifc (pc1 := 58) (pc2 := 33) d3_30 (by decide) (by decide) rfl (fun (c_693 : cs.toInt = 0) => ?_) (fun (c_693 : cs.toInt ≠ 0) => ?_)
  · exact absurd c_693 hcs
  refine Go.aloadN (pc' := 34) d3_33 rfl rfl rfl ?_
  refine Go.iloadN (pc' := 35) d3_34 rfl rfl ?_
  refine Go.iloadN (pc' := 36) d3_35 rfl rfl ?_
  refine Go.callS (pc' := 39) (argsL := [(.ref r), (.int (0 : Int32)), (.int (4 : Int32))]) (rest := []) (W := 0) (hw _ (List.mem_of_getElem? (i := 65) rfl)) (hw _ (List.mem_of_getElem? (i := 66) rfl)) (hw _ (List.mem_of_getElem? (i := 67) rfl)) (hw _ (List.mem_of_getElem? (i := 68) rfl)) (by decide) (m_c3_4 l Z a0 hw r c0 c1 c2 c3 h0 n0 z0  hR hc0 hc1 hc2 hc3 hd0 hd1 hd2 hd3) d3_36 rfl pd1 rfl rfl (Nat.le_of_eq rfl) (by decide) (by decide) (by decide) (by decide) rfl ?_
  rintro _ h_694 ⟨o_695, rfl, K_696, q_697, t_698, ho_699⟩
  have n_700 : a ≠ o_695 := Nat.ne_of_lt (Nat.lt_of_lt_of_le hE.lt q_697)
  have n_701 : r ≠ o_695 := Nat.ne_of_lt (Nat.lt_of_lt_of_le hR.lt q_697)
  have g_702 : n0 ≤ o_695 := Nat.le_trans z0 q_697
  have g_703 : h0.size ≤ o_695 := Nat.le_trans (Nat.le_refl _) q_697
  have f_705 : Exa Z h_694 a "java/lang/String" := hE.sm (Sm.keep K_696 nin0)
  have f_706 : Fld Z h_694 a "java/lang/String" "value" "[B" .null := hFV.sm (Sm.keep K_696 nin0)
  have f_707 : Fld Z h_694 a "java/lang/String" "coder" "B" (.int (0 : Int32)) := hFC.sm (Sm.keep K_696 nin0)
  have f_708 : Ary Z h_694 r .char [(.int c0), (.int c1), (.int c2), (.int c3)] := hR.sm (Sm.keep K_696 nin0)
  have t_709 : a < h_694.size := Nat.lt_of_lt_of_le hE.lt K_696.1
  have t_710 : r < h_694.size := Nat.lt_of_lt_of_le hR.lt K_696.1
  have z_711 : n0 ≤ h_694.size := Nat.le_trans z0 K_696.1
  have b_712 : h0.size ≤ h_694.size := Nat.le_trans (Nat.le_refl _) K_696.1
  have K_713 : Keep h0 h_694 [a] := (Keep.refl _ _).trans K_696 all0
  have O_714 : Old Z n0 h_694 := hO.keep K_696 all0
  have f_704 : Sta Z h_694 "java/lang/String" "COMPACT_STRINGS" "Z" (.int cs) := Sta.ext O_714.2 hSCS
  show (Go .n l ({ frames := 4, cells := 2, slots := 12, locals := 60 } : Room) Z (⟨"java/lang/String", "<init>", "([CIILjava/lang/Void;)V"⟩ : MethodName) jdk_42_method_149_code 6 none n0 2 12 (fun v h => v = none ∧ Keep h0 h [a] ∧ ∃ o : Addr, Fld Z h a "java/lang/String" "value" "[B" (.ref o) ∧ o < h.size ∧ (Fld Z h a "java/lang/String" "coder" "B" (.int (0 : Int32)) ∧ ∃ b0 b1 b2 b3 : Int32, Ary Z h o .byte [.int b0, .int b1, .int b2, .int b3] ∧ b0.toInt % 256 = c0.toInt ∧ b1.toInt % 256 = c1.toInt ∧ b2.toInt % 256 = c2.toInt ∧ b3.toInt % 256 = c3.toInt))) h_694 (0 + 2) (0 + 12) 39 #[.val (.ref a), .val (.ref r), .val (.int (0 : Int32)), .val (.int (4 : Int32)), .val .null, .unset] [(.ref o_695)]
  obtain ⟨b0, b1, b2, b3, A_715, e_716, e_717, e_718, e_719⟩ := ho_699
  refine Go.astore (pc' := 41) (Ls' := #[.val (.ref a), .val (.ref r), .val (.int (0 : Int32)), .val (.int (4 : Int32)), .val .null, .val (.ref o_695)]) d3_39 rfl rfl rfl ?_
  refine Go.aloadN (pc' := 42) d3_41 rfl rfl rfl ?_
  refine Go.aload (pc' := 44) d3_42 rfl rfl rfl ?_
  refine Go.iloadN (pc' := 45) d3_44 rfl rfl ?_
  refine Go.callS (pc' := 48) (argsL := [(.ref o_695), (.int (4 : Int32))]) (rest := [(.ref a)]) (W := 1) (hw _ (List.mem_of_getElem? (i := 72) rfl)) (hw _ (List.mem_of_getElem? (i := 73) rfl)) (hw _ (List.mem_of_getElem? (i := 67) rfl)) (hw _ (List.mem_of_getElem? (i := 74) rfl)) (by decide) (m_cl4_0 l Z a0 hw o_695 [.int b0, .int b1, .int b2, .int b3] h_694 n0 z_711 A_715 rfl) d3_45 rfl pd2 rfl rfl (Nat.le_of_eq rfl) (by decide) (by decide) (by decide) (by decide) rfl ?_
  rintro _ _ ⟨rfl, rfl⟩
  show (Go .n l ({ frames := 4, cells := 2, slots := 12, locals := 60 } : Room) Z (⟨"java/lang/String", "<init>", "([CIILjava/lang/Void;)V"⟩ : MethodName) jdk_42_method_149_code 6 none n0 2 12 (fun v h => v = none ∧ Keep h0 h [a] ∧ ∃ o : Addr, Fld Z h a "java/lang/String" "value" "[B" (.ref o) ∧ o < h.size ∧ (Fld Z h a "java/lang/String" "coder" "B" (.int (0 : Int32)) ∧ ∃ b0 b1 b2 b3 : Int32, Ary Z h o .byte [.int b0, .int b1, .int b2, .int b3] ∧ b0.toInt % 256 = c0.toInt ∧ b1.toInt % 256 = c1.toInt ∧ b2.toInt % 256 = c2.toInt ∧ b3.toInt % 256 = c3.toInt))) h_694 (0 + 2 + 0) (0 + 12 + 0) 48 #[.val (.ref a), .val (.ref r), .val (.int (0 : Int32)), .val (.int (4 : Int32)), .val .null, .val (.ref o_695)] [(.int (0 : Int32)), (.ref a)]
  refine Go.putF (pc' := 51) (ty := .byte) (hw _ (List.mem_of_getElem? (i := 27) rfl)) f_707 f_705 (Or.inr ⟨(hw _ (List.mem_of_getElem? (i := 23) rfl)), rfl, rfl⟩) (hw _ (List.mem_of_getElem? (i := 8) rfl)) (by decide) rfl rfl d3_48 hg rfl ?_
  intro h_720 W_721
  have f_722 : Exa Z h_720 a "java/lang/String" := Exa.wr W_721 f_705
  have f_723 : Ary Z h_720 r .char [(.int c0), (.int c1), (.int c2), (.int c3)] := f_708.sm (Sm.wr W_721 n_691.symm)
  have f_725 : Ary Z h_720 o_695 .byte [(.int b0), (.int b1), (.int b2), (.int b3)] := A_715.sm (Sm.wr W_721 n_700.symm)
  have t_726 : a < h_720.size := Nat.lt_of_lt_of_le t_709 (Nat.le_of_eq W_721.size.symm)
  have t_727 : r < h_720.size := Nat.lt_of_lt_of_le t_710 (Nat.le_of_eq W_721.size.symm)
  have t_728 : o_695 < h_720.size := Nat.lt_of_lt_of_le t_698 (Nat.le_of_eq W_721.size.symm)
  have z_729 : n0 ≤ h_720.size := Nat.le_trans z_711 (Nat.le_of_eq W_721.size.symm)
  have b_730 : h0.size ≤ h_720.size := Nat.le_trans b_712 (Nat.le_of_eq W_721.size.symm)
  have K_731 : Keep h0 h_720 [a] := K_713.wr W_721 (Or.inl (List.mem_of_getElem? (i := 0) rfl))
  have O_732 : Old Z n0 h_720 := O_714.wr W_721 hg
  have f_724 : Sta Z h_720 "java/lang/String" "COMPACT_STRINGS" "Z" (.int cs) := Sta.ext O_732.2 hSCS
  have f_733 : Fld Z h_720 a "java/lang/String" "value" "[B" .null := Fld.other W_721 f_706 (Or.inr (slot_ne (Or.inr (hw _ (List.mem_of_getElem? (i := 22) rfl))) (Or.inr (hw _ (List.mem_of_getElem? (i := 23) rfl))) (by decide) (t := (.array .byte)) (t' := .byte) (by decide) (by decide)))
  have f_734 : Fld Z h_720 a "java/lang/String" "coder" "B" (.int (0 : Int32)) := Fld.same W_721 f_707
  refine Go.aloadN (pc' := 52) d3_51 rfl rfl rfl ?_
  refine Go.aload (pc' := 54) d3_52 rfl rfl rfl ?_
  refine Go.putF (pc' := 57) (ty := (.array .byte)) (hw _ (List.mem_of_getElem? (i := 26) rfl)) f_733 f_722 (Or.inr ⟨(hw _ (List.mem_of_getElem? (i := 22) rfl)), rfl, rfl⟩) (hw _ (List.mem_of_getElem? (i := 8) rfl)) (by decide) rfl rfl d3_54 hg rfl ?_
  intro h_735 W_736
  have f_737 : Exa Z h_735 a "java/lang/String" := Exa.wr W_736 f_722
  have f_738 : Ary Z h_735 r .char [(.int c0), (.int c1), (.int c2), (.int c3)] := f_723.sm (Sm.wr W_736 n_691.symm)
  have f_739 : Ary Z h_735 o_695 .byte [(.int b0), (.int b1), (.int b2), (.int b3)] := f_725.sm (Sm.wr W_736 n_700.symm)
  have t_741 : a < h_735.size := Nat.lt_of_lt_of_le t_726 (Nat.le_of_eq W_736.size.symm)
  have t_742 : r < h_735.size := Nat.lt_of_lt_of_le t_727 (Nat.le_of_eq W_736.size.symm)
  have t_743 : o_695 < h_735.size := Nat.lt_of_lt_of_le t_728 (Nat.le_of_eq W_736.size.symm)
  have z_744 : n0 ≤ h_735.size := Nat.le_trans z_729 (Nat.le_of_eq W_736.size.symm)
  have b_745 : h0.size ≤ h_735.size := Nat.le_trans b_730 (Nat.le_of_eq W_736.size.symm)
  have K_746 : Keep h0 h_735 [a] := K_731.wr W_736 (Or.inl (List.mem_of_getElem? (i := 0) rfl))
  have O_747 : Old Z n0 h_735 := O_732.wr W_736 hg
  have f_740 : Sta Z h_735 "java/lang/String" "COMPACT_STRINGS" "Z" (.int cs) := Sta.ext O_747.2 hSCS
  have f_748 : Fld Z h_735 a "java/lang/String" "value" "[B" (.ref o_695) := Fld.same W_736 f_733
  have f_749 : Fld Z h_735 a "java/lang/String" "coder" "B" (.int (0 : Int32)) := Fld.other W_736 f_734 (Or.inr (slot_ne (Or.inr (hw _ (List.mem_of_getElem? (i := 23) rfl))) (Or.inr (hw _ (List.mem_of_getElem? (i := 22) rfl))) (by decide) (t := .byte) (t' := (.array .byte)) (by decide) (by decide)))
  exact Go.ret0 d3_57 rfl ⟨rfl, K_746, o_695, f_748, t_743, f_749, b0, b1, b2, b3, f_739, e_716, e_717, e_718, e_719⟩ (by decide) (by decide)
set_option maxRecDepth 65536 in
set_option maxHeartbeats 40000000 in
theorem m_s1_4 (l : Launch) (Z : State) (a0 : Array Value) (hw : ∀ d ∈ tables_1, d.before a0 Z = true) (a r : Addr) (c0 c1 c2 c3 : Int32) (cs : Int32) (h0 : Heap) (n0 : Nat) (z0 : n0 ≤ h0.size) (hO : Old Z n0 h0) (hSCS : Sta Z Z.heap "java/lang/String" "COMPACT_STRINGS" "Z" (.int cs)) (hcs : cs.toInt ≠ 0) (hE : Exa Z h0 a "java/lang/String") (hFV : Fld Z h0 a "java/lang/String" "value" "[B" .null) (hFC : Fld Z h0 a "java/lang/String" "coder" "B" (.int (0 : Int32))) (hg : n0 ≤ a) (hR : Ary Z h0 r .char [.int c0, .int c1, .int c2, .int c3]) (hc0 : 0 ≤ c0.toInt ∧ c0.toInt < 65536) (hc1 : 0 ≤ c1.toInt ∧ c1.toInt < 65536) (hc2 : 0 ≤ c2.toInt ∧ c2.toInt < 65536) (hc3 : 0 ≤ c3.toInt ∧ c3.toInt < 65536) (hd0 : c0.toInt < 256) (hd1 : c1.toInt < 256) (hd2 : c2.toInt < 256) (hd3 : c3.toInt < 256) : Mt .n l Z (⟨"java/lang/String", "<init>", "([C)V"⟩ : MethodName) jdk_42_method_3_code 2 none ({ frames := 5, cells := 2, slots := 12, locals := 78 } : Room) n0 (fun v h => v = none ∧ Keep h0 h [a] ∧ ∃ o : Addr, Fld Z h a "java/lang/String" "value" "[B" (.ref o) ∧ o < h.size ∧ (Fld Z h a "java/lang/String" "coder" "B" (.int (0 : Int32)) ∧ ∃ b0 b1 b2 b3 : Int32, Ary Z h o .byte [.int b0, .int b1, .int b2, .int b3] ∧ b0.toInt % 256 = c0.toInt ∧ b1.toInt % 256 = c1.toInt ∧ b2.toInt % 256 = c2.toInt ∧ b3.toInt % 256 = c3.toInt)) h0 #[(.ref a), (.ref r)] := by
  refine Mt.go (Ls := #[.val (.ref a), .val (.ref r)]) (by first | exact plainFor_of_name (by decide +kernel) | decide +kernel | (simp [plainFor]; done)) (fun m => by first | (simp [entryFrame, mkF, argsToLocals, Value.category]; done) | rfl) ?_
  show (Go .n l ({ frames := 5, cells := 2, slots := 12, locals := 78 } : Room) Z (⟨"java/lang/String", "<init>", "([C)V"⟩ : MethodName) jdk_42_method_3_code 2 none n0 2 12 (fun v h => v = none ∧ Keep h0 h [a] ∧ ∃ o : Addr, Fld Z h a "java/lang/String" "value" "[B" (.ref o) ∧ o < h.size ∧ (Fld Z h a "java/lang/String" "coder" "B" (.int (0 : Int32)) ∧ ∃ b0 b1 b2 b3 : Int32, Ary Z h o .byte [.int b0, .int b1, .int b2, .int b3] ∧ b0.toInt % 256 = c0.toInt ∧ b1.toInt % 256 = c1.toInt ∧ b2.toInt % 256 = c2.toInt ∧ b3.toInt % 256 = c3.toInt))) h0 0 0 0 #[.val (.ref a), .val (.ref r)] []
  have hTCS : Sta Z h0 "java/lang/String" "COMPACT_STRINGS" "Z" (.int cs) := Sta.ext hO.2 hSCS
  have n_750 : a ≠ r := by obtain ⟨_, Ag, -⟩ := hR; exact ne_arr hE (hw _ (List.mem_of_getElem? (i := 8) rfl)) Ag
  refine Go.aloadN (pc' := 1) d2_0 rfl rfl rfl ?_
  refine Go.aloadN (pc' := 2) d2_1 rfl rfl rfl ?_
  refine Go.iconst (pc' := 3) (v := (0 : Int32)) d2_2 rfl rfl ?_
  refine Go.aloadN (pc' := 4) d2_3 rfl rfl rfl ?_
  refine Go.alen (pc' := 5) (z := (4 : Int32)) hR rfl d2_4 rfl ?_
  refine Go.aconstNull (pc' := 6) d2_5 rfl ?_
  refine Go.callN (pc' := 9) (argsL := [(.ref r), (.int (0 : Int32)), (.int (4 : Int32)), .null]) (rest := []) (W := 0) rfl (hw _ (List.mem_of_getElem? (i := 13) rfl)) (hw _ (List.mem_of_getElem? (i := 14) rfl)) (hw _ (List.mem_of_getElem? (i := 9) rfl)) (hw _ (List.mem_of_getElem? (i := 16) rfl)) (by decide) (m_s2_4 l Z a0 hw a r c0 c1 c2 c3 cs h0 n0 z0 hO hSCS hcs hE hFV hFC hg hR hc0 hc1 hc2 hc3 hd0 hd1 hd2 hd3) d2_6 rfl pd3 rfl rfl (Nat.le_of_eq rfl) (by decide) (by decide) (by decide) (by decide) rfl ?_
  rintro _ h_751 ⟨rfl, K, hs⟩
  have f_753 : Exa Z h_751 a "java/lang/String" := hE.keep K
  have f_756 : Ary Z h_751 r .char [(.int c0), (.int c1), (.int c2), (.int c3)] := hR.sm (Sm.keep K (ninS n_750.symm nin0))
  have t_757 : a < h_751.size := Nat.lt_of_lt_of_le hE.lt K.1
  have t_758 : r < h_751.size := Nat.lt_of_lt_of_le hR.lt K.1
  have z_759 : n0 ≤ h_751.size := Nat.le_trans z0 K.1
  have b_760 : h0.size ≤ h_751.size := Nat.le_trans (Nat.le_refl _) K.1
  have K_761 : Keep h0 h_751 [a] := (Keep.refl _ _).trans K (allS (Or.inl (List.mem_of_getElem? (i := 0) rfl)) all0)
  have O_762 : Old Z n0 h_751 := hO.keep K (allS hg all0)
  have f_752 : Sta Z h_751 "java/lang/String" "COMPACT_STRINGS" "Z" (.int cs) := Sta.ext O_762.2 hSCS
  show (Go .n l ({ frames := 5, cells := 2, slots := 12, locals := 78 } : Room) Z (⟨"java/lang/String", "<init>", "([C)V"⟩ : MethodName) jdk_42_method_3_code 2 none n0 2 12 (fun v h => v = none ∧ Keep h0 h [a] ∧ ∃ o : Addr, Fld Z h a "java/lang/String" "value" "[B" (.ref o) ∧ o < h.size ∧ (Fld Z h a "java/lang/String" "coder" "B" (.int (0 : Int32)) ∧ ∃ b0 b1 b2 b3 : Int32, Ary Z h o .byte [.int b0, .int b1, .int b2, .int b3] ∧ b0.toInt % 256 = c0.toInt ∧ b1.toInt % 256 = c1.toInt ∧ b2.toInt % 256 = c2.toInt ∧ b3.toInt % 256 = c3.toInt))) h_751 (0 + 2) (0 + 12) 9 #[.val (.ref a), .val (.ref r)] []
  exact Go.ret0 d2_9 rfl ⟨rfl, K_761, hs⟩ (by decide) (by decide)
set_option maxRecDepth 65536 in
set_option maxHeartbeats 40000000 in
theorem m_s2_5 (l : Launch) (Z : State) (a0 : Array Value) (hw : ∀ d ∈ tables_1, d.before a0 Z = true) (a r : Addr) (c0 c1 c2 c3 c4 : Int32) (cs : Int32) (h0 : Heap) (n0 : Nat) (z0 : n0 ≤ h0.size) (hO : Old Z n0 h0) (hSCS : Sta Z Z.heap "java/lang/String" "COMPACT_STRINGS" "Z" (.int cs)) (hcs : cs.toInt ≠ 0) (hE : Exa Z h0 a "java/lang/String") (hFV : Fld Z h0 a "java/lang/String" "value" "[B" .null) (hFC : Fld Z h0 a "java/lang/String" "coder" "B" (.int (0 : Int32))) (hg : n0 ≤ a) (hR : Ary Z h0 r .char [.int c0, .int c1, .int c2, .int c3, .int c4]) (hc0 : 0 ≤ c0.toInt ∧ c0.toInt < 65536) (hc1 : 0 ≤ c1.toInt ∧ c1.toInt < 65536) (hc2 : 0 ≤ c2.toInt ∧ c2.toInt < 65536) (hc3 : 0 ≤ c3.toInt ∧ c3.toInt < 65536) (hc4 : 0 ≤ c4.toInt ∧ c4.toInt < 65536) (hd0 : c0.toInt < 256) (hd1 : c1.toInt < 256) (hd2 : c2.toInt < 256) (hd3 : c3.toInt < 256) (hd4 : c4.toInt < 256) : Mt .n l Z (⟨"java/lang/String", "<init>", "([CIILjava/lang/Void;)V"⟩ : MethodName) jdk_42_method_149_code 6 none ({ frames := 4, cells := 2, slots := 15, locals := 60 } : Room) n0 (fun v h => v = none ∧ Keep h0 h [a] ∧ ∃ o : Addr, Fld Z h a "java/lang/String" "value" "[B" (.ref o) ∧ o < h.size ∧ (Fld Z h a "java/lang/String" "coder" "B" (.int (0 : Int32)) ∧ ∃ b0 b1 b2 b3 b4 : Int32, Ary Z h o .byte [.int b0, .int b1, .int b2, .int b3, .int b4] ∧ b0.toInt % 256 = c0.toInt ∧ b1.toInt % 256 = c1.toInt ∧ b2.toInt % 256 = c2.toInt ∧ b3.toInt % 256 = c3.toInt ∧ b4.toInt % 256 = c4.toInt)) h0 #[(.ref a), (.ref r), (.int (0 : Int32)), (.int (5 : Int32)), .null] := by
  refine Mt.go (Ls := #[.val (.ref a), .val (.ref r), .val (.int (0 : Int32)), .val (.int (5 : Int32)), .val .null, .unset]) (by first | exact plainFor_of_name (by decide +kernel) | decide +kernel | (simp [plainFor]; done)) (fun m => by first | (simp [entryFrame, mkF, argsToLocals, Value.category]; done) | rfl) ?_
  show (Go .n l ({ frames := 4, cells := 2, slots := 15, locals := 60 } : Room) Z (⟨"java/lang/String", "<init>", "([CIILjava/lang/Void;)V"⟩ : MethodName) jdk_42_method_149_code 6 none n0 2 15 (fun v h => v = none ∧ Keep h0 h [a] ∧ ∃ o : Addr, Fld Z h a "java/lang/String" "value" "[B" (.ref o) ∧ o < h.size ∧ (Fld Z h a "java/lang/String" "coder" "B" (.int (0 : Int32)) ∧ ∃ b0 b1 b2 b3 b4 : Int32, Ary Z h o .byte [.int b0, .int b1, .int b2, .int b3, .int b4] ∧ b0.toInt % 256 = c0.toInt ∧ b1.toInt % 256 = c1.toInt ∧ b2.toInt % 256 = c2.toInt ∧ b3.toInt % 256 = c3.toInt ∧ b4.toInt % 256 = c4.toInt))) h0 0 0 0 #[.val (.ref a), .val (.ref r), .val (.int (0 : Int32)), .val (.int (5 : Int32)), .val .null, .unset] []
  have hTCS : Sta Z h0 "java/lang/String" "COMPACT_STRINGS" "Z" (.int cs) := Sta.ext hO.2 hSCS
  have n_763 : a ≠ r := by obtain ⟨_, Ag, -⟩ := hR; exact ne_arr hE (hw _ (List.mem_of_getElem? (i := 8) rfl)) Ag
  refine Go.aloadN (pc' := 1) d3_0 rfl rfl rfl ?_
  refine Go.initO (pc' := 4) (W := 0) (hw _ (List.mem_of_getElem? (i := 17) rfl)) (hw _ (List.mem_of_getElem? (i := 18) rfl)) (hw _ (List.mem_of_getElem? (i := 19) rfl)) d3_1 rfl (by decide) (Nat.le_of_eq rfl) (by decide) rfl ?_
  refine Go.iloadN (pc' := 5) d3_4 rfl rfl ?_
  refine Go.ifc (pc1 := 27) (pc2 := 8) d3_5 (by decide) (by decide) rfl (fun (c_764 : (5 : Int) ≠ 0) => ?_) (fun (c_764 : (5 : Int) = 0) => ?_)
  rotate_left
  · exact absurd c_764 (by decide)
  refine Go.getS (pc' := 30) (hw _ (List.mem_of_getElem? (i := 57) rfl)) hTCS d3_27 rfl ?_
  refine Go.ifc (pc1 := 58) (pc2 := 33) d3_30 (by decide) (by decide) rfl (fun (c_765 : cs.toInt = 0) => ?_) (fun (c_765 : cs.toInt ≠ 0) => ?_)
  · exact absurd c_765 hcs
  refine Go.aloadN (pc' := 34) d3_33 rfl rfl rfl ?_
  refine Go.iloadN (pc' := 35) d3_34 rfl rfl ?_
  refine Go.iloadN (pc' := 36) d3_35 rfl rfl ?_
  refine Go.callS (pc' := 39) (argsL := [(.ref r), (.int (0 : Int32)), (.int (5 : Int32))]) (rest := []) (W := 0) (hw _ (List.mem_of_getElem? (i := 65) rfl)) (hw _ (List.mem_of_getElem? (i := 66) rfl)) (hw _ (List.mem_of_getElem? (i := 67) rfl)) (hw _ (List.mem_of_getElem? (i := 68) rfl)) (by decide) (m_c3_5 l Z a0 hw r c0 c1 c2 c3 c4 h0 n0 z0  hR hc0 hc1 hc2 hc3 hc4 hd0 hd1 hd2 hd3 hd4) d3_36 rfl pd1 rfl rfl (Nat.le_of_eq rfl) (by decide) (by decide) (by decide) (by decide) rfl ?_
  rintro _ h_766 ⟨o_767, rfl, K_768, q_769, t_770, ho_771⟩
  have n_772 : a ≠ o_767 := Nat.ne_of_lt (Nat.lt_of_lt_of_le hE.lt q_769)
  have n_773 : r ≠ o_767 := Nat.ne_of_lt (Nat.lt_of_lt_of_le hR.lt q_769)
  have g_774 : n0 ≤ o_767 := Nat.le_trans z0 q_769
  have g_775 : h0.size ≤ o_767 := Nat.le_trans (Nat.le_refl _) q_769
  have f_777 : Exa Z h_766 a "java/lang/String" := hE.sm (Sm.keep K_768 nin0)
  have f_778 : Fld Z h_766 a "java/lang/String" "value" "[B" .null := hFV.sm (Sm.keep K_768 nin0)
  have f_779 : Fld Z h_766 a "java/lang/String" "coder" "B" (.int (0 : Int32)) := hFC.sm (Sm.keep K_768 nin0)
  have f_780 : Ary Z h_766 r .char [(.int c0), (.int c1), (.int c2), (.int c3), (.int c4)] := hR.sm (Sm.keep K_768 nin0)
  have t_781 : a < h_766.size := Nat.lt_of_lt_of_le hE.lt K_768.1
  have t_782 : r < h_766.size := Nat.lt_of_lt_of_le hR.lt K_768.1
  have z_783 : n0 ≤ h_766.size := Nat.le_trans z0 K_768.1
  have b_784 : h0.size ≤ h_766.size := Nat.le_trans (Nat.le_refl _) K_768.1
  have K_785 : Keep h0 h_766 [a] := (Keep.refl _ _).trans K_768 all0
  have O_786 : Old Z n0 h_766 := hO.keep K_768 all0
  have f_776 : Sta Z h_766 "java/lang/String" "COMPACT_STRINGS" "Z" (.int cs) := Sta.ext O_786.2 hSCS
  show (Go .n l ({ frames := 4, cells := 2, slots := 15, locals := 60 } : Room) Z (⟨"java/lang/String", "<init>", "([CIILjava/lang/Void;)V"⟩ : MethodName) jdk_42_method_149_code 6 none n0 2 15 (fun v h => v = none ∧ Keep h0 h [a] ∧ ∃ o : Addr, Fld Z h a "java/lang/String" "value" "[B" (.ref o) ∧ o < h.size ∧ (Fld Z h a "java/lang/String" "coder" "B" (.int (0 : Int32)) ∧ ∃ b0 b1 b2 b3 b4 : Int32, Ary Z h o .byte [.int b0, .int b1, .int b2, .int b3, .int b4] ∧ b0.toInt % 256 = c0.toInt ∧ b1.toInt % 256 = c1.toInt ∧ b2.toInt % 256 = c2.toInt ∧ b3.toInt % 256 = c3.toInt ∧ b4.toInt % 256 = c4.toInt))) h_766 (0 + 2) (0 + 15) 39 #[.val (.ref a), .val (.ref r), .val (.int (0 : Int32)), .val (.int (5 : Int32)), .val .null, .unset] [(.ref o_767)]
  obtain ⟨b0, b1, b2, b3, b4, A_787, e_788, e_789, e_790, e_791, e_792⟩ := ho_771
  refine Go.astore (pc' := 41) (Ls' := #[.val (.ref a), .val (.ref r), .val (.int (0 : Int32)), .val (.int (5 : Int32)), .val .null, .val (.ref o_767)]) d3_39 rfl rfl rfl ?_
  refine Go.aloadN (pc' := 42) d3_41 rfl rfl rfl ?_
  refine Go.aload (pc' := 44) d3_42 rfl rfl rfl ?_
  refine Go.iloadN (pc' := 45) d3_44 rfl rfl ?_
  refine Go.callS (pc' := 48) (argsL := [(.ref o_767), (.int (5 : Int32))]) (rest := [(.ref a)]) (W := 1) (hw _ (List.mem_of_getElem? (i := 72) rfl)) (hw _ (List.mem_of_getElem? (i := 73) rfl)) (hw _ (List.mem_of_getElem? (i := 67) rfl)) (hw _ (List.mem_of_getElem? (i := 74) rfl)) (by decide) (m_cl5_0 l Z a0 hw o_767 [.int b0, .int b1, .int b2, .int b3, .int b4] h_766 n0 z_783 A_787 rfl) d3_45 rfl pd2 rfl rfl (Nat.le_of_eq rfl) (by decide) (by decide) (by decide) (by decide) rfl ?_
  rintro _ _ ⟨rfl, rfl⟩
  show (Go .n l ({ frames := 4, cells := 2, slots := 15, locals := 60 } : Room) Z (⟨"java/lang/String", "<init>", "([CIILjava/lang/Void;)V"⟩ : MethodName) jdk_42_method_149_code 6 none n0 2 15 (fun v h => v = none ∧ Keep h0 h [a] ∧ ∃ o : Addr, Fld Z h a "java/lang/String" "value" "[B" (.ref o) ∧ o < h.size ∧ (Fld Z h a "java/lang/String" "coder" "B" (.int (0 : Int32)) ∧ ∃ b0 b1 b2 b3 b4 : Int32, Ary Z h o .byte [.int b0, .int b1, .int b2, .int b3, .int b4] ∧ b0.toInt % 256 = c0.toInt ∧ b1.toInt % 256 = c1.toInt ∧ b2.toInt % 256 = c2.toInt ∧ b3.toInt % 256 = c3.toInt ∧ b4.toInt % 256 = c4.toInt))) h_766 (0 + 2 + 0) (0 + 15 + 0) 48 #[.val (.ref a), .val (.ref r), .val (.int (0 : Int32)), .val (.int (5 : Int32)), .val .null, .val (.ref o_767)] [(.int (0 : Int32)), (.ref a)]
  refine Go.putF (pc' := 51) (ty := .byte) (hw _ (List.mem_of_getElem? (i := 27) rfl)) f_779 f_777 (Or.inr ⟨(hw _ (List.mem_of_getElem? (i := 23) rfl)), rfl, rfl⟩) (hw _ (List.mem_of_getElem? (i := 8) rfl)) (by decide) rfl rfl d3_48 hg rfl ?_
  intro h_793 W_794
  have f_795 : Exa Z h_793 a "java/lang/String" := Exa.wr W_794 f_777
  have f_796 : Ary Z h_793 r .char [(.int c0), (.int c1), (.int c2), (.int c3), (.int c4)] := f_780.sm (Sm.wr W_794 n_763.symm)
  have f_798 : Ary Z h_793 o_767 .byte [(.int b0), (.int b1), (.int b2), (.int b3), (.int b4)] := A_787.sm (Sm.wr W_794 n_772.symm)
  have t_799 : a < h_793.size := Nat.lt_of_lt_of_le t_781 (Nat.le_of_eq W_794.size.symm)
  have t_800 : r < h_793.size := Nat.lt_of_lt_of_le t_782 (Nat.le_of_eq W_794.size.symm)
  have t_801 : o_767 < h_793.size := Nat.lt_of_lt_of_le t_770 (Nat.le_of_eq W_794.size.symm)
  have z_802 : n0 ≤ h_793.size := Nat.le_trans z_783 (Nat.le_of_eq W_794.size.symm)
  have b_803 : h0.size ≤ h_793.size := Nat.le_trans b_784 (Nat.le_of_eq W_794.size.symm)
  have K_804 : Keep h0 h_793 [a] := K_785.wr W_794 (Or.inl (List.mem_of_getElem? (i := 0) rfl))
  have O_805 : Old Z n0 h_793 := O_786.wr W_794 hg
  have f_797 : Sta Z h_793 "java/lang/String" "COMPACT_STRINGS" "Z" (.int cs) := Sta.ext O_805.2 hSCS
  have f_806 : Fld Z h_793 a "java/lang/String" "value" "[B" .null := Fld.other W_794 f_778 (Or.inr (slot_ne (Or.inr (hw _ (List.mem_of_getElem? (i := 22) rfl))) (Or.inr (hw _ (List.mem_of_getElem? (i := 23) rfl))) (by decide) (t := (.array .byte)) (t' := .byte) (by decide) (by decide)))
  have f_807 : Fld Z h_793 a "java/lang/String" "coder" "B" (.int (0 : Int32)) := Fld.same W_794 f_779
  refine Go.aloadN (pc' := 52) d3_51 rfl rfl rfl ?_
  refine Go.aload (pc' := 54) d3_52 rfl rfl rfl ?_
  refine Go.putF (pc' := 57) (ty := (.array .byte)) (hw _ (List.mem_of_getElem? (i := 26) rfl)) f_806 f_795 (Or.inr ⟨(hw _ (List.mem_of_getElem? (i := 22) rfl)), rfl, rfl⟩) (hw _ (List.mem_of_getElem? (i := 8) rfl)) (by decide) rfl rfl d3_54 hg rfl ?_
  intro h_808 W_809
  have f_810 : Exa Z h_808 a "java/lang/String" := Exa.wr W_809 f_795
  have f_811 : Ary Z h_808 r .char [(.int c0), (.int c1), (.int c2), (.int c3), (.int c4)] := f_796.sm (Sm.wr W_809 n_763.symm)
  have f_812 : Ary Z h_808 o_767 .byte [(.int b0), (.int b1), (.int b2), (.int b3), (.int b4)] := f_798.sm (Sm.wr W_809 n_772.symm)
  have t_814 : a < h_808.size := Nat.lt_of_lt_of_le t_799 (Nat.le_of_eq W_809.size.symm)
  have t_815 : r < h_808.size := Nat.lt_of_lt_of_le t_800 (Nat.le_of_eq W_809.size.symm)
  have t_816 : o_767 < h_808.size := Nat.lt_of_lt_of_le t_801 (Nat.le_of_eq W_809.size.symm)
  have z_817 : n0 ≤ h_808.size := Nat.le_trans z_802 (Nat.le_of_eq W_809.size.symm)
  have b_818 : h0.size ≤ h_808.size := Nat.le_trans b_803 (Nat.le_of_eq W_809.size.symm)
  have K_819 : Keep h0 h_808 [a] := K_804.wr W_809 (Or.inl (List.mem_of_getElem? (i := 0) rfl))
  have O_820 : Old Z n0 h_808 := O_805.wr W_809 hg
  have f_813 : Sta Z h_808 "java/lang/String" "COMPACT_STRINGS" "Z" (.int cs) := Sta.ext O_820.2 hSCS
  have f_821 : Fld Z h_808 a "java/lang/String" "value" "[B" (.ref o_767) := Fld.same W_809 f_806
  have f_822 : Fld Z h_808 a "java/lang/String" "coder" "B" (.int (0 : Int32)) := Fld.other W_809 f_807 (Or.inr (slot_ne (Or.inr (hw _ (List.mem_of_getElem? (i := 23) rfl))) (Or.inr (hw _ (List.mem_of_getElem? (i := 22) rfl))) (by decide) (t := .byte) (t' := (.array .byte)) (by decide) (by decide)))
  exact Go.ret0 d3_57 rfl ⟨rfl, K_819, o_767, f_821, t_816, f_822, b0, b1, b2, b3, b4, f_812, e_788, e_789, e_790, e_791, e_792⟩ (by decide) (by decide)
set_option maxRecDepth 65536 in
set_option maxHeartbeats 40000000 in
theorem m_s1_5 (l : Launch) (Z : State) (a0 : Array Value) (hw : ∀ d ∈ tables_1, d.before a0 Z = true) (a r : Addr) (c0 c1 c2 c3 c4 : Int32) (cs : Int32) (h0 : Heap) (n0 : Nat) (z0 : n0 ≤ h0.size) (hO : Old Z n0 h0) (hSCS : Sta Z Z.heap "java/lang/String" "COMPACT_STRINGS" "Z" (.int cs)) (hcs : cs.toInt ≠ 0) (hE : Exa Z h0 a "java/lang/String") (hFV : Fld Z h0 a "java/lang/String" "value" "[B" .null) (hFC : Fld Z h0 a "java/lang/String" "coder" "B" (.int (0 : Int32))) (hg : n0 ≤ a) (hR : Ary Z h0 r .char [.int c0, .int c1, .int c2, .int c3, .int c4]) (hc0 : 0 ≤ c0.toInt ∧ c0.toInt < 65536) (hc1 : 0 ≤ c1.toInt ∧ c1.toInt < 65536) (hc2 : 0 ≤ c2.toInt ∧ c2.toInt < 65536) (hc3 : 0 ≤ c3.toInt ∧ c3.toInt < 65536) (hc4 : 0 ≤ c4.toInt ∧ c4.toInt < 65536) (hd0 : c0.toInt < 256) (hd1 : c1.toInt < 256) (hd2 : c2.toInt < 256) (hd3 : c3.toInt < 256) (hd4 : c4.toInt < 256) : Mt .n l Z (⟨"java/lang/String", "<init>", "([C)V"⟩ : MethodName) jdk_42_method_3_code 2 none ({ frames := 5, cells := 2, slots := 15, locals := 78 } : Room) n0 (fun v h => v = none ∧ Keep h0 h [a] ∧ ∃ o : Addr, Fld Z h a "java/lang/String" "value" "[B" (.ref o) ∧ o < h.size ∧ (Fld Z h a "java/lang/String" "coder" "B" (.int (0 : Int32)) ∧ ∃ b0 b1 b2 b3 b4 : Int32, Ary Z h o .byte [.int b0, .int b1, .int b2, .int b3, .int b4] ∧ b0.toInt % 256 = c0.toInt ∧ b1.toInt % 256 = c1.toInt ∧ b2.toInt % 256 = c2.toInt ∧ b3.toInt % 256 = c3.toInt ∧ b4.toInt % 256 = c4.toInt)) h0 #[(.ref a), (.ref r)] := by
  refine Mt.go (Ls := #[.val (.ref a), .val (.ref r)]) (by first | exact plainFor_of_name (by decide +kernel) | decide +kernel | (simp [plainFor]; done)) (fun m => by first | (simp [entryFrame, mkF, argsToLocals, Value.category]; done) | rfl) ?_
  show (Go .n l ({ frames := 5, cells := 2, slots := 15, locals := 78 } : Room) Z (⟨"java/lang/String", "<init>", "([C)V"⟩ : MethodName) jdk_42_method_3_code 2 none n0 2 15 (fun v h => v = none ∧ Keep h0 h [a] ∧ ∃ o : Addr, Fld Z h a "java/lang/String" "value" "[B" (.ref o) ∧ o < h.size ∧ (Fld Z h a "java/lang/String" "coder" "B" (.int (0 : Int32)) ∧ ∃ b0 b1 b2 b3 b4 : Int32, Ary Z h o .byte [.int b0, .int b1, .int b2, .int b3, .int b4] ∧ b0.toInt % 256 = c0.toInt ∧ b1.toInt % 256 = c1.toInt ∧ b2.toInt % 256 = c2.toInt ∧ b3.toInt % 256 = c3.toInt ∧ b4.toInt % 256 = c4.toInt))) h0 0 0 0 #[.val (.ref a), .val (.ref r)] []
  have hTCS : Sta Z h0 "java/lang/String" "COMPACT_STRINGS" "Z" (.int cs) := Sta.ext hO.2 hSCS
  have n_823 : a ≠ r := by obtain ⟨_, Ag, -⟩ := hR; exact ne_arr hE (hw _ (List.mem_of_getElem? (i := 8) rfl)) Ag
  refine Go.aloadN (pc' := 1) d2_0 rfl rfl rfl ?_
  refine Go.aloadN (pc' := 2) d2_1 rfl rfl rfl ?_
  refine Go.iconst (pc' := 3) (v := (0 : Int32)) d2_2 rfl rfl ?_
  refine Go.aloadN (pc' := 4) d2_3 rfl rfl rfl ?_
  refine Go.alen (pc' := 5) (z := (5 : Int32)) hR rfl d2_4 rfl ?_
  refine Go.aconstNull (pc' := 6) d2_5 rfl ?_
  refine Go.callN (pc' := 9) (argsL := [(.ref r), (.int (0 : Int32)), (.int (5 : Int32)), .null]) (rest := []) (W := 0) rfl (hw _ (List.mem_of_getElem? (i := 13) rfl)) (hw _ (List.mem_of_getElem? (i := 14) rfl)) (hw _ (List.mem_of_getElem? (i := 9) rfl)) (hw _ (List.mem_of_getElem? (i := 16) rfl)) (by decide) (m_s2_5 l Z a0 hw a r c0 c1 c2 c3 c4 cs h0 n0 z0 hO hSCS hcs hE hFV hFC hg hR hc0 hc1 hc2 hc3 hc4 hd0 hd1 hd2 hd3 hd4) d2_6 rfl pd3 rfl rfl (Nat.le_of_eq rfl) (by decide) (by decide) (by decide) (by decide) rfl ?_
  rintro _ h_824 ⟨rfl, K, hs⟩
  have f_826 : Exa Z h_824 a "java/lang/String" := hE.keep K
  have f_829 : Ary Z h_824 r .char [(.int c0), (.int c1), (.int c2), (.int c3), (.int c4)] := hR.sm (Sm.keep K (ninS n_823.symm nin0))
  have t_830 : a < h_824.size := Nat.lt_of_lt_of_le hE.lt K.1
  have t_831 : r < h_824.size := Nat.lt_of_lt_of_le hR.lt K.1
  have z_832 : n0 ≤ h_824.size := Nat.le_trans z0 K.1
  have b_833 : h0.size ≤ h_824.size := Nat.le_trans (Nat.le_refl _) K.1
  have K_834 : Keep h0 h_824 [a] := (Keep.refl _ _).trans K (allS (Or.inl (List.mem_of_getElem? (i := 0) rfl)) all0)
  have O_835 : Old Z n0 h_824 := hO.keep K (allS hg all0)
  have f_825 : Sta Z h_824 "java/lang/String" "COMPACT_STRINGS" "Z" (.int cs) := Sta.ext O_835.2 hSCS
  show (Go .n l ({ frames := 5, cells := 2, slots := 15, locals := 78 } : Room) Z (⟨"java/lang/String", "<init>", "([C)V"⟩ : MethodName) jdk_42_method_3_code 2 none n0 2 15 (fun v h => v = none ∧ Keep h0 h [a] ∧ ∃ o : Addr, Fld Z h a "java/lang/String" "value" "[B" (.ref o) ∧ o < h.size ∧ (Fld Z h a "java/lang/String" "coder" "B" (.int (0 : Int32)) ∧ ∃ b0 b1 b2 b3 b4 : Int32, Ary Z h o .byte [.int b0, .int b1, .int b2, .int b3, .int b4] ∧ b0.toInt % 256 = c0.toInt ∧ b1.toInt % 256 = c1.toInt ∧ b2.toInt % 256 = c2.toInt ∧ b3.toInt % 256 = c3.toInt ∧ b4.toInt % 256 = c4.toInt))) h_824 (0 + 2) (0 + 15) 9 #[.val (.ref a), .val (.ref r)] []
  exact Go.ret0 d2_9 rfl ⟨rfl, K_834, hs⟩ (by decide) (by decide)
set_option maxRecDepth 65536 in
set_option maxHeartbeats 40000000 in
theorem m_s2_6 (l : Launch) (Z : State) (a0 : Array Value) (hw : ∀ d ∈ tables_1, d.before a0 Z = true) (a r : Addr) (c0 c1 c2 c3 c4 c5 : Int32) (cs : Int32) (h0 : Heap) (n0 : Nat) (z0 : n0 ≤ h0.size) (hO : Old Z n0 h0) (hSCS : Sta Z Z.heap "java/lang/String" "COMPACT_STRINGS" "Z" (.int cs)) (hcs : cs.toInt ≠ 0) (hE : Exa Z h0 a "java/lang/String") (hFV : Fld Z h0 a "java/lang/String" "value" "[B" .null) (hFC : Fld Z h0 a "java/lang/String" "coder" "B" (.int (0 : Int32))) (hg : n0 ≤ a) (hR : Ary Z h0 r .char [.int c0, .int c1, .int c2, .int c3, .int c4, .int c5]) (hc0 : 0 ≤ c0.toInt ∧ c0.toInt < 65536) (hc1 : 0 ≤ c1.toInt ∧ c1.toInt < 65536) (hc2 : 0 ≤ c2.toInt ∧ c2.toInt < 65536) (hc3 : 0 ≤ c3.toInt ∧ c3.toInt < 65536) (hc4 : 0 ≤ c4.toInt ∧ c4.toInt < 65536) (hc5 : 0 ≤ c5.toInt ∧ c5.toInt < 65536) (hd0 : c0.toInt < 256) (hd1 : c1.toInt < 256) (hd2 : c2.toInt < 256) (hd3 : c3.toInt < 256) (hd4 : c4.toInt < 256) (hd5 : c5.toInt < 256) : Mt .n l Z (⟨"java/lang/String", "<init>", "([CIILjava/lang/Void;)V"⟩ : MethodName) jdk_42_method_149_code 6 none ({ frames := 4, cells := 2, slots := 18, locals := 60 } : Room) n0 (fun v h => v = none ∧ Keep h0 h [a] ∧ ∃ o : Addr, Fld Z h a "java/lang/String" "value" "[B" (.ref o) ∧ o < h.size ∧ (Fld Z h a "java/lang/String" "coder" "B" (.int (0 : Int32)) ∧ ∃ b0 b1 b2 b3 b4 b5 : Int32, Ary Z h o .byte [.int b0, .int b1, .int b2, .int b3, .int b4, .int b5] ∧ b0.toInt % 256 = c0.toInt ∧ b1.toInt % 256 = c1.toInt ∧ b2.toInt % 256 = c2.toInt ∧ b3.toInt % 256 = c3.toInt ∧ b4.toInt % 256 = c4.toInt ∧ b5.toInt % 256 = c5.toInt)) h0 #[(.ref a), (.ref r), (.int (0 : Int32)), (.int (6 : Int32)), .null] := by
  refine Mt.go (Ls := #[.val (.ref a), .val (.ref r), .val (.int (0 : Int32)), .val (.int (6 : Int32)), .val .null, .unset]) (by first | exact plainFor_of_name (by decide +kernel) | decide +kernel | (simp [plainFor]; done)) (fun m => by first | (simp [entryFrame, mkF, argsToLocals, Value.category]; done) | rfl) ?_
  show (Go .n l ({ frames := 4, cells := 2, slots := 18, locals := 60 } : Room) Z (⟨"java/lang/String", "<init>", "([CIILjava/lang/Void;)V"⟩ : MethodName) jdk_42_method_149_code 6 none n0 2 18 (fun v h => v = none ∧ Keep h0 h [a] ∧ ∃ o : Addr, Fld Z h a "java/lang/String" "value" "[B" (.ref o) ∧ o < h.size ∧ (Fld Z h a "java/lang/String" "coder" "B" (.int (0 : Int32)) ∧ ∃ b0 b1 b2 b3 b4 b5 : Int32, Ary Z h o .byte [.int b0, .int b1, .int b2, .int b3, .int b4, .int b5] ∧ b0.toInt % 256 = c0.toInt ∧ b1.toInt % 256 = c1.toInt ∧ b2.toInt % 256 = c2.toInt ∧ b3.toInt % 256 = c3.toInt ∧ b4.toInt % 256 = c4.toInt ∧ b5.toInt % 256 = c5.toInt))) h0 0 0 0 #[.val (.ref a), .val (.ref r), .val (.int (0 : Int32)), .val (.int (6 : Int32)), .val .null, .unset] []
  have hTCS : Sta Z h0 "java/lang/String" "COMPACT_STRINGS" "Z" (.int cs) := Sta.ext hO.2 hSCS
  have n_836 : a ≠ r := by obtain ⟨_, Ag, -⟩ := hR; exact ne_arr hE (hw _ (List.mem_of_getElem? (i := 8) rfl)) Ag
  refine Go.aloadN (pc' := 1) d3_0 rfl rfl rfl ?_
  refine Go.initO (pc' := 4) (W := 0) (hw _ (List.mem_of_getElem? (i := 17) rfl)) (hw _ (List.mem_of_getElem? (i := 18) rfl)) (hw _ (List.mem_of_getElem? (i := 19) rfl)) d3_1 rfl (by decide) (Nat.le_of_eq rfl) (by decide) rfl ?_
  refine Go.iloadN (pc' := 5) d3_4 rfl rfl ?_
  refine Go.ifc (pc1 := 27) (pc2 := 8) d3_5 (by decide) (by decide) rfl (fun (c_837 : (6 : Int) ≠ 0) => ?_) (fun (c_837 : (6 : Int) = 0) => ?_)
  rotate_left
  · exact absurd c_837 (by decide)
  refine Go.getS (pc' := 30) (hw _ (List.mem_of_getElem? (i := 57) rfl)) hTCS d3_27 rfl ?_
  refine Go.ifc (pc1 := 58) (pc2 := 33) d3_30 (by decide) (by decide) rfl (fun (c_838 : cs.toInt = 0) => ?_) (fun (c_838 : cs.toInt ≠ 0) => ?_)
  · exact absurd c_838 hcs
  refine Go.aloadN (pc' := 34) d3_33 rfl rfl rfl ?_
  refine Go.iloadN (pc' := 35) d3_34 rfl rfl ?_
  refine Go.iloadN (pc' := 36) d3_35 rfl rfl ?_
  refine Go.callS (pc' := 39) (argsL := [(.ref r), (.int (0 : Int32)), (.int (6 : Int32))]) (rest := []) (W := 0) (hw _ (List.mem_of_getElem? (i := 65) rfl)) (hw _ (List.mem_of_getElem? (i := 66) rfl)) (hw _ (List.mem_of_getElem? (i := 67) rfl)) (hw _ (List.mem_of_getElem? (i := 68) rfl)) (by decide) (m_c3_6 l Z a0 hw r c0 c1 c2 c3 c4 c5 h0 n0 z0  hR hc0 hc1 hc2 hc3 hc4 hc5 hd0 hd1 hd2 hd3 hd4 hd5) d3_36 rfl pd1 rfl rfl (Nat.le_of_eq rfl) (by decide) (by decide) (by decide) (by decide) rfl ?_
  rintro _ h_839 ⟨o_840, rfl, K_841, q_842, t_843, ho_844⟩
  have n_845 : a ≠ o_840 := Nat.ne_of_lt (Nat.lt_of_lt_of_le hE.lt q_842)
  have n_846 : r ≠ o_840 := Nat.ne_of_lt (Nat.lt_of_lt_of_le hR.lt q_842)
  have g_847 : n0 ≤ o_840 := Nat.le_trans z0 q_842
  have g_848 : h0.size ≤ o_840 := Nat.le_trans (Nat.le_refl _) q_842
  have f_850 : Exa Z h_839 a "java/lang/String" := hE.sm (Sm.keep K_841 nin0)
  have f_851 : Fld Z h_839 a "java/lang/String" "value" "[B" .null := hFV.sm (Sm.keep K_841 nin0)
  have f_852 : Fld Z h_839 a "java/lang/String" "coder" "B" (.int (0 : Int32)) := hFC.sm (Sm.keep K_841 nin0)
  have f_853 : Ary Z h_839 r .char [(.int c0), (.int c1), (.int c2), (.int c3), (.int c4), (.int c5)] := hR.sm (Sm.keep K_841 nin0)
  have t_854 : a < h_839.size := Nat.lt_of_lt_of_le hE.lt K_841.1
  have t_855 : r < h_839.size := Nat.lt_of_lt_of_le hR.lt K_841.1
  have z_856 : n0 ≤ h_839.size := Nat.le_trans z0 K_841.1
  have b_857 : h0.size ≤ h_839.size := Nat.le_trans (Nat.le_refl _) K_841.1
  have K_858 : Keep h0 h_839 [a] := (Keep.refl _ _).trans K_841 all0
  have O_859 : Old Z n0 h_839 := hO.keep K_841 all0
  have f_849 : Sta Z h_839 "java/lang/String" "COMPACT_STRINGS" "Z" (.int cs) := Sta.ext O_859.2 hSCS
  show (Go .n l ({ frames := 4, cells := 2, slots := 18, locals := 60 } : Room) Z (⟨"java/lang/String", "<init>", "([CIILjava/lang/Void;)V"⟩ : MethodName) jdk_42_method_149_code 6 none n0 2 18 (fun v h => v = none ∧ Keep h0 h [a] ∧ ∃ o : Addr, Fld Z h a "java/lang/String" "value" "[B" (.ref o) ∧ o < h.size ∧ (Fld Z h a "java/lang/String" "coder" "B" (.int (0 : Int32)) ∧ ∃ b0 b1 b2 b3 b4 b5 : Int32, Ary Z h o .byte [.int b0, .int b1, .int b2, .int b3, .int b4, .int b5] ∧ b0.toInt % 256 = c0.toInt ∧ b1.toInt % 256 = c1.toInt ∧ b2.toInt % 256 = c2.toInt ∧ b3.toInt % 256 = c3.toInt ∧ b4.toInt % 256 = c4.toInt ∧ b5.toInt % 256 = c5.toInt))) h_839 (0 + 2) (0 + 18) 39 #[.val (.ref a), .val (.ref r), .val (.int (0 : Int32)), .val (.int (6 : Int32)), .val .null, .unset] [(.ref o_840)]
  obtain ⟨b0, b1, b2, b3, b4, b5, A_860, e_861, e_862, e_863, e_864, e_865, e_866⟩ := ho_844
  refine Go.astore (pc' := 41) (Ls' := #[.val (.ref a), .val (.ref r), .val (.int (0 : Int32)), .val (.int (6 : Int32)), .val .null, .val (.ref o_840)]) d3_39 rfl rfl rfl ?_
  refine Go.aloadN (pc' := 42) d3_41 rfl rfl rfl ?_
  refine Go.aload (pc' := 44) d3_42 rfl rfl rfl ?_
  refine Go.iloadN (pc' := 45) d3_44 rfl rfl ?_
  refine Go.callS (pc' := 48) (argsL := [(.ref o_840), (.int (6 : Int32))]) (rest := [(.ref a)]) (W := 1) (hw _ (List.mem_of_getElem? (i := 72) rfl)) (hw _ (List.mem_of_getElem? (i := 73) rfl)) (hw _ (List.mem_of_getElem? (i := 67) rfl)) (hw _ (List.mem_of_getElem? (i := 74) rfl)) (by decide) (m_cl6_0 l Z a0 hw o_840 [.int b0, .int b1, .int b2, .int b3, .int b4, .int b5] h_839 n0 z_856 A_860 rfl) d3_45 rfl pd2 rfl rfl (Nat.le_of_eq rfl) (by decide) (by decide) (by decide) (by decide) rfl ?_
  rintro _ _ ⟨rfl, rfl⟩
  show (Go .n l ({ frames := 4, cells := 2, slots := 18, locals := 60 } : Room) Z (⟨"java/lang/String", "<init>", "([CIILjava/lang/Void;)V"⟩ : MethodName) jdk_42_method_149_code 6 none n0 2 18 (fun v h => v = none ∧ Keep h0 h [a] ∧ ∃ o : Addr, Fld Z h a "java/lang/String" "value" "[B" (.ref o) ∧ o < h.size ∧ (Fld Z h a "java/lang/String" "coder" "B" (.int (0 : Int32)) ∧ ∃ b0 b1 b2 b3 b4 b5 : Int32, Ary Z h o .byte [.int b0, .int b1, .int b2, .int b3, .int b4, .int b5] ∧ b0.toInt % 256 = c0.toInt ∧ b1.toInt % 256 = c1.toInt ∧ b2.toInt % 256 = c2.toInt ∧ b3.toInt % 256 = c3.toInt ∧ b4.toInt % 256 = c4.toInt ∧ b5.toInt % 256 = c5.toInt))) h_839 (0 + 2 + 0) (0 + 18 + 0) 48 #[.val (.ref a), .val (.ref r), .val (.int (0 : Int32)), .val (.int (6 : Int32)), .val .null, .val (.ref o_840)] [(.int (0 : Int32)), (.ref a)]
  refine Go.putF (pc' := 51) (ty := .byte) (hw _ (List.mem_of_getElem? (i := 27) rfl)) f_852 f_850 (Or.inr ⟨(hw _ (List.mem_of_getElem? (i := 23) rfl)), rfl, rfl⟩) (hw _ (List.mem_of_getElem? (i := 8) rfl)) (by decide) rfl rfl d3_48 hg rfl ?_
  intro h_867 W_868
  have f_869 : Exa Z h_867 a "java/lang/String" := Exa.wr W_868 f_850
  have f_870 : Ary Z h_867 r .char [(.int c0), (.int c1), (.int c2), (.int c3), (.int c4), (.int c5)] := f_853.sm (Sm.wr W_868 n_836.symm)
  have f_872 : Ary Z h_867 o_840 .byte [(.int b0), (.int b1), (.int b2), (.int b3), (.int b4), (.int b5)] := A_860.sm (Sm.wr W_868 n_845.symm)
  have t_873 : a < h_867.size := Nat.lt_of_lt_of_le t_854 (Nat.le_of_eq W_868.size.symm)
  have t_874 : r < h_867.size := Nat.lt_of_lt_of_le t_855 (Nat.le_of_eq W_868.size.symm)
  have t_875 : o_840 < h_867.size := Nat.lt_of_lt_of_le t_843 (Nat.le_of_eq W_868.size.symm)
  have z_876 : n0 ≤ h_867.size := Nat.le_trans z_856 (Nat.le_of_eq W_868.size.symm)
  have b_877 : h0.size ≤ h_867.size := Nat.le_trans b_857 (Nat.le_of_eq W_868.size.symm)
  have K_878 : Keep h0 h_867 [a] := K_858.wr W_868 (Or.inl (List.mem_of_getElem? (i := 0) rfl))
  have O_879 : Old Z n0 h_867 := O_859.wr W_868 hg
  have f_871 : Sta Z h_867 "java/lang/String" "COMPACT_STRINGS" "Z" (.int cs) := Sta.ext O_879.2 hSCS
  have f_880 : Fld Z h_867 a "java/lang/String" "value" "[B" .null := Fld.other W_868 f_851 (Or.inr (slot_ne (Or.inr (hw _ (List.mem_of_getElem? (i := 22) rfl))) (Or.inr (hw _ (List.mem_of_getElem? (i := 23) rfl))) (by decide) (t := (.array .byte)) (t' := .byte) (by decide) (by decide)))
  have f_881 : Fld Z h_867 a "java/lang/String" "coder" "B" (.int (0 : Int32)) := Fld.same W_868 f_852
  refine Go.aloadN (pc' := 52) d3_51 rfl rfl rfl ?_
  refine Go.aload (pc' := 54) d3_52 rfl rfl rfl ?_
  refine Go.putF (pc' := 57) (ty := (.array .byte)) (hw _ (List.mem_of_getElem? (i := 26) rfl)) f_880 f_869 (Or.inr ⟨(hw _ (List.mem_of_getElem? (i := 22) rfl)), rfl, rfl⟩) (hw _ (List.mem_of_getElem? (i := 8) rfl)) (by decide) rfl rfl d3_54 hg rfl ?_
  intro h_882 W_883
  have f_884 : Exa Z h_882 a "java/lang/String" := Exa.wr W_883 f_869
  have f_885 : Ary Z h_882 r .char [(.int c0), (.int c1), (.int c2), (.int c3), (.int c4), (.int c5)] := f_870.sm (Sm.wr W_883 n_836.symm)
  have f_886 : Ary Z h_882 o_840 .byte [(.int b0), (.int b1), (.int b2), (.int b3), (.int b4), (.int b5)] := f_872.sm (Sm.wr W_883 n_845.symm)
  have t_888 : a < h_882.size := Nat.lt_of_lt_of_le t_873 (Nat.le_of_eq W_883.size.symm)
  have t_889 : r < h_882.size := Nat.lt_of_lt_of_le t_874 (Nat.le_of_eq W_883.size.symm)
  have t_890 : o_840 < h_882.size := Nat.lt_of_lt_of_le t_875 (Nat.le_of_eq W_883.size.symm)
  have z_891 : n0 ≤ h_882.size := Nat.le_trans z_876 (Nat.le_of_eq W_883.size.symm)
  have b_892 : h0.size ≤ h_882.size := Nat.le_trans b_877 (Nat.le_of_eq W_883.size.symm)
  have K_893 : Keep h0 h_882 [a] := K_878.wr W_883 (Or.inl (List.mem_of_getElem? (i := 0) rfl))
  have O_894 : Old Z n0 h_882 := O_879.wr W_883 hg
  have f_887 : Sta Z h_882 "java/lang/String" "COMPACT_STRINGS" "Z" (.int cs) := Sta.ext O_894.2 hSCS
  have f_895 : Fld Z h_882 a "java/lang/String" "value" "[B" (.ref o_840) := Fld.same W_883 f_880
  have f_896 : Fld Z h_882 a "java/lang/String" "coder" "B" (.int (0 : Int32)) := Fld.other W_883 f_881 (Or.inr (slot_ne (Or.inr (hw _ (List.mem_of_getElem? (i := 23) rfl))) (Or.inr (hw _ (List.mem_of_getElem? (i := 22) rfl))) (by decide) (t := .byte) (t' := (.array .byte)) (by decide) (by decide)))
  exact Go.ret0 d3_57 rfl ⟨rfl, K_893, o_840, f_895, t_890, f_896, b0, b1, b2, b3, b4, b5, f_886, e_861, e_862, e_863, e_864, e_865, e_866⟩ (by decide) (by decide)
set_option maxRecDepth 65536 in
set_option maxHeartbeats 40000000 in
theorem m_s1_6 (l : Launch) (Z : State) (a0 : Array Value) (hw : ∀ d ∈ tables_1, d.before a0 Z = true) (a r : Addr) (c0 c1 c2 c3 c4 c5 : Int32) (cs : Int32) (h0 : Heap) (n0 : Nat) (z0 : n0 ≤ h0.size) (hO : Old Z n0 h0) (hSCS : Sta Z Z.heap "java/lang/String" "COMPACT_STRINGS" "Z" (.int cs)) (hcs : cs.toInt ≠ 0) (hE : Exa Z h0 a "java/lang/String") (hFV : Fld Z h0 a "java/lang/String" "value" "[B" .null) (hFC : Fld Z h0 a "java/lang/String" "coder" "B" (.int (0 : Int32))) (hg : n0 ≤ a) (hR : Ary Z h0 r .char [.int c0, .int c1, .int c2, .int c3, .int c4, .int c5]) (hc0 : 0 ≤ c0.toInt ∧ c0.toInt < 65536) (hc1 : 0 ≤ c1.toInt ∧ c1.toInt < 65536) (hc2 : 0 ≤ c2.toInt ∧ c2.toInt < 65536) (hc3 : 0 ≤ c3.toInt ∧ c3.toInt < 65536) (hc4 : 0 ≤ c4.toInt ∧ c4.toInt < 65536) (hc5 : 0 ≤ c5.toInt ∧ c5.toInt < 65536) (hd0 : c0.toInt < 256) (hd1 : c1.toInt < 256) (hd2 : c2.toInt < 256) (hd3 : c3.toInt < 256) (hd4 : c4.toInt < 256) (hd5 : c5.toInt < 256) : Mt .n l Z (⟨"java/lang/String", "<init>", "([C)V"⟩ : MethodName) jdk_42_method_3_code 2 none ({ frames := 5, cells := 2, slots := 18, locals := 78 } : Room) n0 (fun v h => v = none ∧ Keep h0 h [a] ∧ ∃ o : Addr, Fld Z h a "java/lang/String" "value" "[B" (.ref o) ∧ o < h.size ∧ (Fld Z h a "java/lang/String" "coder" "B" (.int (0 : Int32)) ∧ ∃ b0 b1 b2 b3 b4 b5 : Int32, Ary Z h o .byte [.int b0, .int b1, .int b2, .int b3, .int b4, .int b5] ∧ b0.toInt % 256 = c0.toInt ∧ b1.toInt % 256 = c1.toInt ∧ b2.toInt % 256 = c2.toInt ∧ b3.toInt % 256 = c3.toInt ∧ b4.toInt % 256 = c4.toInt ∧ b5.toInt % 256 = c5.toInt)) h0 #[(.ref a), (.ref r)] := by
  refine Mt.go (Ls := #[.val (.ref a), .val (.ref r)]) (by first | exact plainFor_of_name (by decide +kernel) | decide +kernel | (simp [plainFor]; done)) (fun m => by first | (simp [entryFrame, mkF, argsToLocals, Value.category]; done) | rfl) ?_
  show (Go .n l ({ frames := 5, cells := 2, slots := 18, locals := 78 } : Room) Z (⟨"java/lang/String", "<init>", "([C)V"⟩ : MethodName) jdk_42_method_3_code 2 none n0 2 18 (fun v h => v = none ∧ Keep h0 h [a] ∧ ∃ o : Addr, Fld Z h a "java/lang/String" "value" "[B" (.ref o) ∧ o < h.size ∧ (Fld Z h a "java/lang/String" "coder" "B" (.int (0 : Int32)) ∧ ∃ b0 b1 b2 b3 b4 b5 : Int32, Ary Z h o .byte [.int b0, .int b1, .int b2, .int b3, .int b4, .int b5] ∧ b0.toInt % 256 = c0.toInt ∧ b1.toInt % 256 = c1.toInt ∧ b2.toInt % 256 = c2.toInt ∧ b3.toInt % 256 = c3.toInt ∧ b4.toInt % 256 = c4.toInt ∧ b5.toInt % 256 = c5.toInt))) h0 0 0 0 #[.val (.ref a), .val (.ref r)] []
  have hTCS : Sta Z h0 "java/lang/String" "COMPACT_STRINGS" "Z" (.int cs) := Sta.ext hO.2 hSCS
  have n_897 : a ≠ r := by obtain ⟨_, Ag, -⟩ := hR; exact ne_arr hE (hw _ (List.mem_of_getElem? (i := 8) rfl)) Ag
  refine Go.aloadN (pc' := 1) d2_0 rfl rfl rfl ?_
  refine Go.aloadN (pc' := 2) d2_1 rfl rfl rfl ?_
  refine Go.iconst (pc' := 3) (v := (0 : Int32)) d2_2 rfl rfl ?_
  refine Go.aloadN (pc' := 4) d2_3 rfl rfl rfl ?_
  refine Go.alen (pc' := 5) (z := (6 : Int32)) hR rfl d2_4 rfl ?_
  refine Go.aconstNull (pc' := 6) d2_5 rfl ?_
  refine Go.callN (pc' := 9) (argsL := [(.ref r), (.int (0 : Int32)), (.int (6 : Int32)), .null]) (rest := []) (W := 0) rfl (hw _ (List.mem_of_getElem? (i := 13) rfl)) (hw _ (List.mem_of_getElem? (i := 14) rfl)) (hw _ (List.mem_of_getElem? (i := 9) rfl)) (hw _ (List.mem_of_getElem? (i := 16) rfl)) (by decide) (m_s2_6 l Z a0 hw a r c0 c1 c2 c3 c4 c5 cs h0 n0 z0 hO hSCS hcs hE hFV hFC hg hR hc0 hc1 hc2 hc3 hc4 hc5 hd0 hd1 hd2 hd3 hd4 hd5) d2_6 rfl pd3 rfl rfl (Nat.le_of_eq rfl) (by decide) (by decide) (by decide) (by decide) rfl ?_
  rintro _ h_898 ⟨rfl, K, hs⟩
  have f_900 : Exa Z h_898 a "java/lang/String" := hE.keep K
  have f_903 : Ary Z h_898 r .char [(.int c0), (.int c1), (.int c2), (.int c3), (.int c4), (.int c5)] := hR.sm (Sm.keep K (ninS n_897.symm nin0))
  have t_904 : a < h_898.size := Nat.lt_of_lt_of_le hE.lt K.1
  have t_905 : r < h_898.size := Nat.lt_of_lt_of_le hR.lt K.1
  have z_906 : n0 ≤ h_898.size := Nat.le_trans z0 K.1
  have b_907 : h0.size ≤ h_898.size := Nat.le_trans (Nat.le_refl _) K.1
  have K_908 : Keep h0 h_898 [a] := (Keep.refl _ _).trans K (allS (Or.inl (List.mem_of_getElem? (i := 0) rfl)) all0)
  have O_909 : Old Z n0 h_898 := hO.keep K (allS hg all0)
  have f_899 : Sta Z h_898 "java/lang/String" "COMPACT_STRINGS" "Z" (.int cs) := Sta.ext O_909.2 hSCS
  show (Go .n l ({ frames := 5, cells := 2, slots := 18, locals := 78 } : Room) Z (⟨"java/lang/String", "<init>", "([C)V"⟩ : MethodName) jdk_42_method_3_code 2 none n0 2 18 (fun v h => v = none ∧ Keep h0 h [a] ∧ ∃ o : Addr, Fld Z h a "java/lang/String" "value" "[B" (.ref o) ∧ o < h.size ∧ (Fld Z h a "java/lang/String" "coder" "B" (.int (0 : Int32)) ∧ ∃ b0 b1 b2 b3 b4 b5 : Int32, Ary Z h o .byte [.int b0, .int b1, .int b2, .int b3, .int b4, .int b5] ∧ b0.toInt % 256 = c0.toInt ∧ b1.toInt % 256 = c1.toInt ∧ b2.toInt % 256 = c2.toInt ∧ b3.toInt % 256 = c3.toInt ∧ b4.toInt % 256 = c4.toInt ∧ b5.toInt % 256 = c5.toInt))) h_898 (0 + 2) (0 + 18) 9 #[.val (.ref a), .val (.ref r)] []
  exact Go.ret0 d2_9 rfl ⟨rfl, K_908, hs⟩ (by decide) (by decide)
set_option maxRecDepth 65536 in
set_option maxHeartbeats 40000000 in
theorem m_s2_0 (l : Launch) (Z : State) (a0 : Array Value) (hw : ∀ d ∈ tables_1, d.before a0 Z = true) (a r : Addr) (h0 : Heap) (n0 : Nat) (z0 : n0 ≤ h0.size) (hO : Old Z n0 h0) (hH : Jvm.Lit.constHeld Z "java/lang/String" 7) (hcw : Jvm.Lit.compactW.before a0 Z = true) (hE : Exa Z h0 a "java/lang/String") (hFV : Fld Z h0 a "java/lang/String" "value" "[B" .null) (hFC : Fld Z h0 a "java/lang/String" "coder" "B" (.int (0 : Int32))) (hg : n0 ≤ a) : MtH l Z (⟨"java/lang/String", "<init>", "([CIILjava/lang/Void;)V"⟩ : MethodName) jdk_42_method_149_code 6 none ({ frames := 1, cells := 2, slots := 4, locals := 12 } : Room) n0 (fun v h => v = none ∧ ∃ o : Addr, Keep h0 h [a] ∧ Fld Z h a "java/lang/String" "value" "[B" (.ref o) ∧ Fld Z h a "java/lang/String" "coder" "B" (.int (0 : Int32)) ∧ Ary Z h o .byte []) h0 #[(.ref a), (.ref r), (.int (0 : Int32)), (.int (0 : Int32)), .null] [] [""] := by
  refine MtH.go (n1 := h0.size) (Ls := #[.val (.ref a), .val (.ref r), .val (.int (0 : Int32)), .val (.int (0 : Int32)), .val .null, .unset]) (by first | exact plainFor_of_name (by decide +kernel) | decide +kernel | (simp [plainFor]; done)) (fun m => by first | (simp [entryFrame, mkF, argsToLocals, Value.category]; done) | rfl) (fun _ q => nomatch q) z0 ?_
  show (Go _ l ({ frames := 1, cells := 2, slots := 4, locals := 12 } : Room) Z (⟨"java/lang/String", "<init>", "([CIILjava/lang/Void;)V"⟩ : MethodName) jdk_42_method_149_code 6 none h0.size 2 4 (fun v h => v = none ∧ ∃ o : Addr, Keep h0 h [a] ∧ Fld Z h a "java/lang/String" "value" "[B" (.ref o) ∧ Fld Z h a "java/lang/String" "coder" "B" (.int (0 : Int32)) ∧ Ary Z h o .byte [])) h0 0 0 0 #[.val (.ref a), .val (.ref r), .val (.int (0 : Int32)), .val (.int (0 : Int32)), .val .null, .unset] []
  refine Go.aloadN (pc' := 1) d3_0 rfl rfl rfl ?_
  refine Go.initO (pc' := 4) (W := 0) (hw _ (List.mem_of_getElem? (i := 17) rfl)) (hw _ (List.mem_of_getElem? (i := 18) rfl)) (hw _ (List.mem_of_getElem? (i := 19) rfl)) d3_1 rfl (by decide) (Nat.le_of_eq rfl) (by decide) rfl ?_
  refine Go.iloadN (pc' := 5) d3_4 rfl rfl ?_
  refine Go.ifc (pc1 := 27) (pc2 := 8) d3_5 (by decide) (by decide) rfl (fun (c_910 : (0 : Int) ≠ 0) => ?_) (fun (c_910 : (0 : Int) = 0) => ?_)
  · exact absurd c_910 (by decide)
  refine Go.aloadN (pc' := 9) d3_8 rfl rfl rfl ?_
  refine Go.ldcV (pc' := 11) (text := "") (n := 0) (n1 := n0) (Ts := []) (vs := []) (z := (0 : Int32)) (hw _ (List.mem_of_getElem? (i := 20) rfl)) (strAtoms l Z a0 hw) (fun _ k => k) (by simp) (fun b cl q => hO.2.2 b cl q) (Nat.le_refl _) hH hcw ⟨by decide, rfl⟩ rfl d3_9 (by decide) (by decide) (by decide) (by decide) rfl (ibE (fun _ q => q)) (Nat.le_refl _) z0 ?_
  intro h_911 x_912 o_913 E_914 X_915 F_916 F_917 A_918
  have f_919 : Exa Z h_911 a "java/lang/String" := hE.sm (Sm.ext E_914)
  have f_920 : Fld Z h_911 a "java/lang/String" "value" "[B" .null := hFV.sm (Sm.ext E_914)
  have f_921 : Fld Z h_911 a "java/lang/String" "coder" "B" (.int (0 : Int32)) := hFC.sm (Sm.ext E_914)
  have t_922 : a < h_911.size := Nat.lt_of_lt_of_le hE.lt E_914.1
  have z_923 : n0 ≤ h_911.size := Nat.le_trans z0 E_914.1
  have b_924 : h0.size ≤ h_911.size := Nat.le_trans (Nat.le_refl _) E_914.1
  have K_925 : Keep h0 h_911 [a] := (Keep.refl _ _).ext E_914
  have nx : a ≠ x_912 := fun q => by subst q; exact absurd (own_fld_inj f_920 F_917) (fun z => by cases z)
  have n_926 : a ≠ o_913 := by obtain ⟨_, Ag, -⟩ := A_918; exact ne_arr f_919 (hw _ (List.mem_of_getElem? (i := 8) rfl)) Ag
  have n_927 : x_912 ≠ o_913 := by obtain ⟨_, Ag, -⟩ := A_918; exact ne_arr X_915 (hw _ (List.mem_of_getElem? (i := 8) rfl)) Ag
  show (Go _ l ({ frames := 1, cells := 2, slots := 4, locals := 12 } : Room) Z (⟨"java/lang/String", "<init>", "([CIILjava/lang/Void;)V"⟩ : MethodName) jdk_42_method_149_code 6 none n0 2 4 (fun v h => v = none ∧ ∃ o : Addr, Keep h0 h [a] ∧ Fld Z h a "java/lang/String" "value" "[B" (.ref o) ∧ Fld Z h a "java/lang/String" "coder" "B" (.int (0 : Int32)) ∧ Ary Z h o .byte [])) h_911 (0 + 2) (0 + (0 + 4)) 11 #[.val (.ref a), .val (.ref r), .val (.int (0 : Int32)), .val (.int (0 : Int32)), .val .null, .unset] [(.ref x_912), (.ref a)]
  refine Go.getF (pc' := 14) (hw _ (List.mem_of_getElem? (i := 26) rfl)) F_917 d3_11 rfl ?_
  refine Go.putF (pc' := 17) (ty := (.array .byte)) (hw _ (List.mem_of_getElem? (i := 26) rfl)) f_920 f_919 (Or.inr ⟨(hw _ (List.mem_of_getElem? (i := 22) rfl)), rfl, rfl⟩) (hw _ (List.mem_of_getElem? (i := 8) rfl)) (by decide) rfl rfl d3_14 hg rfl ?_
  intro h_928 W_929
  have f_930 : Exa Z h_928 a "java/lang/String" := Exa.wr W_929 f_919
  have f_931 : Exa Z h_928 x_912 "java/lang/String" := X_915.sm (Sm.wr W_929 nx.symm)
  have f_932 : Fld Z h_928 x_912 "java/lang/String" "coder" "B" (.int (0 : Int32)) := F_916.sm (Sm.wr W_929 nx.symm)
  have f_933 : Fld Z h_928 x_912 "java/lang/String" "value" "[B" (.ref o_913) := F_917.sm (Sm.wr W_929 nx.symm)
  have f_934 : Ary Z h_928 o_913 .byte [] := A_918.sm (Sm.wr W_929 n_926.symm)
  have t_935 : a < h_928.size := Nat.lt_of_lt_of_le t_922 (Nat.le_of_eq W_929.size.symm)
  have z_936 : n0 ≤ h_928.size := Nat.le_trans z_923 (Nat.le_of_eq W_929.size.symm)
  have b_937 : h0.size ≤ h_928.size := Nat.le_trans b_924 (Nat.le_of_eq W_929.size.symm)
  have K_938 : Keep h0 h_928 [a] := K_925.wr W_929 (Or.inl (List.mem_of_getElem? (i := 0) rfl))
  have f_939 : Fld Z h_928 a "java/lang/String" "value" "[B" (.ref o_913) := Fld.same W_929 f_920
  have f_940 : Fld Z h_928 a "java/lang/String" "coder" "B" (.int (0 : Int32)) := Fld.other W_929 f_921 (Or.inr (slot_ne (Or.inr (hw _ (List.mem_of_getElem? (i := 23) rfl))) (Or.inr (hw _ (List.mem_of_getElem? (i := 22) rfl))) (by decide) (t := .byte) (t' := (.array .byte)) (by decide) (by decide)))
  refine Go.aloadN (pc' := 18) d3_17 rfl rfl rfl ?_
  refine Go.ldcAg (pc' := 20) (text := "") (a := x_912) (hw _ (List.mem_of_getElem? (i := 20) rfl)) (fun _ k => k.2) d3_18 rfl ?_
  show (Go _ l ({ frames := 1, cells := 2, slots := 4, locals := 12 } : Room) Z (⟨"java/lang/String", "<init>", "([CIILjava/lang/Void;)V"⟩ : MethodName) jdk_42_method_149_code 6 none n0 2 4 (fun v h => v = none ∧ ∃ o : Addr, Keep h0 h [a] ∧ Fld Z h a "java/lang/String" "value" "[B" (.ref o) ∧ Fld Z h a "java/lang/String" "coder" "B" (.int (0 : Int32)) ∧ Ary Z h o .byte [])) h_928 (0 + 2) (0 + (0 + 4)) 20 #[.val (.ref a), .val (.ref r), .val (.int (0 : Int32)), .val (.int (0 : Int32)), .val .null, .unset] [(.ref x_912), (.ref a)]
  refine Go.getF (pc' := 23) (hw _ (List.mem_of_getElem? (i := 27) rfl)) f_932 d3_20 rfl ?_
  refine Go.putF (pc' := 26) (ty := .byte) (hw _ (List.mem_of_getElem? (i := 27) rfl)) f_940 f_930 (Or.inr ⟨(hw _ (List.mem_of_getElem? (i := 23) rfl)), rfl, rfl⟩) (hw _ (List.mem_of_getElem? (i := 8) rfl)) (by decide) rfl rfl d3_23 hg rfl ?_
  intro h_941 W_942
  have f_943 : Exa Z h_941 a "java/lang/String" := Exa.wr W_942 f_930
  have f_944 : Exa Z h_941 x_912 "java/lang/String" := f_931.sm (Sm.wr W_942 nx.symm)
  have f_945 : Fld Z h_941 x_912 "java/lang/String" "coder" "B" (.int (0 : Int32)) := f_932.sm (Sm.wr W_942 nx.symm)
  have f_946 : Fld Z h_941 x_912 "java/lang/String" "value" "[B" (.ref o_913) := f_933.sm (Sm.wr W_942 nx.symm)
  have f_947 : Ary Z h_941 o_913 .byte [] := f_934.sm (Sm.wr W_942 n_926.symm)
  have t_948 : a < h_941.size := Nat.lt_of_lt_of_le t_935 (Nat.le_of_eq W_942.size.symm)
  have z_949 : n0 ≤ h_941.size := Nat.le_trans z_936 (Nat.le_of_eq W_942.size.symm)
  have b_950 : h0.size ≤ h_941.size := Nat.le_trans b_937 (Nat.le_of_eq W_942.size.symm)
  have K_951 : Keep h0 h_941 [a] := K_938.wr W_942 (Or.inl (List.mem_of_getElem? (i := 0) rfl))
  have f_952 : Fld Z h_941 a "java/lang/String" "value" "[B" (.ref o_913) := Fld.other W_942 f_939 (Or.inr (slot_ne (Or.inr (hw _ (List.mem_of_getElem? (i := 22) rfl))) (Or.inr (hw _ (List.mem_of_getElem? (i := 23) rfl))) (by decide) (t := (.array .byte)) (t' := .byte) (by decide) (by decide)))
  have f_953 : Fld Z h_941 a "java/lang/String" "coder" "B" (.int (0 : Int32)) := Fld.same W_942 f_940
  exact Go.ret0 d3_26 rfl ⟨rfl, o_913, K_951, f_952, f_953, f_947⟩ (by decide) (by decide)
set_option maxRecDepth 65536 in
set_option maxHeartbeats 40000000 in
theorem m_s1_0 (l : Launch) (Z : State) (a0 : Array Value) (hw : ∀ d ∈ tables_1, d.before a0 Z = true) (a r : Addr) (h0 : Heap) (n0 : Nat) (z0 : n0 ≤ h0.size) (hO : Old Z n0 h0) (hH : Jvm.Lit.constHeld Z "java/lang/String" 7) (hcw : Jvm.Lit.compactW.before a0 Z = true) (hE : Exa Z h0 a "java/lang/String") (hFV : Fld Z h0 a "java/lang/String" "value" "[B" .null) (hFC : Fld Z h0 a "java/lang/String" "coder" "B" (.int (0 : Int32))) (hg : n0 ≤ a) (hR : Ary Z h0 r .char []) : MtH l Z (⟨"java/lang/String", "<init>", "([C)V"⟩ : MethodName) jdk_42_method_3_code 2 none ({ frames := 2, cells := 2, slots := 4, locals := 30 } : Room) n0 (fun v h => v = none ∧ ∃ o : Addr, Keep h0 h [a] ∧ Fld Z h a "java/lang/String" "value" "[B" (.ref o) ∧ Fld Z h a "java/lang/String" "coder" "B" (.int (0 : Int32)) ∧ Ary Z h o .byte []) h0 #[(.ref a), (.ref r)] [] [""] := by
  refine MtH.go (n1 := n0) (Ls := #[.val (.ref a), .val (.ref r)]) (by first | exact plainFor_of_name (by decide +kernel) | decide +kernel | (simp [plainFor]; done)) (fun m => by first | (simp [entryFrame, mkF, argsToLocals, Value.category]; done) | rfl) (fun _ q => nomatch q) (Nat.le_refl _) ?_
  show (Go _ l ({ frames := 2, cells := 2, slots := 4, locals := 30 } : Room) Z (⟨"java/lang/String", "<init>", "([C)V"⟩ : MethodName) jdk_42_method_3_code 2 none n0 2 4 (fun v h => v = none ∧ ∃ o : Addr, Keep h0 h [a] ∧ Fld Z h a "java/lang/String" "value" "[B" (.ref o) ∧ Fld Z h a "java/lang/String" "coder" "B" (.int (0 : Int32)) ∧ Ary Z h o .byte [])) h0 0 0 0 #[.val (.ref a), .val (.ref r)] []
  have n_954 : a ≠ r := by obtain ⟨_, Ag, -⟩ := hR; exact ne_arr hE (hw _ (List.mem_of_getElem? (i := 8) rfl)) Ag
  refine Go.aloadN (pc' := 1) d2_0 rfl rfl rfl ?_
  refine Go.aloadN (pc' := 2) d2_1 rfl rfl rfl ?_
  refine Go.iconst (pc' := 3) (v := (0 : Int32)) d2_2 rfl rfl ?_
  refine Go.aloadN (pc' := 4) d2_3 rfl rfl rfl ?_
  refine Go.alen (pc' := 5) (z := (0 : Int32)) hR rfl d2_4 rfl ?_
  refine Go.aconstNull (pc' := 6) d2_5 rfl ?_
  refine Go.callNI (pc' := 9) (argsL := [(.ref r), (.int (0 : Int32)), (.int (0 : Int32)), .null]) (rest := []) (W := 0) rfl (hw _ (List.mem_of_getElem? (i := 13) rfl)) (hw _ (List.mem_of_getElem? (i := 14) rfl)) (hw _ (List.mem_of_getElem? (i := 9) rfl)) (hw _ (List.mem_of_getElem? (i := 16) rfl)) (by decide) (m_s2_0 l Z a0 hw a r h0 n0 z0 hO hH hcw hE hFV hFC hg) (fun _ k => k) (ibE (fun _ q => q)) d2_6 rfl pd3 rfl rfl (Nat.le_of_eq rfl) (by decide) (by decide) (by decide) (by decide) rfl ?_
  rintro _ h_955 ⟨rfl, o, K, f1, f2, A⟩
  have f_956 : Exa Z h_955 a "java/lang/String" := hE.keep K
  have f_959 : Ary Z h_955 r .char [] := hR.sm (Sm.keep K (ninS n_954.symm nin0))
  have t_960 : a < h_955.size := Nat.lt_of_lt_of_le hE.lt K.1
  have t_961 : r < h_955.size := Nat.lt_of_lt_of_le hR.lt K.1
  have z_962 : n0 ≤ h_955.size := Nat.le_trans z0 K.1
  have b_963 : h0.size ≤ h_955.size := Nat.le_trans (Nat.le_refl _) K.1
  have K_964 : Keep h0 h_955 [a] := (Keep.refl _ _).trans K (allS (Or.inl (List.mem_of_getElem? (i := 0) rfl)) all0)
  show (Go _ l ({ frames := 2, cells := 2, slots := 4, locals := 30 } : Room) Z (⟨"java/lang/String", "<init>", "([C)V"⟩ : MethodName) jdk_42_method_3_code 2 none n0 2 4 (fun v h => v = none ∧ ∃ o : Addr, Keep h0 h [a] ∧ Fld Z h a "java/lang/String" "value" "[B" (.ref o) ∧ Fld Z h a "java/lang/String" "coder" "B" (.int (0 : Int32)) ∧ Ary Z h o .byte [])) h_955 (0 + 2) (0 + 4) 9 #[.val (.ref a), .val (.ref r)] []
  exact Go.ret0 d2_9 rfl ⟨rfl, o, K_964, f1, f2, A⟩ (by decide) (by decide)
set_option maxRecDepth 65536 in
set_option maxHeartbeats 40000000 in
theorem m_mk0 (l : Launch) (Z : State) (a0 : Array Value) (hw : ∀ d ∈ tables_1, d.before a0 Z = true) (t : Addr) (d0 d1 d2 d3 d4 d5 : Int32) (h0 : Heap) (n0 : Nat) (z0 : n0 ≤ h0.size) (hO : Old Z n0 h0) (hH : Jvm.Lit.constHeld Z "java/lang/String" 7) (hcw : Jvm.Lit.compactW.before a0 Z = true) (hT : Ary Z h0 t .char [.int d0, .int d1, .int d2, .int d3, .int d4, .int d5]) : MtH l Z (⟨"com/example/consentry/consentry/authorization/CodeChallengeMethodParsePinLaw", "make", "([CI)Ljava/lang/String;"⟩ : MethodName) method_3_code 2 (some (.object "java/lang/String")) ({ frames := 6, cells := 4, slots := 28, locals := 95 } : Room) n0 (fun v h => ∃ (s o : Addr) (W : List Int32), v = some (.ref s) ∧ Keep h0 h [] ∧ W.length ≤ 6 ∧ Exa Z h s "java/lang/String" ∧ Fld Z h s "java/lang/String" "value" "[B" (.ref o) ∧ Fld Z h s "java/lang/String" "coder" "B" (.int (0 : Int32)) ∧ Ary Z h o .byte (W.map Value.int)) h0 #[(.ref t), (.int (0 : Int32))] [] [""] := by
  refine MtH.go (n1 := n0) (Ls := #[.val (.ref t), .val (.int (0 : Int32))]) (plainFor_of_name pn0) (fun m => by first | (simp [entryFrame, mkF, argsToLocals, Value.category]; done) | rfl) (fun _ q => nomatch q) (Nat.le_refl _) ?_
  show (Go _ l ({ frames := 6, cells := 4, slots := 28, locals := 95 } : Room) Z (⟨"com/example/consentry/consentry/authorization/CodeChallengeMethodParsePinLaw", "make", "([CI)Ljava/lang/String;"⟩ : MethodName) method_3_code 2 (some (.object "java/lang/String")) n0 4 28 (fun v h => ∃ (s o : Addr) (W : List Int32), v = some (.ref s) ∧ Keep h0 h [] ∧ W.length ≤ 6 ∧ Exa Z h s "java/lang/String" ∧ Fld Z h s "java/lang/String" "value" "[B" (.ref o) ∧ Fld Z h s "java/lang/String" "coder" "B" (.int (0 : Int32)) ∧ Ary Z h o .byte (W.map Value.int))) h0 0 0 0 #[.val (.ref t), .val (.int (0 : Int32))] []
  refine Go.iloadN (pc' := 1) d1_0 rfl rfl ?_
  refine Go.ifc (pc1 := 15) (pc2 := 4) d1_1 (by decide) (by decide) rfl (fun (c_965 : (0 : Int) ≠ 0) => ?_) (fun (c_965 : (0 : Int) = 0) => ?_)
  · exact absurd c_965 (by decide)
  refine Go.newO (pc' := 7) (hw _ (List.mem_of_getElem? (i := 7) rfl)) (hw _ (List.mem_of_getElem? (i := 8) rfl)) (hw _ (List.mem_of_getElem? (i := 9) rfl)) d1_4 (by decide) (by decide) rfl ?_
  intro h_966 a_967 q_968 E_969 A_970 D_971
  have n_972 : t ≠ a_967 := Nat.ne_of_lt (q_968 ▸ hT.lt)
  have g_973 : n0 ≤ a_967 := q_968 ▸ z0
  have g_974 : h0.size ≤ a_967 := q_968 ▸ (Nat.le_refl _)
  have f_975 : Ary Z h_966 t .char [(.int d0), (.int d1), (.int d2), (.int d3), (.int d4), (.int d5)] := hT.sm (Sm.ext E_969)
  have t_976 : t < h_966.size := Nat.lt_of_lt_of_le hT.lt E_969.1
  have z_977 : n0 ≤ h_966.size := Nat.le_trans z0 E_969.1
  have b_978 : h0.size ≤ h_966.size := Nat.le_trans (Nat.le_refl _) E_969.1
  have K_979 : Keep h0 h_966 [] := (Keep.refl _ _).ext E_969
  have O_980 : Old Z n0 h_966 := hO.ext E_969
  have t_981 : a_967 < h_966.size := A_970.lt
  have f_982 : Fld Z h_966 a_967 "java/lang/String" "value" "[B" .null := D_971 (Or.inr (hw _ (List.mem_of_getElem? (i := 22) rfl))) (ty := (.array .byte)) (by decide)
  have f_983 : Fld Z h_966 a_967 "java/lang/String" "coder" "B" (.int (0 : Int32)) := D_971 (Or.inr (hw _ (List.mem_of_getElem? (i := 23) rfl))) (ty := .byte) (by decide)
  refine Go.dup (pc' := 8) d1_7 rfl rfl ?_
  refine Go.iconst (pc' := 9) (v := (0 : Int32)) d1_8 rfl rfl ?_
  refine Go.newA (pc' := 11) (k := 0) (ty := .char) (cap := 0) (hw _ (List.mem_of_getElem? (i := 0) rfl)) rfl rfl (by decide) (by decide) d1_9 (by decide) (by decide) rfl ?_
  intro h_984 a_985 q_986 E_987 A_988
  have n_990 : t ≠ a_985 := Nat.ne_of_lt (q_986 ▸ t_976)
  have n_991 : a_967 ≠ a_985 := Nat.ne_of_lt (q_986 ▸ t_981)
  have g_992 : n0 ≤ a_985 := q_986 ▸ z_977
  have g_993 : h0.size ≤ a_985 := q_986 ▸ b_978
  have f_994 : Ary Z h_984 t .char [(.int d0), (.int d1), (.int d2), (.int d3), (.int d4), (.int d5)] := f_975.sm (Sm.ext E_987)
  have f_995 : Exa Z h_984 a_967 "java/lang/String" := A_970.sm (Sm.ext E_987)
  have f_996 : Fld Z h_984 a_967 "java/lang/String" "value" "[B" .null := f_982.sm (Sm.ext E_987)
  have f_997 : Fld Z h_984 a_967 "java/lang/String" "coder" "B" (.int (0 : Int32)) := f_983.sm (Sm.ext E_987)
  have t_998 : t < h_984.size := Nat.lt_of_lt_of_le t_976 E_987.1
  have t_999 : a_967 < h_984.size := Nat.lt_of_lt_of_le t_981 E_987.1
  have z_1000 : n0 ≤ h_984.size := Nat.le_trans z_977 E_987.1
  have b_1001 : h0.size ≤ h_984.size := Nat.le_trans b_978 E_987.1
  have K_1002 : Keep h0 h_984 [] := K_979.ext E_987
  have O_1003 : Old Z n0 h_984 := O_980.ext E_987
  have t_1004 : a_985 < h_984.size := A_988.lt
  change Ary Z h_984 a_985 .char [] at A_988
  refine Go.callNI (pc' := 14) (argsL := [(.ref a_985)]) (rest := [(.ref a_967)]) (W := 1) rfl (hw _ (List.mem_of_getElem? (i := 10) rfl)) (hw _ (List.mem_of_getElem? (i := 11) rfl)) (hw _ (List.mem_of_getElem? (i := 9) rfl)) (hw _ (List.mem_of_getElem? (i := 12) rfl)) (by decide) (m_s1_0 l Z a0 hw a_967 a_985 h_984 n0 z_1000 O_1003 hH hcw f_995 f_996 f_997 g_973 A_988) (fun _ k => k) (ibE (fun _ q => q)) d1_11 rfl pd4 rfl rfl (Nat.le_of_eq rfl) (by decide) (by decide) (by decide) (by decide) rfl ?_
  rintro _ h_1005 ⟨rfl, o, K_1006, f1, f2, A⟩
  have f_1007 : Ary Z h_1005 t .char [(.int d0), (.int d1), (.int d2), (.int d3), (.int d4), (.int d5)] := f_994.sm (Sm.keep K_1006 (ninS n_972 nin0))
  have f_1008 : Exa Z h_1005 a_967 "java/lang/String" := f_995.keep K_1006
  have f_1011 : Ary Z h_1005 a_985 .char [] := A_988.sm (Sm.keep K_1006 (ninS n_991.symm nin0))
  have t_1012 : t < h_1005.size := Nat.lt_of_lt_of_le t_998 K_1006.1
  have t_1013 : a_967 < h_1005.size := Nat.lt_of_lt_of_le t_999 K_1006.1
  have t_1014 : a_985 < h_1005.size := Nat.lt_of_lt_of_le t_1004 K_1006.1
  have z_1015 : n0 ≤ h_1005.size := Nat.le_trans z_1000 K_1006.1
  have b_1016 : h0.size ≤ h_1005.size := Nat.le_trans b_1001 K_1006.1
  have K_1017 : Keep h0 h_1005 [] := K_1002.trans K_1006 (allS (Or.inr g_974) all0)
  have O_1018 : Old Z n0 h_1005 := O_1003.keep K_1006 (allS g_973 all0)
  show (Go _ l ({ frames := 6, cells := 4, slots := 28, locals := 95 } : Room) Z (⟨"com/example/consentry/consentry/authorization/CodeChallengeMethodParsePinLaw", "make", "([CI)Ljava/lang/String;"⟩ : MethodName) method_3_code 2 (some (.object "java/lang/String")) n0 4 28 (fun v h => ∃ (s o : Addr) (W : List Int32), v = some (.ref s) ∧ Keep h0 h [] ∧ W.length ≤ 6 ∧ Exa Z h s "java/lang/String" ∧ Fld Z h s "java/lang/String" "value" "[B" (.ref o) ∧ Fld Z h s "java/lang/String" "coder" "B" (.int (0 : Int32)) ∧ Ary Z h o .byte (W.map Value.int))) h_1005 (0 + 1 + 1 + 2) (0 + 4 + 0 + 4) 14 #[.val (.ref t), .val (.int (0 : Int32))] [(.ref a_967)]
  exact Go.retA d1_14 rfl rfl rfl ⟨a_967, o, [], rfl, K_1017, by simp, f_1008, f1, f2, A⟩ (by decide) (by decide)
set_option maxRecDepth 65536 in
set_option maxHeartbeats 40000000 in
theorem m_mk1 (l : Launch) (Z : State) (a0 : Array Value) (hw : ∀ d ∈ tables_1, d.before a0 Z = true) (t : Addr) (d0 d1 d2 d3 d4 d5 : Int32) (cs : Int32) (h0 : Heap) (n0 : Nat) (z0 : n0 ≤ h0.size) (hO : Old Z n0 h0) (hSCS : Sta Z Z.heap "java/lang/String" "COMPACT_STRINGS" "Z" (.int cs)) (hcs : cs.toInt ≠ 0) (hT : Ary Z h0 t .char [.int d0, .int d1, .int d2, .int d3, .int d4, .int d5]) (hd0 : 0 ≤ d0.toInt ∧ d0.toInt < 65536) (hdd0 : d0.toInt < 256) (hd1 : 0 ≤ d1.toInt ∧ d1.toInt < 65536) (hdd1 : d1.toInt < 256) (hd2 : 0 ≤ d2.toInt ∧ d2.toInt < 65536) (hdd2 : d2.toInt < 256) (hd3 : 0 ≤ d3.toInt ∧ d3.toInt < 65536) (hdd3 : d3.toInt < 256) (hd4 : 0 ≤ d4.toInt ∧ d4.toInt < 65536) (hdd4 : d4.toInt < 256) (hd5 : 0 ≤ d5.toInt ∧ d5.toInt < 65536) (hdd5 : d5.toInt < 256) : Mt .n l Z (⟨"com/example/consentry/consentry/authorization/CodeChallengeMethodParsePinLaw", "make", "([CI)Ljava/lang/String;"⟩ : MethodName) method_3_code 2 (some (.object "java/lang/String")) ({ frames := 6, cells := 4, slots := 28, locals := 95 } : Room) n0 (fun v h => ∃ (s o : Addr) (W : List Int32), v = some (.ref s) ∧ Keep h0 h [] ∧ W.length ≤ 6 ∧ Exa Z h s "java/lang/String" ∧ Fld Z h s "java/lang/String" "value" "[B" (.ref o) ∧ Fld Z h s "java/lang/String" "coder" "B" (.int (0 : Int32)) ∧ Ary Z h o .byte (W.map Value.int)) h0 #[(.ref t), (.int (1 : Int32))] := by
  refine Mt.go (Ls := #[.val (.ref t), .val (.int (1 : Int32))]) (plainFor_of_name pn0) (fun m => by first | (simp [entryFrame, mkF, argsToLocals, Value.category]; done) | rfl) ?_
  show (Go .n l ({ frames := 6, cells := 4, slots := 28, locals := 95 } : Room) Z (⟨"com/example/consentry/consentry/authorization/CodeChallengeMethodParsePinLaw", "make", "([CI)Ljava/lang/String;"⟩ : MethodName) method_3_code 2 (some (.object "java/lang/String")) n0 4 28 (fun v h => ∃ (s o : Addr) (W : List Int32), v = some (.ref s) ∧ Keep h0 h [] ∧ W.length ≤ 6 ∧ Exa Z h s "java/lang/String" ∧ Fld Z h s "java/lang/String" "value" "[B" (.ref o) ∧ Fld Z h s "java/lang/String" "coder" "B" (.int (0 : Int32)) ∧ Ary Z h o .byte (W.map Value.int))) h0 0 0 0 #[.val (.ref t), .val (.int (1 : Int32))] []
  have hTCS : Sta Z h0 "java/lang/String" "COMPACT_STRINGS" "Z" (.int cs) := Sta.ext hO.2 hSCS
  have nd0 : nar .char d0 = d0 := own_nc hd0
  refine Go.iloadN (pc' := 1) d1_0 rfl rfl ?_
  refine Go.ifc (pc1 := 15) (pc2 := 4) d1_1 (by decide) (by decide) rfl (fun (c_1019 : (1 : Int) ≠ 0) => ?_) (fun (c_1019 : (1 : Int) = 0) => ?_)
  rotate_left
  · exact absurd c_1019 (by decide)
  refine Go.iloadN (pc' := 16) d1_15 rfl rfl ?_
  refine Go.iconst (pc' := 17) (v := (1 : Int32)) d1_16 rfl rfl ?_
  refine Go.icmp (pc1 := 37) (pc2 := 20) d1_17 (by decide) (by decide) rfl (fun (c_1020 : (1 : Int) ≠ (1 : Int)) => ?_) (fun (c_1020 : (1 : Int) = (1 : Int)) => ?_)
  · exact absurd c_1020 (by decide)
  refine Go.newO (pc' := 23) (hw _ (List.mem_of_getElem? (i := 7) rfl)) (hw _ (List.mem_of_getElem? (i := 8) rfl)) (hw _ (List.mem_of_getElem? (i := 9) rfl)) d1_20 (by decide) (by decide) rfl ?_
  intro h_1021 a_1022 q_1023 E_1024 A_1025 D_1026
  have n_1027 : t ≠ a_1022 := Nat.ne_of_lt (q_1023 ▸ hT.lt)
  have g_1028 : n0 ≤ a_1022 := q_1023 ▸ z0
  have g_1029 : h0.size ≤ a_1022 := q_1023 ▸ (Nat.le_refl _)
  have f_1031 : Ary Z h_1021 t .char [(.int d0), (.int d1), (.int d2), (.int d3), (.int d4), (.int d5)] := hT.sm (Sm.ext E_1024)
  have t_1032 : t < h_1021.size := Nat.lt_of_lt_of_le hT.lt E_1024.1
  have z_1033 : n0 ≤ h_1021.size := Nat.le_trans z0 E_1024.1
  have b_1034 : h0.size ≤ h_1021.size := Nat.le_trans (Nat.le_refl _) E_1024.1
  have K_1035 : Keep h0 h_1021 [] := (Keep.refl _ _).ext E_1024
  have O_1036 : Old Z n0 h_1021 := hO.ext E_1024
  have f_1030 : Sta Z h_1021 "java/lang/String" "COMPACT_STRINGS" "Z" (.int cs) := Sta.ext O_1036.2 hSCS
  have t_1037 : a_1022 < h_1021.size := A_1025.lt
  have f_1038 : Fld Z h_1021 a_1022 "java/lang/String" "value" "[B" .null := D_1026 (Or.inr (hw _ (List.mem_of_getElem? (i := 22) rfl))) (ty := (.array .byte)) (by decide)
  have f_1039 : Fld Z h_1021 a_1022 "java/lang/String" "coder" "B" (.int (0 : Int32)) := D_1026 (Or.inr (hw _ (List.mem_of_getElem? (i := 23) rfl))) (ty := .byte) (by decide)
  refine Go.dup (pc' := 24) d1_23 rfl rfl ?_
  refine Go.iconst (pc' := 25) (v := (1 : Int32)) d1_24 rfl rfl ?_
  refine Go.newA (pc' := 27) (k := 1) (ty := .char) (cap := 1) (hw _ (List.mem_of_getElem? (i := 0) rfl)) rfl rfl (by decide) (by decide) d1_25 (by decide) (by decide) rfl ?_
  intro h_1040 a_1041 q_1042 E_1043 A_1044
  have n_1046 : t ≠ a_1041 := Nat.ne_of_lt (q_1042 ▸ t_1032)
  have n_1047 : a_1022 ≠ a_1041 := Nat.ne_of_lt (q_1042 ▸ t_1037)
  have g_1048 : n0 ≤ a_1041 := q_1042 ▸ z_1033
  have g_1049 : h0.size ≤ a_1041 := q_1042 ▸ b_1034
  have f_1050 : Ary Z h_1040 t .char [(.int d0), (.int d1), (.int d2), (.int d3), (.int d4), (.int d5)] := f_1031.sm (Sm.ext E_1043)
  have f_1052 : Exa Z h_1040 a_1022 "java/lang/String" := A_1025.sm (Sm.ext E_1043)
  have f_1053 : Fld Z h_1040 a_1022 "java/lang/String" "value" "[B" .null := f_1038.sm (Sm.ext E_1043)
  have f_1054 : Fld Z h_1040 a_1022 "java/lang/String" "coder" "B" (.int (0 : Int32)) := f_1039.sm (Sm.ext E_1043)
  have t_1055 : t < h_1040.size := Nat.lt_of_lt_of_le t_1032 E_1043.1
  have t_1056 : a_1022 < h_1040.size := Nat.lt_of_lt_of_le t_1037 E_1043.1
  have z_1057 : n0 ≤ h_1040.size := Nat.le_trans z_1033 E_1043.1
  have b_1058 : h0.size ≤ h_1040.size := Nat.le_trans b_1034 E_1043.1
  have K_1059 : Keep h0 h_1040 [] := K_1035.ext E_1043
  have O_1060 : Old Z n0 h_1040 := O_1036.ext E_1043
  have f_1051 : Sta Z h_1040 "java/lang/String" "COMPACT_STRINGS" "Z" (.int cs) := Sta.ext O_1060.2 hSCS
  have t_1061 : a_1041 < h_1040.size := A_1044.lt
  change Ary Z h_1040 a_1041 .char [(.int (0 : Int32))] at A_1044
  refine Go.dup (pc' := 28) d1_27 rfl rfl ?_
  refine Go.iconst (pc' := 29) (v := (0 : Int32)) d1_28 rfl rfl ?_
  refine Go.aloadN (pc' := 30) d1_29 rfl rfl rfl ?_
  refine Go.iconst (pc' := 31) (v := (0 : Int32)) d1_30 rfl rfl ?_
  refine Go.ldC (pc' := 32) (k := 0) (v := (.int d0)) f_1050 rfl rfl d1_31 rfl ?_
  refine Go.stC (pc' := 33) (k := 0) A_1044 rfl (by show 0 < 1; decide) d1_32 g_1048 rfl ?_
  intro h_1062 W_1063 A_1064
  rw [nd0] at W_1063 A_1064
  have f_1065 : Ary Z h_1062 t .char [(.int d0), (.int d1), (.int d2), (.int d3), (.int d4), (.int d5)] := f_1050.sm (Sm.wr W_1063 n_1046)
  have f_1066 : Exa Z h_1062 a_1022 "java/lang/String" := f_1052.sm (Sm.wr W_1063 n_1047)
  have f_1067 : Fld Z h_1062 a_1022 "java/lang/String" "value" "[B" .null := f_1053.sm (Sm.wr W_1063 n_1047)
  have f_1068 : Fld Z h_1062 a_1022 "java/lang/String" "coder" "B" (.int (0 : Int32)) := f_1054.sm (Sm.wr W_1063 n_1047)
  have t_1070 : t < h_1062.size := Nat.lt_of_lt_of_le t_1055 (Nat.le_of_eq W_1063.size.symm)
  have t_1071 : a_1022 < h_1062.size := Nat.lt_of_lt_of_le t_1056 (Nat.le_of_eq W_1063.size.symm)
  have t_1072 : a_1041 < h_1062.size := Nat.lt_of_lt_of_le t_1061 (Nat.le_of_eq W_1063.size.symm)
  have z_1073 : n0 ≤ h_1062.size := Nat.le_trans z_1057 (Nat.le_of_eq W_1063.size.symm)
  have b_1074 : h0.size ≤ h_1062.size := Nat.le_trans b_1058 (Nat.le_of_eq W_1063.size.symm)
  have K_1075 : Keep h0 h_1062 [] := K_1059.wr W_1063 (Or.inr g_1049)
  have O_1076 : Old Z n0 h_1062 := O_1060.wr W_1063 g_1048
  have f_1069 : Sta Z h_1062 "java/lang/String" "COMPACT_STRINGS" "Z" (.int cs) := Sta.ext O_1076.2 hSCS
  change Ary Z h_1062 a_1041 .char [(.int d0)] at A_1064
  refine Go.callN (pc' := 36) (argsL := [(.ref a_1041)]) (rest := [(.ref a_1022)]) (W := 1) rfl (hw _ (List.mem_of_getElem? (i := 10) rfl)) (hw _ (List.mem_of_getElem? (i := 11) rfl)) (hw _ (List.mem_of_getElem? (i := 9) rfl)) (hw _ (List.mem_of_getElem? (i := 12) rfl)) (by decide) (m_s1_1 l Z a0 hw a_1022 a_1041 d0 cs h_1062 n0 z_1073 O_1076 hSCS hcs f_1066 f_1067 f_1068 g_1028 A_1064 hd0 hdd0) d1_33 rfl pd4 rfl rfl (Nat.le_of_eq rfl) (by decide) (by decide) (by decide) (by decide) rfl ?_
  rintro _ h_1077 ⟨rfl, K_1078, o, f1, lo, f2, b0, A, e0⟩
  have f_1079 : Ary Z h_1077 t .char [(.int d0), (.int d1), (.int d2), (.int d3), (.int d4), (.int d5)] := f_1065.sm (Sm.keep K_1078 (ninS n_1027 nin0))
  have f_1080 : Exa Z h_1077 a_1022 "java/lang/String" := f_1066.keep K_1078
  have f_1084 : Ary Z h_1077 a_1041 .char [(.int d0)] := A_1064.sm (Sm.keep K_1078 (ninS n_1047.symm nin0))
  have t_1085 : t < h_1077.size := Nat.lt_of_lt_of_le t_1070 K_1078.1
  have t_1086 : a_1022 < h_1077.size := Nat.lt_of_lt_of_le t_1071 K_1078.1
  have t_1087 : a_1041 < h_1077.size := Nat.lt_of_lt_of_le t_1072 K_1078.1
  have z_1088 : n0 ≤ h_1077.size := Nat.le_trans z_1073 K_1078.1
  have b_1089 : h0.size ≤ h_1077.size := Nat.le_trans b_1074 K_1078.1
  have K_1090 : Keep h0 h_1077 [] := K_1075.trans K_1078 (allS (Or.inr g_1029) all0)
  have O_1091 : Old Z n0 h_1077 := O_1076.keep K_1078 (allS g_1028 all0)
  have f_1083 : Sta Z h_1077 "java/lang/String" "COMPACT_STRINGS" "Z" (.int cs) := Sta.ext O_1091.2 hSCS
  show (Go .n l ({ frames := 6, cells := 4, slots := 28, locals := 95 } : Room) Z (⟨"com/example/consentry/consentry/authorization/CodeChallengeMethodParsePinLaw", "make", "([CI)Ljava/lang/String;"⟩ : MethodName) method_3_code 2 (some (.object "java/lang/String")) n0 4 28 (fun v h => ∃ (s o : Addr) (W : List Int32), v = some (.ref s) ∧ Keep h0 h [] ∧ W.length ≤ 6 ∧ Exa Z h s "java/lang/String" ∧ Fld Z h s "java/lang/String" "value" "[B" (.ref o) ∧ Fld Z h s "java/lang/String" "coder" "B" (.int (0 : Int32)) ∧ Ary Z h o .byte (W.map Value.int))) h_1077 (0 + 1 + 1 + 2) (0 + 4 + 1 + 3) 36 #[.val (.ref t), .val (.int (1 : Int32))] [(.ref a_1022)]
  exact Go.retA d1_36 rfl rfl rfl ⟨a_1022, o, [b0], rfl, K_1090, by simp, f_1080, f1, f2, A⟩ (by decide) (by decide)
set_option maxRecDepth 65536 in
set_option maxHeartbeats 40000000 in
theorem m_mk2 (l : Launch) (Z : State) (a0 : Array Value) (hw : ∀ d ∈ tables_1, d.before a0 Z = true) (t : Addr) (d0 d1 d2 d3 d4 d5 : Int32) (cs : Int32) (h0 : Heap) (n0 : Nat) (z0 : n0 ≤ h0.size) (hO : Old Z n0 h0) (hSCS : Sta Z Z.heap "java/lang/String" "COMPACT_STRINGS" "Z" (.int cs)) (hcs : cs.toInt ≠ 0) (hT : Ary Z h0 t .char [.int d0, .int d1, .int d2, .int d3, .int d4, .int d5]) (hd0 : 0 ≤ d0.toInt ∧ d0.toInt < 65536) (hdd0 : d0.toInt < 256) (hd1 : 0 ≤ d1.toInt ∧ d1.toInt < 65536) (hdd1 : d1.toInt < 256) (hd2 : 0 ≤ d2.toInt ∧ d2.toInt < 65536) (hdd2 : d2.toInt < 256) (hd3 : 0 ≤ d3.toInt ∧ d3.toInt < 65536) (hdd3 : d3.toInt < 256) (hd4 : 0 ≤ d4.toInt ∧ d4.toInt < 65536) (hdd4 : d4.toInt < 256) (hd5 : 0 ≤ d5.toInt ∧ d5.toInt < 65536) (hdd5 : d5.toInt < 256) : Mt .n l Z (⟨"com/example/consentry/consentry/authorization/CodeChallengeMethodParsePinLaw", "make", "([CI)Ljava/lang/String;"⟩ : MethodName) method_3_code 2 (some (.object "java/lang/String")) ({ frames := 6, cells := 4, slots := 28, locals := 95 } : Room) n0 (fun v h => ∃ (s o : Addr) (W : List Int32), v = some (.ref s) ∧ Keep h0 h [] ∧ W.length ≤ 6 ∧ Exa Z h s "java/lang/String" ∧ Fld Z h s "java/lang/String" "value" "[B" (.ref o) ∧ Fld Z h s "java/lang/String" "coder" "B" (.int (0 : Int32)) ∧ Ary Z h o .byte (W.map Value.int)) h0 #[(.ref t), (.int (2 : Int32))] := by
  refine Mt.go (Ls := #[.val (.ref t), .val (.int (2 : Int32))]) (plainFor_of_name pn0) (fun m => by first | (simp [entryFrame, mkF, argsToLocals, Value.category]; done) | rfl) ?_
  show (Go .n l ({ frames := 6, cells := 4, slots := 28, locals := 95 } : Room) Z (⟨"com/example/consentry/consentry/authorization/CodeChallengeMethodParsePinLaw", "make", "([CI)Ljava/lang/String;"⟩ : MethodName) method_3_code 2 (some (.object "java/lang/String")) n0 4 28 (fun v h => ∃ (s o : Addr) (W : List Int32), v = some (.ref s) ∧ Keep h0 h [] ∧ W.length ≤ 6 ∧ Exa Z h s "java/lang/String" ∧ Fld Z h s "java/lang/String" "value" "[B" (.ref o) ∧ Fld Z h s "java/lang/String" "coder" "B" (.int (0 : Int32)) ∧ Ary Z h o .byte (W.map Value.int))) h0 0 0 0 #[.val (.ref t), .val (.int (2 : Int32))] []
  have hTCS : Sta Z h0 "java/lang/String" "COMPACT_STRINGS" "Z" (.int cs) := Sta.ext hO.2 hSCS
  have nd0 : nar .char d0 = d0 := own_nc hd0
  have nd1 : nar .char d1 = d1 := own_nc hd1
  refine Go.iloadN (pc' := 1) d1_0 rfl rfl ?_
  refine Go.ifc (pc1 := 15) (pc2 := 4) d1_1 (by decide) (by decide) rfl (fun (c_1092 : (2 : Int) ≠ 0) => ?_) (fun (c_1092 : (2 : Int) = 0) => ?_)
  rotate_left
  · exact absurd c_1092 (by decide)
  refine Go.iloadN (pc' := 16) d1_15 rfl rfl ?_
  refine Go.iconst (pc' := 17) (v := (1 : Int32)) d1_16 rfl rfl ?_
  refine Go.icmp (pc1 := 37) (pc2 := 20) d1_17 (by decide) (by decide) rfl (fun (c_1093 : (2 : Int) ≠ (1 : Int)) => ?_) (fun (c_1093 : (2 : Int) = (1 : Int)) => ?_)
  rotate_left
  · exact absurd c_1093 (by decide)
  refine Go.iloadN (pc' := 38) d1_37 rfl rfl ?_
  refine Go.iconst (pc' := 39) (v := (2 : Int32)) d1_38 rfl rfl ?_
  refine Go.icmp (pc1 := 65) (pc2 := 42) d1_39 (by decide) (by decide) rfl (fun (c_1094 : (2 : Int) ≠ (2 : Int)) => ?_) (fun (c_1094 : (2 : Int) = (2 : Int)) => ?_)
  · exact absurd c_1094 (by decide)
  refine Go.newO (pc' := 45) (hw _ (List.mem_of_getElem? (i := 7) rfl)) (hw _ (List.mem_of_getElem? (i := 8) rfl)) (hw _ (List.mem_of_getElem? (i := 9) rfl)) d1_42 (by decide) (by decide) rfl ?_
  intro h_1095 a_1096 q_1097 E_1098 A_1099 D_1100
  have n_1101 : t ≠ a_1096 := Nat.ne_of_lt (q_1097 ▸ hT.lt)
  have g_1102 : n0 ≤ a_1096 := q_1097 ▸ z0
  have g_1103 : h0.size ≤ a_1096 := q_1097 ▸ (Nat.le_refl _)
  have f_1105 : Ary Z h_1095 t .char [(.int d0), (.int d1), (.int d2), (.int d3), (.int d4), (.int d5)] := hT.sm (Sm.ext E_1098)
  have t_1106 : t < h_1095.size := Nat.lt_of_lt_of_le hT.lt E_1098.1
  have z_1107 : n0 ≤ h_1095.size := Nat.le_trans z0 E_1098.1
  have b_1108 : h0.size ≤ h_1095.size := Nat.le_trans (Nat.le_refl _) E_1098.1
  have K_1109 : Keep h0 h_1095 [] := (Keep.refl _ _).ext E_1098
  have O_1110 : Old Z n0 h_1095 := hO.ext E_1098
  have f_1104 : Sta Z h_1095 "java/lang/String" "COMPACT_STRINGS" "Z" (.int cs) := Sta.ext O_1110.2 hSCS
  have t_1111 : a_1096 < h_1095.size := A_1099.lt
  have f_1112 : Fld Z h_1095 a_1096 "java/lang/String" "value" "[B" .null := D_1100 (Or.inr (hw _ (List.mem_of_getElem? (i := 22) rfl))) (ty := (.array .byte)) (by decide)
  have f_1113 : Fld Z h_1095 a_1096 "java/lang/String" "coder" "B" (.int (0 : Int32)) := D_1100 (Or.inr (hw _ (List.mem_of_getElem? (i := 23) rfl))) (ty := .byte) (by decide)
  refine Go.dup (pc' := 46) d1_45 rfl rfl ?_
  refine Go.iconst (pc' := 47) (v := (2 : Int32)) d1_46 rfl rfl ?_
  refine Go.newA (pc' := 49) (k := 2) (ty := .char) (cap := 2) (hw _ (List.mem_of_getElem? (i := 0) rfl)) rfl rfl (by decide) (by decide) d1_47 (by decide) (by decide) rfl ?_
  intro h_1114 a_1115 q_1116 E_1117 A_1118
  have n_1120 : t ≠ a_1115 := Nat.ne_of_lt (q_1116 ▸ t_1106)
  have n_1121 : a_1096 ≠ a_1115 := Nat.ne_of_lt (q_1116 ▸ t_1111)
  have g_1122 : n0 ≤ a_1115 := q_1116 ▸ z_1107
  have g_1123 : h0.size ≤ a_1115 := q_1116 ▸ b_1108
  have f_1124 : Ary Z h_1114 t .char [(.int d0), (.int d1), (.int d2), (.int d3), (.int d4), (.int d5)] := f_1105.sm (Sm.ext E_1117)
  have f_1126 : Exa Z h_1114 a_1096 "java/lang/String" := A_1099.sm (Sm.ext E_1117)
  have f_1127 : Fld Z h_1114 a_1096 "java/lang/String" "value" "[B" .null := f_1112.sm (Sm.ext E_1117)
  have f_1128 : Fld Z h_1114 a_1096 "java/lang/String" "coder" "B" (.int (0 : Int32)) := f_1113.sm (Sm.ext E_1117)
  have t_1129 : t < h_1114.size := Nat.lt_of_lt_of_le t_1106 E_1117.1
  have t_1130 : a_1096 < h_1114.size := Nat.lt_of_lt_of_le t_1111 E_1117.1
  have z_1131 : n0 ≤ h_1114.size := Nat.le_trans z_1107 E_1117.1
  have b_1132 : h0.size ≤ h_1114.size := Nat.le_trans b_1108 E_1117.1
  have K_1133 : Keep h0 h_1114 [] := K_1109.ext E_1117
  have O_1134 : Old Z n0 h_1114 := O_1110.ext E_1117
  have f_1125 : Sta Z h_1114 "java/lang/String" "COMPACT_STRINGS" "Z" (.int cs) := Sta.ext O_1134.2 hSCS
  have t_1135 : a_1115 < h_1114.size := A_1118.lt
  change Ary Z h_1114 a_1115 .char [(.int (0 : Int32)), (.int (0 : Int32))] at A_1118
  refine Go.dup (pc' := 50) d1_49 rfl rfl ?_
  refine Go.iconst (pc' := 51) (v := (0 : Int32)) d1_50 rfl rfl ?_
  refine Go.aloadN (pc' := 52) d1_51 rfl rfl rfl ?_
  refine Go.iconst (pc' := 53) (v := (0 : Int32)) d1_52 rfl rfl ?_
  refine Go.ldC (pc' := 54) (k := 0) (v := (.int d0)) f_1124 rfl rfl d1_53 rfl ?_
  refine Go.stC (pc' := 55) (k := 0) A_1118 rfl (by show 0 < 2; decide) d1_54 g_1122 rfl ?_
  intro h_1136 W_1137 A_1138
  rw [nd0] at W_1137 A_1138
  have f_1139 : Ary Z h_1136 t .char [(.int d0), (.int d1), (.int d2), (.int d3), (.int d4), (.int d5)] := f_1124.sm (Sm.wr W_1137 n_1120)
  have f_1140 : Exa Z h_1136 a_1096 "java/lang/String" := f_1126.sm (Sm.wr W_1137 n_1121)
  have f_1141 : Fld Z h_1136 a_1096 "java/lang/String" "value" "[B" .null := f_1127.sm (Sm.wr W_1137 n_1121)
  have f_1142 : Fld Z h_1136 a_1096 "java/lang/String" "coder" "B" (.int (0 : Int32)) := f_1128.sm (Sm.wr W_1137 n_1121)
  have t_1144 : t < h_1136.size := Nat.lt_of_lt_of_le t_1129 (Nat.le_of_eq W_1137.size.symm)
  have t_1145 : a_1096 < h_1136.size := Nat.lt_of_lt_of_le t_1130 (Nat.le_of_eq W_1137.size.symm)
  have t_1146 : a_1115 < h_1136.size := Nat.lt_of_lt_of_le t_1135 (Nat.le_of_eq W_1137.size.symm)
  have z_1147 : n0 ≤ h_1136.size := Nat.le_trans z_1131 (Nat.le_of_eq W_1137.size.symm)
  have b_1148 : h0.size ≤ h_1136.size := Nat.le_trans b_1132 (Nat.le_of_eq W_1137.size.symm)
  have K_1149 : Keep h0 h_1136 [] := K_1133.wr W_1137 (Or.inr g_1123)
  have O_1150 : Old Z n0 h_1136 := O_1134.wr W_1137 g_1122
  have f_1143 : Sta Z h_1136 "java/lang/String" "COMPACT_STRINGS" "Z" (.int cs) := Sta.ext O_1150.2 hSCS
  change Ary Z h_1136 a_1115 .char [(.int d0), (.int (0 : Int32))] at A_1138
  refine Go.dup (pc' := 56) d1_55 rfl rfl ?_
  refine Go.iconst (pc' := 57) (v := (1 : Int32)) d1_56 rfl rfl ?_
  refine Go.aloadN (pc' := 58) d1_57 rfl rfl rfl ?_
  refine Go.iconst (pc' := 59) (v := (1 : Int32)) d1_58 rfl rfl ?_
  refine Go.ldC (pc' := 60) (k := 1) (v := (.int d1)) f_1139 rfl rfl d1_59 rfl ?_
  refine Go.stC (pc' := 61) (k := 1) A_1138 rfl (by show 1 < 2; decide) d1_60 g_1122 rfl ?_
  intro h_1151 W_1152 A_1153
  rw [nd1] at W_1152 A_1153
  have f_1154 : Ary Z h_1151 t .char [(.int d0), (.int d1), (.int d2), (.int d3), (.int d4), (.int d5)] := f_1139.sm (Sm.wr W_1152 n_1120)
  have f_1155 : Exa Z h_1151 a_1096 "java/lang/String" := f_1140.sm (Sm.wr W_1152 n_1121)
  have f_1156 : Fld Z h_1151 a_1096 "java/lang/String" "value" "[B" .null := f_1141.sm (Sm.wr W_1152 n_1121)
  have f_1157 : Fld Z h_1151 a_1096 "java/lang/String" "coder" "B" (.int (0 : Int32)) := f_1142.sm (Sm.wr W_1152 n_1121)
  have t_1159 : t < h_1151.size := Nat.lt_of_lt_of_le t_1144 (Nat.le_of_eq W_1152.size.symm)
  have t_1160 : a_1096 < h_1151.size := Nat.lt_of_lt_of_le t_1145 (Nat.le_of_eq W_1152.size.symm)
  have t_1161 : a_1115 < h_1151.size := Nat.lt_of_lt_of_le t_1146 (Nat.le_of_eq W_1152.size.symm)
  have z_1162 : n0 ≤ h_1151.size := Nat.le_trans z_1147 (Nat.le_of_eq W_1152.size.symm)
  have b_1163 : h0.size ≤ h_1151.size := Nat.le_trans b_1148 (Nat.le_of_eq W_1152.size.symm)
  have K_1164 : Keep h0 h_1151 [] := K_1149.wr W_1152 (Or.inr g_1123)
  have O_1165 : Old Z n0 h_1151 := O_1150.wr W_1152 g_1122
  have f_1158 : Sta Z h_1151 "java/lang/String" "COMPACT_STRINGS" "Z" (.int cs) := Sta.ext O_1165.2 hSCS
  change Ary Z h_1151 a_1115 .char [(.int d0), (.int d1)] at A_1153
  refine Go.callN (pc' := 64) (argsL := [(.ref a_1115)]) (rest := [(.ref a_1096)]) (W := 1) rfl (hw _ (List.mem_of_getElem? (i := 10) rfl)) (hw _ (List.mem_of_getElem? (i := 11) rfl)) (hw _ (List.mem_of_getElem? (i := 9) rfl)) (hw _ (List.mem_of_getElem? (i := 12) rfl)) (by decide) (m_s1_2 l Z a0 hw a_1096 a_1115 d0 d1 cs h_1151 n0 z_1162 O_1165 hSCS hcs f_1155 f_1156 f_1157 g_1102 A_1153 hd0 hd1 hdd0 hdd1) d1_61 rfl pd4 rfl rfl (Nat.le_of_eq rfl) (by decide) (by decide) (by decide) (by decide) rfl ?_
  rintro _ h_1166 ⟨rfl, K_1167, o, f1, lo, f2, b0, b1, A, e0, e1⟩
  have f_1168 : Ary Z h_1166 t .char [(.int d0), (.int d1), (.int d2), (.int d3), (.int d4), (.int d5)] := f_1154.sm (Sm.keep K_1167 (ninS n_1101 nin0))
  have f_1169 : Exa Z h_1166 a_1096 "java/lang/String" := f_1155.keep K_1167
  have f_1173 : Ary Z h_1166 a_1115 .char [(.int d0), (.int d1)] := A_1153.sm (Sm.keep K_1167 (ninS n_1121.symm nin0))
  have t_1174 : t < h_1166.size := Nat.lt_of_lt_of_le t_1159 K_1167.1
  have t_1175 : a_1096 < h_1166.size := Nat.lt_of_lt_of_le t_1160 K_1167.1
  have t_1176 : a_1115 < h_1166.size := Nat.lt_of_lt_of_le t_1161 K_1167.1
  have z_1177 : n0 ≤ h_1166.size := Nat.le_trans z_1162 K_1167.1
  have b_1178 : h0.size ≤ h_1166.size := Nat.le_trans b_1163 K_1167.1
  have K_1179 : Keep h0 h_1166 [] := K_1164.trans K_1167 (allS (Or.inr g_1103) all0)
  have O_1180 : Old Z n0 h_1166 := O_1165.keep K_1167 (allS g_1102 all0)
  have f_1172 : Sta Z h_1166 "java/lang/String" "COMPACT_STRINGS" "Z" (.int cs) := Sta.ext O_1180.2 hSCS
  show (Go .n l ({ frames := 6, cells := 4, slots := 28, locals := 95 } : Room) Z (⟨"com/example/consentry/consentry/authorization/CodeChallengeMethodParsePinLaw", "make", "([CI)Ljava/lang/String;"⟩ : MethodName) method_3_code 2 (some (.object "java/lang/String")) n0 4 28 (fun v h => ∃ (s o : Addr) (W : List Int32), v = some (.ref s) ∧ Keep h0 h [] ∧ W.length ≤ 6 ∧ Exa Z h s "java/lang/String" ∧ Fld Z h s "java/lang/String" "value" "[B" (.ref o) ∧ Fld Z h s "java/lang/String" "coder" "B" (.int (0 : Int32)) ∧ Ary Z h o .byte (W.map Value.int))) h_1166 (0 + 1 + 1 + 2) (0 + 4 + 2 + 6) 64 #[.val (.ref t), .val (.int (2 : Int32))] [(.ref a_1096)]
  exact Go.retA d1_64 rfl rfl rfl ⟨a_1096, o, [b0, b1], rfl, K_1179, by simp, f_1169, f1, f2, A⟩ (by decide) (by decide)
set_option maxRecDepth 65536 in
set_option maxHeartbeats 40000000 in
theorem m_mk3 (l : Launch) (Z : State) (a0 : Array Value) (hw : ∀ d ∈ tables_1, d.before a0 Z = true) (t : Addr) (d0 d1 d2 d3 d4 d5 : Int32) (cs : Int32) (h0 : Heap) (n0 : Nat) (z0 : n0 ≤ h0.size) (hO : Old Z n0 h0) (hSCS : Sta Z Z.heap "java/lang/String" "COMPACT_STRINGS" "Z" (.int cs)) (hcs : cs.toInt ≠ 0) (hT : Ary Z h0 t .char [.int d0, .int d1, .int d2, .int d3, .int d4, .int d5]) (hd0 : 0 ≤ d0.toInt ∧ d0.toInt < 65536) (hdd0 : d0.toInt < 256) (hd1 : 0 ≤ d1.toInt ∧ d1.toInt < 65536) (hdd1 : d1.toInt < 256) (hd2 : 0 ≤ d2.toInt ∧ d2.toInt < 65536) (hdd2 : d2.toInt < 256) (hd3 : 0 ≤ d3.toInt ∧ d3.toInt < 65536) (hdd3 : d3.toInt < 256) (hd4 : 0 ≤ d4.toInt ∧ d4.toInt < 65536) (hdd4 : d4.toInt < 256) (hd5 : 0 ≤ d5.toInt ∧ d5.toInt < 65536) (hdd5 : d5.toInt < 256) : Mt .n l Z (⟨"com/example/consentry/consentry/authorization/CodeChallengeMethodParsePinLaw", "make", "([CI)Ljava/lang/String;"⟩ : MethodName) method_3_code 2 (some (.object "java/lang/String")) ({ frames := 6, cells := 4, slots := 28, locals := 95 } : Room) n0 (fun v h => ∃ (s o : Addr) (W : List Int32), v = some (.ref s) ∧ Keep h0 h [] ∧ W.length ≤ 6 ∧ Exa Z h s "java/lang/String" ∧ Fld Z h s "java/lang/String" "value" "[B" (.ref o) ∧ Fld Z h s "java/lang/String" "coder" "B" (.int (0 : Int32)) ∧ Ary Z h o .byte (W.map Value.int)) h0 #[(.ref t), (.int (3 : Int32))] := by
  refine Mt.go (Ls := #[.val (.ref t), .val (.int (3 : Int32))]) (plainFor_of_name pn0) (fun m => by first | (simp [entryFrame, mkF, argsToLocals, Value.category]; done) | rfl) ?_
  show (Go .n l ({ frames := 6, cells := 4, slots := 28, locals := 95 } : Room) Z (⟨"com/example/consentry/consentry/authorization/CodeChallengeMethodParsePinLaw", "make", "([CI)Ljava/lang/String;"⟩ : MethodName) method_3_code 2 (some (.object "java/lang/String")) n0 4 28 (fun v h => ∃ (s o : Addr) (W : List Int32), v = some (.ref s) ∧ Keep h0 h [] ∧ W.length ≤ 6 ∧ Exa Z h s "java/lang/String" ∧ Fld Z h s "java/lang/String" "value" "[B" (.ref o) ∧ Fld Z h s "java/lang/String" "coder" "B" (.int (0 : Int32)) ∧ Ary Z h o .byte (W.map Value.int))) h0 0 0 0 #[.val (.ref t), .val (.int (3 : Int32))] []
  have hTCS : Sta Z h0 "java/lang/String" "COMPACT_STRINGS" "Z" (.int cs) := Sta.ext hO.2 hSCS
  have nd0 : nar .char d0 = d0 := own_nc hd0
  have nd1 : nar .char d1 = d1 := own_nc hd1
  have nd2 : nar .char d2 = d2 := own_nc hd2
  refine Go.iloadN (pc' := 1) d1_0 rfl rfl ?_
  refine Go.ifc (pc1 := 15) (pc2 := 4) d1_1 (by decide) (by decide) rfl (fun (c_1181 : (3 : Int) ≠ 0) => ?_) (fun (c_1181 : (3 : Int) = 0) => ?_)
  rotate_left
  · exact absurd c_1181 (by decide)
  refine Go.iloadN (pc' := 16) d1_15 rfl rfl ?_
  refine Go.iconst (pc' := 17) (v := (1 : Int32)) d1_16 rfl rfl ?_
  refine Go.icmp (pc1 := 37) (pc2 := 20) d1_17 (by decide) (by decide) rfl (fun (c_1182 : (3 : Int) ≠ (1 : Int)) => ?_) (fun (c_1182 : (3 : Int) = (1 : Int)) => ?_)
  rotate_left
  · exact absurd c_1182 (by decide)
  refine Go.iloadN (pc' := 38) d1_37 rfl rfl ?_
  refine Go.iconst (pc' := 39) (v := (2 : Int32)) d1_38 rfl rfl ?_
  refine Go.icmp (pc1 := 65) (pc2 := 42) d1_39 (by decide) (by decide) rfl (fun (c_1183 : (3 : Int) ≠ (2 : Int)) => ?_) (fun (c_1183 : (3 : Int) = (2 : Int)) => ?_)
  rotate_left
  · exact absurd c_1183 (by decide)
  refine Go.iloadN (pc' := 66) d1_65 rfl rfl ?_
  refine Go.iconst (pc' := 67) (v := (3 : Int32)) d1_66 rfl rfl ?_
  refine Go.icmp (pc1 := 99) (pc2 := 70) d1_67 (by decide) (by decide) rfl (fun (c_1184 : (3 : Int) ≠ (3 : Int)) => ?_) (fun (c_1184 : (3 : Int) = (3 : Int)) => ?_)
  · exact absurd c_1184 (by decide)
  refine Go.newO (pc' := 73) (hw _ (List.mem_of_getElem? (i := 7) rfl)) (hw _ (List.mem_of_getElem? (i := 8) rfl)) (hw _ (List.mem_of_getElem? (i := 9) rfl)) d1_70 (by decide) (by decide) rfl ?_
  intro h_1185 a_1186 q_1187 E_1188 A_1189 D_1190
  have n_1191 : t ≠ a_1186 := Nat.ne_of_lt (q_1187 ▸ hT.lt)
  have g_1192 : n0 ≤ a_1186 := q_1187 ▸ z0
  have g_1193 : h0.size ≤ a_1186 := q_1187 ▸ (Nat.le_refl _)
  have f_1195 : Ary Z h_1185 t .char [(.int d0), (.int d1), (.int d2), (.int d3), (.int d4), (.int d5)] := hT.sm (Sm.ext E_1188)
  have t_1196 : t < h_1185.size := Nat.lt_of_lt_of_le hT.lt E_1188.1
  have z_1197 : n0 ≤ h_1185.size := Nat.le_trans z0 E_1188.1
  have b_1198 : h0.size ≤ h_1185.size := Nat.le_trans (Nat.le_refl _) E_1188.1
  have K_1199 : Keep h0 h_1185 [] := (Keep.refl _ _).ext E_1188
  have O_1200 : Old Z n0 h_1185 := hO.ext E_1188
  have f_1194 : Sta Z h_1185 "java/lang/String" "COMPACT_STRINGS" "Z" (.int cs) := Sta.ext O_1200.2 hSCS
  have t_1201 : a_1186 < h_1185.size := A_1189.lt
  have f_1202 : Fld Z h_1185 a_1186 "java/lang/String" "value" "[B" .null := D_1190 (Or.inr (hw _ (List.mem_of_getElem? (i := 22) rfl))) (ty := (.array .byte)) (by decide)
  have f_1203 : Fld Z h_1185 a_1186 "java/lang/String" "coder" "B" (.int (0 : Int32)) := D_1190 (Or.inr (hw _ (List.mem_of_getElem? (i := 23) rfl))) (ty := .byte) (by decide)
  refine Go.dup (pc' := 74) d1_73 rfl rfl ?_
  refine Go.iconst (pc' := 75) (v := (3 : Int32)) d1_74 rfl rfl ?_
  refine Go.newA (pc' := 77) (k := 3) (ty := .char) (cap := 3) (hw _ (List.mem_of_getElem? (i := 0) rfl)) rfl rfl (by decide) (by decide) d1_75 (by decide) (by decide) rfl ?_
  intro h_1204 a_1205 q_1206 E_1207 A_1208
  have n_1210 : t ≠ a_1205 := Nat.ne_of_lt (q_1206 ▸ t_1196)
  have n_1211 : a_1186 ≠ a_1205 := Nat.ne_of_lt (q_1206 ▸ t_1201)
  have g_1212 : n0 ≤ a_1205 := q_1206 ▸ z_1197
  have g_1213 : h0.size ≤ a_1205 := q_1206 ▸ b_1198
  have f_1214 : Ary Z h_1204 t .char [(.int d0), (.int d1), (.int d2), (.int d3), (.int d4), (.int d5)] := f_1195.sm (Sm.ext E_1207)
  have f_1216 : Exa Z h_1204 a_1186 "java/lang/String" := A_1189.sm (Sm.ext E_1207)
  have f_1217 : Fld Z h_1204 a_1186 "java/lang/String" "value" "[B" .null := f_1202.sm (Sm.ext E_1207)
  have f_1218 : Fld Z h_1204 a_1186 "java/lang/String" "coder" "B" (.int (0 : Int32)) := f_1203.sm (Sm.ext E_1207)
  have t_1219 : t < h_1204.size := Nat.lt_of_lt_of_le t_1196 E_1207.1
  have t_1220 : a_1186 < h_1204.size := Nat.lt_of_lt_of_le t_1201 E_1207.1
  have z_1221 : n0 ≤ h_1204.size := Nat.le_trans z_1197 E_1207.1
  have b_1222 : h0.size ≤ h_1204.size := Nat.le_trans b_1198 E_1207.1
  have K_1223 : Keep h0 h_1204 [] := K_1199.ext E_1207
  have O_1224 : Old Z n0 h_1204 := O_1200.ext E_1207
  have f_1215 : Sta Z h_1204 "java/lang/String" "COMPACT_STRINGS" "Z" (.int cs) := Sta.ext O_1224.2 hSCS
  have t_1225 : a_1205 < h_1204.size := A_1208.lt
  change Ary Z h_1204 a_1205 .char [(.int (0 : Int32)), (.int (0 : Int32)), (.int (0 : Int32))] at A_1208
  refine Go.dup (pc' := 78) d1_77 rfl rfl ?_
  refine Go.iconst (pc' := 79) (v := (0 : Int32)) d1_78 rfl rfl ?_
  refine Go.aloadN (pc' := 80) d1_79 rfl rfl rfl ?_
  refine Go.iconst (pc' := 81) (v := (0 : Int32)) d1_80 rfl rfl ?_
  refine Go.ldC (pc' := 82) (k := 0) (v := (.int d0)) f_1214 rfl rfl d1_81 rfl ?_
  refine Go.stC (pc' := 83) (k := 0) A_1208 rfl (by show 0 < 3; decide) d1_82 g_1212 rfl ?_
  intro h_1226 W_1227 A_1228
  rw [nd0] at W_1227 A_1228
  have f_1229 : Ary Z h_1226 t .char [(.int d0), (.int d1), (.int d2), (.int d3), (.int d4), (.int d5)] := f_1214.sm (Sm.wr W_1227 n_1210)
  have f_1230 : Exa Z h_1226 a_1186 "java/lang/String" := f_1216.sm (Sm.wr W_1227 n_1211)
  have f_1231 : Fld Z h_1226 a_1186 "java/lang/String" "value" "[B" .null := f_1217.sm (Sm.wr W_1227 n_1211)
  have f_1232 : Fld Z h_1226 a_1186 "java/lang/String" "coder" "B" (.int (0 : Int32)) := f_1218.sm (Sm.wr W_1227 n_1211)
  have t_1234 : t < h_1226.size := Nat.lt_of_lt_of_le t_1219 (Nat.le_of_eq W_1227.size.symm)
  have t_1235 : a_1186 < h_1226.size := Nat.lt_of_lt_of_le t_1220 (Nat.le_of_eq W_1227.size.symm)
  have t_1236 : a_1205 < h_1226.size := Nat.lt_of_lt_of_le t_1225 (Nat.le_of_eq W_1227.size.symm)
  have z_1237 : n0 ≤ h_1226.size := Nat.le_trans z_1221 (Nat.le_of_eq W_1227.size.symm)
  have b_1238 : h0.size ≤ h_1226.size := Nat.le_trans b_1222 (Nat.le_of_eq W_1227.size.symm)
  have K_1239 : Keep h0 h_1226 [] := K_1223.wr W_1227 (Or.inr g_1213)
  have O_1240 : Old Z n0 h_1226 := O_1224.wr W_1227 g_1212
  have f_1233 : Sta Z h_1226 "java/lang/String" "COMPACT_STRINGS" "Z" (.int cs) := Sta.ext O_1240.2 hSCS
  change Ary Z h_1226 a_1205 .char [(.int d0), (.int (0 : Int32)), (.int (0 : Int32))] at A_1228
  refine Go.dup (pc' := 84) d1_83 rfl rfl ?_
  refine Go.iconst (pc' := 85) (v := (1 : Int32)) d1_84 rfl rfl ?_
  refine Go.aloadN (pc' := 86) d1_85 rfl rfl rfl ?_
  refine Go.iconst (pc' := 87) (v := (1 : Int32)) d1_86 rfl rfl ?_
  refine Go.ldC (pc' := 88) (k := 1) (v := (.int d1)) f_1229 rfl rfl d1_87 rfl ?_
  refine Go.stC (pc' := 89) (k := 1) A_1228 rfl (by show 1 < 3; decide) d1_88 g_1212 rfl ?_
  intro h_1241 W_1242 A_1243
  rw [nd1] at W_1242 A_1243
  have f_1244 : Ary Z h_1241 t .char [(.int d0), (.int d1), (.int d2), (.int d3), (.int d4), (.int d5)] := f_1229.sm (Sm.wr W_1242 n_1210)
  have f_1245 : Exa Z h_1241 a_1186 "java/lang/String" := f_1230.sm (Sm.wr W_1242 n_1211)
  have f_1246 : Fld Z h_1241 a_1186 "java/lang/String" "value" "[B" .null := f_1231.sm (Sm.wr W_1242 n_1211)
  have f_1247 : Fld Z h_1241 a_1186 "java/lang/String" "coder" "B" (.int (0 : Int32)) := f_1232.sm (Sm.wr W_1242 n_1211)
  have t_1249 : t < h_1241.size := Nat.lt_of_lt_of_le t_1234 (Nat.le_of_eq W_1242.size.symm)
  have t_1250 : a_1186 < h_1241.size := Nat.lt_of_lt_of_le t_1235 (Nat.le_of_eq W_1242.size.symm)
  have t_1251 : a_1205 < h_1241.size := Nat.lt_of_lt_of_le t_1236 (Nat.le_of_eq W_1242.size.symm)
  have z_1252 : n0 ≤ h_1241.size := Nat.le_trans z_1237 (Nat.le_of_eq W_1242.size.symm)
  have b_1253 : h0.size ≤ h_1241.size := Nat.le_trans b_1238 (Nat.le_of_eq W_1242.size.symm)
  have K_1254 : Keep h0 h_1241 [] := K_1239.wr W_1242 (Or.inr g_1213)
  have O_1255 : Old Z n0 h_1241 := O_1240.wr W_1242 g_1212
  have f_1248 : Sta Z h_1241 "java/lang/String" "COMPACT_STRINGS" "Z" (.int cs) := Sta.ext O_1255.2 hSCS
  change Ary Z h_1241 a_1205 .char [(.int d0), (.int d1), (.int (0 : Int32))] at A_1243
  refine Go.dup (pc' := 90) d1_89 rfl rfl ?_
  refine Go.iconst (pc' := 91) (v := (2 : Int32)) d1_90 rfl rfl ?_
  refine Go.aloadN (pc' := 92) d1_91 rfl rfl rfl ?_
  refine Go.iconst (pc' := 93) (v := (2 : Int32)) d1_92 rfl rfl ?_
  refine Go.ldC (pc' := 94) (k := 2) (v := (.int d2)) f_1244 rfl rfl d1_93 rfl ?_
  refine Go.stC (pc' := 95) (k := 2) A_1243 rfl (by show 2 < 3; decide) d1_94 g_1212 rfl ?_
  intro h_1256 W_1257 A_1258
  rw [nd2] at W_1257 A_1258
  have f_1259 : Ary Z h_1256 t .char [(.int d0), (.int d1), (.int d2), (.int d3), (.int d4), (.int d5)] := f_1244.sm (Sm.wr W_1257 n_1210)
  have f_1260 : Exa Z h_1256 a_1186 "java/lang/String" := f_1245.sm (Sm.wr W_1257 n_1211)
  have f_1261 : Fld Z h_1256 a_1186 "java/lang/String" "value" "[B" .null := f_1246.sm (Sm.wr W_1257 n_1211)
  have f_1262 : Fld Z h_1256 a_1186 "java/lang/String" "coder" "B" (.int (0 : Int32)) := f_1247.sm (Sm.wr W_1257 n_1211)
  have t_1264 : t < h_1256.size := Nat.lt_of_lt_of_le t_1249 (Nat.le_of_eq W_1257.size.symm)
  have t_1265 : a_1186 < h_1256.size := Nat.lt_of_lt_of_le t_1250 (Nat.le_of_eq W_1257.size.symm)
  have t_1266 : a_1205 < h_1256.size := Nat.lt_of_lt_of_le t_1251 (Nat.le_of_eq W_1257.size.symm)
  have z_1267 : n0 ≤ h_1256.size := Nat.le_trans z_1252 (Nat.le_of_eq W_1257.size.symm)
  have b_1268 : h0.size ≤ h_1256.size := Nat.le_trans b_1253 (Nat.le_of_eq W_1257.size.symm)
  have K_1269 : Keep h0 h_1256 [] := K_1254.wr W_1257 (Or.inr g_1213)
  have O_1270 : Old Z n0 h_1256 := O_1255.wr W_1257 g_1212
  have f_1263 : Sta Z h_1256 "java/lang/String" "COMPACT_STRINGS" "Z" (.int cs) := Sta.ext O_1270.2 hSCS
  change Ary Z h_1256 a_1205 .char [(.int d0), (.int d1), (.int d2)] at A_1258
  refine Go.callN (pc' := 98) (argsL := [(.ref a_1205)]) (rest := [(.ref a_1186)]) (W := 1) rfl (hw _ (List.mem_of_getElem? (i := 10) rfl)) (hw _ (List.mem_of_getElem? (i := 11) rfl)) (hw _ (List.mem_of_getElem? (i := 9) rfl)) (hw _ (List.mem_of_getElem? (i := 12) rfl)) (by decide) (m_s1_3 l Z a0 hw a_1186 a_1205 d0 d1 d2 cs h_1256 n0 z_1267 O_1270 hSCS hcs f_1260 f_1261 f_1262 g_1192 A_1258 hd0 hd1 hd2 hdd0 hdd1 hdd2) d1_95 rfl pd4 rfl rfl (Nat.le_of_eq rfl) (by decide) (by decide) (by decide) (by decide) rfl ?_
  rintro _ h_1271 ⟨rfl, K_1272, o, f1, lo, f2, b0, b1, b2, A, e0, e1, e2⟩
  have f_1273 : Ary Z h_1271 t .char [(.int d0), (.int d1), (.int d2), (.int d3), (.int d4), (.int d5)] := f_1259.sm (Sm.keep K_1272 (ninS n_1191 nin0))
  have f_1274 : Exa Z h_1271 a_1186 "java/lang/String" := f_1260.keep K_1272
  have f_1278 : Ary Z h_1271 a_1205 .char [(.int d0), (.int d1), (.int d2)] := A_1258.sm (Sm.keep K_1272 (ninS n_1211.symm nin0))
  have t_1279 : t < h_1271.size := Nat.lt_of_lt_of_le t_1264 K_1272.1
  have t_1280 : a_1186 < h_1271.size := Nat.lt_of_lt_of_le t_1265 K_1272.1
  have t_1281 : a_1205 < h_1271.size := Nat.lt_of_lt_of_le t_1266 K_1272.1
  have z_1282 : n0 ≤ h_1271.size := Nat.le_trans z_1267 K_1272.1
  have b_1283 : h0.size ≤ h_1271.size := Nat.le_trans b_1268 K_1272.1
  have K_1284 : Keep h0 h_1271 [] := K_1269.trans K_1272 (allS (Or.inr g_1193) all0)
  have O_1285 : Old Z n0 h_1271 := O_1270.keep K_1272 (allS g_1192 all0)
  have f_1277 : Sta Z h_1271 "java/lang/String" "COMPACT_STRINGS" "Z" (.int cs) := Sta.ext O_1285.2 hSCS
  show (Go .n l ({ frames := 6, cells := 4, slots := 28, locals := 95 } : Room) Z (⟨"com/example/consentry/consentry/authorization/CodeChallengeMethodParsePinLaw", "make", "([CI)Ljava/lang/String;"⟩ : MethodName) method_3_code 2 (some (.object "java/lang/String")) n0 4 28 (fun v h => ∃ (s o : Addr) (W : List Int32), v = some (.ref s) ∧ Keep h0 h [] ∧ W.length ≤ 6 ∧ Exa Z h s "java/lang/String" ∧ Fld Z h s "java/lang/String" "value" "[B" (.ref o) ∧ Fld Z h s "java/lang/String" "coder" "B" (.int (0 : Int32)) ∧ Ary Z h o .byte (W.map Value.int))) h_1271 (0 + 1 + 1 + 2) (0 + 4 + 3 + 9) 98 #[.val (.ref t), .val (.int (3 : Int32))] [(.ref a_1186)]
  exact Go.retA d1_98 rfl rfl rfl ⟨a_1186, o, [b0, b1, b2], rfl, K_1284, by simp, f_1274, f1, f2, A⟩ (by decide) (by decide)
set_option maxRecDepth 65536 in
set_option maxHeartbeats 40000000 in
theorem m_mk4 (l : Launch) (Z : State) (a0 : Array Value) (hw : ∀ d ∈ tables_1, d.before a0 Z = true) (t : Addr) (d0 d1 d2 d3 d4 d5 : Int32) (cs : Int32) (h0 : Heap) (n0 : Nat) (z0 : n0 ≤ h0.size) (hO : Old Z n0 h0) (hSCS : Sta Z Z.heap "java/lang/String" "COMPACT_STRINGS" "Z" (.int cs)) (hcs : cs.toInt ≠ 0) (hT : Ary Z h0 t .char [.int d0, .int d1, .int d2, .int d3, .int d4, .int d5]) (hd0 : 0 ≤ d0.toInt ∧ d0.toInt < 65536) (hdd0 : d0.toInt < 256) (hd1 : 0 ≤ d1.toInt ∧ d1.toInt < 65536) (hdd1 : d1.toInt < 256) (hd2 : 0 ≤ d2.toInt ∧ d2.toInt < 65536) (hdd2 : d2.toInt < 256) (hd3 : 0 ≤ d3.toInt ∧ d3.toInt < 65536) (hdd3 : d3.toInt < 256) (hd4 : 0 ≤ d4.toInt ∧ d4.toInt < 65536) (hdd4 : d4.toInt < 256) (hd5 : 0 ≤ d5.toInt ∧ d5.toInt < 65536) (hdd5 : d5.toInt < 256) : Mt .n l Z (⟨"com/example/consentry/consentry/authorization/CodeChallengeMethodParsePinLaw", "make", "([CI)Ljava/lang/String;"⟩ : MethodName) method_3_code 2 (some (.object "java/lang/String")) ({ frames := 6, cells := 4, slots := 28, locals := 95 } : Room) n0 (fun v h => ∃ (s o : Addr) (W : List Int32), v = some (.ref s) ∧ Keep h0 h [] ∧ W.length ≤ 6 ∧ Exa Z h s "java/lang/String" ∧ Fld Z h s "java/lang/String" "value" "[B" (.ref o) ∧ Fld Z h s "java/lang/String" "coder" "B" (.int (0 : Int32)) ∧ Ary Z h o .byte (W.map Value.int)) h0 #[(.ref t), (.int (4 : Int32))] := by
  refine Mt.go (Ls := #[.val (.ref t), .val (.int (4 : Int32))]) (plainFor_of_name pn0) (fun m => by first | (simp [entryFrame, mkF, argsToLocals, Value.category]; done) | rfl) ?_
  show (Go .n l ({ frames := 6, cells := 4, slots := 28, locals := 95 } : Room) Z (⟨"com/example/consentry/consentry/authorization/CodeChallengeMethodParsePinLaw", "make", "([CI)Ljava/lang/String;"⟩ : MethodName) method_3_code 2 (some (.object "java/lang/String")) n0 4 28 (fun v h => ∃ (s o : Addr) (W : List Int32), v = some (.ref s) ∧ Keep h0 h [] ∧ W.length ≤ 6 ∧ Exa Z h s "java/lang/String" ∧ Fld Z h s "java/lang/String" "value" "[B" (.ref o) ∧ Fld Z h s "java/lang/String" "coder" "B" (.int (0 : Int32)) ∧ Ary Z h o .byte (W.map Value.int))) h0 0 0 0 #[.val (.ref t), .val (.int (4 : Int32))] []
  have hTCS : Sta Z h0 "java/lang/String" "COMPACT_STRINGS" "Z" (.int cs) := Sta.ext hO.2 hSCS
  have nd0 : nar .char d0 = d0 := own_nc hd0
  have nd1 : nar .char d1 = d1 := own_nc hd1
  have nd2 : nar .char d2 = d2 := own_nc hd2
  have nd3 : nar .char d3 = d3 := own_nc hd3
  refine Go.iloadN (pc' := 1) d1_0 rfl rfl ?_
  refine Go.ifc (pc1 := 15) (pc2 := 4) d1_1 (by decide) (by decide) rfl (fun (c_1286 : (4 : Int) ≠ 0) => ?_) (fun (c_1286 : (4 : Int) = 0) => ?_)
  rotate_left
  · exact absurd c_1286 (by decide)
  refine Go.iloadN (pc' := 16) d1_15 rfl rfl ?_
  refine Go.iconst (pc' := 17) (v := (1 : Int32)) d1_16 rfl rfl ?_
  refine Go.icmp (pc1 := 37) (pc2 := 20) d1_17 (by decide) (by decide) rfl (fun (c_1287 : (4 : Int) ≠ (1 : Int)) => ?_) (fun (c_1287 : (4 : Int) = (1 : Int)) => ?_)
  rotate_left
  · exact absurd c_1287 (by decide)
  refine Go.iloadN (pc' := 38) d1_37 rfl rfl ?_
  refine Go.iconst (pc' := 39) (v := (2 : Int32)) d1_38 rfl rfl ?_
  refine Go.icmp (pc1 := 65) (pc2 := 42) d1_39 (by decide) (by decide) rfl (fun (c_1288 : (4 : Int) ≠ (2 : Int)) => ?_) (fun (c_1288 : (4 : Int) = (2 : Int)) => ?_)
  rotate_left
  · exact absurd c_1288 (by decide)
  refine Go.iloadN (pc' := 66) d1_65 rfl rfl ?_
  refine Go.iconst (pc' := 67) (v := (3 : Int32)) d1_66 rfl rfl ?_
  refine Go.icmp (pc1 := 99) (pc2 := 70) d1_67 (by decide) (by decide) rfl (fun (c_1289 : (4 : Int) ≠ (3 : Int)) => ?_) (fun (c_1289 : (4 : Int) = (3 : Int)) => ?_)
  rotate_left
  · exact absurd c_1289 (by decide)
  refine Go.iloadN (pc' := 100) d1_99 rfl rfl ?_
  refine Go.iconst (pc' := 101) (v := (4 : Int32)) d1_100 rfl rfl ?_
  refine Go.icmp (pc1 := 139) (pc2 := 104) d1_101 (by decide) (by decide) rfl (fun (c_1290 : (4 : Int) ≠ (4 : Int)) => ?_) (fun (c_1290 : (4 : Int) = (4 : Int)) => ?_)
  · exact absurd c_1290 (by decide)
  refine Go.newO (pc' := 107) (hw _ (List.mem_of_getElem? (i := 7) rfl)) (hw _ (List.mem_of_getElem? (i := 8) rfl)) (hw _ (List.mem_of_getElem? (i := 9) rfl)) d1_104 (by decide) (by decide) rfl ?_
  intro h_1291 a_1292 q_1293 E_1294 A_1295 D_1296
  have n_1297 : t ≠ a_1292 := Nat.ne_of_lt (q_1293 ▸ hT.lt)
  have g_1298 : n0 ≤ a_1292 := q_1293 ▸ z0
  have g_1299 : h0.size ≤ a_1292 := q_1293 ▸ (Nat.le_refl _)
  have f_1301 : Ary Z h_1291 t .char [(.int d0), (.int d1), (.int d2), (.int d3), (.int d4), (.int d5)] := hT.sm (Sm.ext E_1294)
  have t_1302 : t < h_1291.size := Nat.lt_of_lt_of_le hT.lt E_1294.1
  have z_1303 : n0 ≤ h_1291.size := Nat.le_trans z0 E_1294.1
  have b_1304 : h0.size ≤ h_1291.size := Nat.le_trans (Nat.le_refl _) E_1294.1
  have K_1305 : Keep h0 h_1291 [] := (Keep.refl _ _).ext E_1294
  have O_1306 : Old Z n0 h_1291 := hO.ext E_1294
  have f_1300 : Sta Z h_1291 "java/lang/String" "COMPACT_STRINGS" "Z" (.int cs) := Sta.ext O_1306.2 hSCS
  have t_1307 : a_1292 < h_1291.size := A_1295.lt
  have f_1308 : Fld Z h_1291 a_1292 "java/lang/String" "value" "[B" .null := D_1296 (Or.inr (hw _ (List.mem_of_getElem? (i := 22) rfl))) (ty := (.array .byte)) (by decide)
  have f_1309 : Fld Z h_1291 a_1292 "java/lang/String" "coder" "B" (.int (0 : Int32)) := D_1296 (Or.inr (hw _ (List.mem_of_getElem? (i := 23) rfl))) (ty := .byte) (by decide)
  refine Go.dup (pc' := 108) d1_107 rfl rfl ?_
  refine Go.iconst (pc' := 109) (v := (4 : Int32)) d1_108 rfl rfl ?_
  refine Go.newA (pc' := 111) (k := 4) (ty := .char) (cap := 4) (hw _ (List.mem_of_getElem? (i := 0) rfl)) rfl rfl (by decide) (by decide) d1_109 (by decide) (by decide) rfl ?_
  intro h_1310 a_1311 q_1312 E_1313 A_1314
  have n_1316 : t ≠ a_1311 := Nat.ne_of_lt (q_1312 ▸ t_1302)
  have n_1317 : a_1292 ≠ a_1311 := Nat.ne_of_lt (q_1312 ▸ t_1307)
  have g_1318 : n0 ≤ a_1311 := q_1312 ▸ z_1303
  have g_1319 : h0.size ≤ a_1311 := q_1312 ▸ b_1304
  have f_1320 : Ary Z h_1310 t .char [(.int d0), (.int d1), (.int d2), (.int d3), (.int d4), (.int d5)] := f_1301.sm (Sm.ext E_1313)
  have f_1322 : Exa Z h_1310 a_1292 "java/lang/String" := A_1295.sm (Sm.ext E_1313)
  have f_1323 : Fld Z h_1310 a_1292 "java/lang/String" "value" "[B" .null := f_1308.sm (Sm.ext E_1313)
  have f_1324 : Fld Z h_1310 a_1292 "java/lang/String" "coder" "B" (.int (0 : Int32)) := f_1309.sm (Sm.ext E_1313)
  have t_1325 : t < h_1310.size := Nat.lt_of_lt_of_le t_1302 E_1313.1
  have t_1326 : a_1292 < h_1310.size := Nat.lt_of_lt_of_le t_1307 E_1313.1
  have z_1327 : n0 ≤ h_1310.size := Nat.le_trans z_1303 E_1313.1
  have b_1328 : h0.size ≤ h_1310.size := Nat.le_trans b_1304 E_1313.1
  have K_1329 : Keep h0 h_1310 [] := K_1305.ext E_1313
  have O_1330 : Old Z n0 h_1310 := O_1306.ext E_1313
  have f_1321 : Sta Z h_1310 "java/lang/String" "COMPACT_STRINGS" "Z" (.int cs) := Sta.ext O_1330.2 hSCS
  have t_1331 : a_1311 < h_1310.size := A_1314.lt
  change Ary Z h_1310 a_1311 .char [(.int (0 : Int32)), (.int (0 : Int32)), (.int (0 : Int32)), (.int (0 : Int32))] at A_1314
  refine Go.dup (pc' := 112) d1_111 rfl rfl ?_
  refine Go.iconst (pc' := 113) (v := (0 : Int32)) d1_112 rfl rfl ?_
  refine Go.aloadN (pc' := 114) d1_113 rfl rfl rfl ?_
  refine Go.iconst (pc' := 115) (v := (0 : Int32)) d1_114 rfl rfl ?_
  refine Go.ldC (pc' := 116) (k := 0) (v := (.int d0)) f_1320 rfl rfl d1_115 rfl ?_
  refine Go.stC (pc' := 117) (k := 0) A_1314 rfl (by show 0 < 4; decide) d1_116 g_1318 rfl ?_
  intro h_1332 W_1333 A_1334
  rw [nd0] at W_1333 A_1334
  have f_1335 : Ary Z h_1332 t .char [(.int d0), (.int d1), (.int d2), (.int d3), (.int d4), (.int d5)] := f_1320.sm (Sm.wr W_1333 n_1316)
  have f_1336 : Exa Z h_1332 a_1292 "java/lang/String" := f_1322.sm (Sm.wr W_1333 n_1317)
  have f_1337 : Fld Z h_1332 a_1292 "java/lang/String" "value" "[B" .null := f_1323.sm (Sm.wr W_1333 n_1317)
  have f_1338 : Fld Z h_1332 a_1292 "java/lang/String" "coder" "B" (.int (0 : Int32)) := f_1324.sm (Sm.wr W_1333 n_1317)
  have t_1340 : t < h_1332.size := Nat.lt_of_lt_of_le t_1325 (Nat.le_of_eq W_1333.size.symm)
  have t_1341 : a_1292 < h_1332.size := Nat.lt_of_lt_of_le t_1326 (Nat.le_of_eq W_1333.size.symm)
  have t_1342 : a_1311 < h_1332.size := Nat.lt_of_lt_of_le t_1331 (Nat.le_of_eq W_1333.size.symm)
  have z_1343 : n0 ≤ h_1332.size := Nat.le_trans z_1327 (Nat.le_of_eq W_1333.size.symm)
  have b_1344 : h0.size ≤ h_1332.size := Nat.le_trans b_1328 (Nat.le_of_eq W_1333.size.symm)
  have K_1345 : Keep h0 h_1332 [] := K_1329.wr W_1333 (Or.inr g_1319)
  have O_1346 : Old Z n0 h_1332 := O_1330.wr W_1333 g_1318
  have f_1339 : Sta Z h_1332 "java/lang/String" "COMPACT_STRINGS" "Z" (.int cs) := Sta.ext O_1346.2 hSCS
  change Ary Z h_1332 a_1311 .char [(.int d0), (.int (0 : Int32)), (.int (0 : Int32)), (.int (0 : Int32))] at A_1334
  refine Go.dup (pc' := 118) d1_117 rfl rfl ?_
  refine Go.iconst (pc' := 119) (v := (1 : Int32)) d1_118 rfl rfl ?_
  refine Go.aloadN (pc' := 120) d1_119 rfl rfl rfl ?_
  refine Go.iconst (pc' := 121) (v := (1 : Int32)) d1_120 rfl rfl ?_
  refine Go.ldC (pc' := 122) (k := 1) (v := (.int d1)) f_1335 rfl rfl d1_121 rfl ?_
  refine Go.stC (pc' := 123) (k := 1) A_1334 rfl (by show 1 < 4; decide) d1_122 g_1318 rfl ?_
  intro h_1347 W_1348 A_1349
  rw [nd1] at W_1348 A_1349
  have f_1350 : Ary Z h_1347 t .char [(.int d0), (.int d1), (.int d2), (.int d3), (.int d4), (.int d5)] := f_1335.sm (Sm.wr W_1348 n_1316)
  have f_1351 : Exa Z h_1347 a_1292 "java/lang/String" := f_1336.sm (Sm.wr W_1348 n_1317)
  have f_1352 : Fld Z h_1347 a_1292 "java/lang/String" "value" "[B" .null := f_1337.sm (Sm.wr W_1348 n_1317)
  have f_1353 : Fld Z h_1347 a_1292 "java/lang/String" "coder" "B" (.int (0 : Int32)) := f_1338.sm (Sm.wr W_1348 n_1317)
  have t_1355 : t < h_1347.size := Nat.lt_of_lt_of_le t_1340 (Nat.le_of_eq W_1348.size.symm)
  have t_1356 : a_1292 < h_1347.size := Nat.lt_of_lt_of_le t_1341 (Nat.le_of_eq W_1348.size.symm)
  have t_1357 : a_1311 < h_1347.size := Nat.lt_of_lt_of_le t_1342 (Nat.le_of_eq W_1348.size.symm)
  have z_1358 : n0 ≤ h_1347.size := Nat.le_trans z_1343 (Nat.le_of_eq W_1348.size.symm)
  have b_1359 : h0.size ≤ h_1347.size := Nat.le_trans b_1344 (Nat.le_of_eq W_1348.size.symm)
  have K_1360 : Keep h0 h_1347 [] := K_1345.wr W_1348 (Or.inr g_1319)
  have O_1361 : Old Z n0 h_1347 := O_1346.wr W_1348 g_1318
  have f_1354 : Sta Z h_1347 "java/lang/String" "COMPACT_STRINGS" "Z" (.int cs) := Sta.ext O_1361.2 hSCS
  change Ary Z h_1347 a_1311 .char [(.int d0), (.int d1), (.int (0 : Int32)), (.int (0 : Int32))] at A_1349
  refine Go.dup (pc' := 124) d1_123 rfl rfl ?_
  refine Go.iconst (pc' := 125) (v := (2 : Int32)) d1_124 rfl rfl ?_
  refine Go.aloadN (pc' := 126) d1_125 rfl rfl rfl ?_
  refine Go.iconst (pc' := 127) (v := (2 : Int32)) d1_126 rfl rfl ?_
  refine Go.ldC (pc' := 128) (k := 2) (v := (.int d2)) f_1350 rfl rfl d1_127 rfl ?_
  refine Go.stC (pc' := 129) (k := 2) A_1349 rfl (by show 2 < 4; decide) d1_128 g_1318 rfl ?_
  intro h_1362 W_1363 A_1364
  rw [nd2] at W_1363 A_1364
  have f_1365 : Ary Z h_1362 t .char [(.int d0), (.int d1), (.int d2), (.int d3), (.int d4), (.int d5)] := f_1350.sm (Sm.wr W_1363 n_1316)
  have f_1366 : Exa Z h_1362 a_1292 "java/lang/String" := f_1351.sm (Sm.wr W_1363 n_1317)
  have f_1367 : Fld Z h_1362 a_1292 "java/lang/String" "value" "[B" .null := f_1352.sm (Sm.wr W_1363 n_1317)
  have f_1368 : Fld Z h_1362 a_1292 "java/lang/String" "coder" "B" (.int (0 : Int32)) := f_1353.sm (Sm.wr W_1363 n_1317)
  have t_1370 : t < h_1362.size := Nat.lt_of_lt_of_le t_1355 (Nat.le_of_eq W_1363.size.symm)
  have t_1371 : a_1292 < h_1362.size := Nat.lt_of_lt_of_le t_1356 (Nat.le_of_eq W_1363.size.symm)
  have t_1372 : a_1311 < h_1362.size := Nat.lt_of_lt_of_le t_1357 (Nat.le_of_eq W_1363.size.symm)
  have z_1373 : n0 ≤ h_1362.size := Nat.le_trans z_1358 (Nat.le_of_eq W_1363.size.symm)
  have b_1374 : h0.size ≤ h_1362.size := Nat.le_trans b_1359 (Nat.le_of_eq W_1363.size.symm)
  have K_1375 : Keep h0 h_1362 [] := K_1360.wr W_1363 (Or.inr g_1319)
  have O_1376 : Old Z n0 h_1362 := O_1361.wr W_1363 g_1318
  have f_1369 : Sta Z h_1362 "java/lang/String" "COMPACT_STRINGS" "Z" (.int cs) := Sta.ext O_1376.2 hSCS
  change Ary Z h_1362 a_1311 .char [(.int d0), (.int d1), (.int d2), (.int (0 : Int32))] at A_1364
  refine Go.dup (pc' := 130) d1_129 rfl rfl ?_
  refine Go.iconst (pc' := 131) (v := (3 : Int32)) d1_130 rfl rfl ?_
  refine Go.aloadN (pc' := 132) d1_131 rfl rfl rfl ?_
  refine Go.iconst (pc' := 133) (v := (3 : Int32)) d1_132 rfl rfl ?_
  refine Go.ldC (pc' := 134) (k := 3) (v := (.int d3)) f_1365 rfl rfl d1_133 rfl ?_
  refine Go.stC (pc' := 135) (k := 3) A_1364 rfl (by show 3 < 4; decide) d1_134 g_1318 rfl ?_
  intro h_1377 W_1378 A_1379
  rw [nd3] at W_1378 A_1379
  have f_1380 : Ary Z h_1377 t .char [(.int d0), (.int d1), (.int d2), (.int d3), (.int d4), (.int d5)] := f_1365.sm (Sm.wr W_1378 n_1316)
  have f_1381 : Exa Z h_1377 a_1292 "java/lang/String" := f_1366.sm (Sm.wr W_1378 n_1317)
  have f_1382 : Fld Z h_1377 a_1292 "java/lang/String" "value" "[B" .null := f_1367.sm (Sm.wr W_1378 n_1317)
  have f_1383 : Fld Z h_1377 a_1292 "java/lang/String" "coder" "B" (.int (0 : Int32)) := f_1368.sm (Sm.wr W_1378 n_1317)
  have t_1385 : t < h_1377.size := Nat.lt_of_lt_of_le t_1370 (Nat.le_of_eq W_1378.size.symm)
  have t_1386 : a_1292 < h_1377.size := Nat.lt_of_lt_of_le t_1371 (Nat.le_of_eq W_1378.size.symm)
  have t_1387 : a_1311 < h_1377.size := Nat.lt_of_lt_of_le t_1372 (Nat.le_of_eq W_1378.size.symm)
  have z_1388 : n0 ≤ h_1377.size := Nat.le_trans z_1373 (Nat.le_of_eq W_1378.size.symm)
  have b_1389 : h0.size ≤ h_1377.size := Nat.le_trans b_1374 (Nat.le_of_eq W_1378.size.symm)
  have K_1390 : Keep h0 h_1377 [] := K_1375.wr W_1378 (Or.inr g_1319)
  have O_1391 : Old Z n0 h_1377 := O_1376.wr W_1378 g_1318
  have f_1384 : Sta Z h_1377 "java/lang/String" "COMPACT_STRINGS" "Z" (.int cs) := Sta.ext O_1391.2 hSCS
  change Ary Z h_1377 a_1311 .char [(.int d0), (.int d1), (.int d2), (.int d3)] at A_1379
  refine Go.callN (pc' := 138) (argsL := [(.ref a_1311)]) (rest := [(.ref a_1292)]) (W := 1) rfl (hw _ (List.mem_of_getElem? (i := 10) rfl)) (hw _ (List.mem_of_getElem? (i := 11) rfl)) (hw _ (List.mem_of_getElem? (i := 9) rfl)) (hw _ (List.mem_of_getElem? (i := 12) rfl)) (by decide) (m_s1_4 l Z a0 hw a_1292 a_1311 d0 d1 d2 d3 cs h_1377 n0 z_1388 O_1391 hSCS hcs f_1381 f_1382 f_1383 g_1298 A_1379 hd0 hd1 hd2 hd3 hdd0 hdd1 hdd2 hdd3) d1_135 rfl pd4 rfl rfl (Nat.le_of_eq rfl) (by decide) (by decide) (by decide) (by decide) rfl ?_
  rintro _ h_1392 ⟨rfl, K_1393, o, f1, lo, f2, b0, b1, b2, b3, A, e0, e1, e2, e3⟩
  have f_1394 : Ary Z h_1392 t .char [(.int d0), (.int d1), (.int d2), (.int d3), (.int d4), (.int d5)] := f_1380.sm (Sm.keep K_1393 (ninS n_1297 nin0))
  have f_1395 : Exa Z h_1392 a_1292 "java/lang/String" := f_1381.keep K_1393
  have f_1399 : Ary Z h_1392 a_1311 .char [(.int d0), (.int d1), (.int d2), (.int d3)] := A_1379.sm (Sm.keep K_1393 (ninS n_1317.symm nin0))
  have t_1400 : t < h_1392.size := Nat.lt_of_lt_of_le t_1385 K_1393.1
  have t_1401 : a_1292 < h_1392.size := Nat.lt_of_lt_of_le t_1386 K_1393.1
  have t_1402 : a_1311 < h_1392.size := Nat.lt_of_lt_of_le t_1387 K_1393.1
  have z_1403 : n0 ≤ h_1392.size := Nat.le_trans z_1388 K_1393.1
  have b_1404 : h0.size ≤ h_1392.size := Nat.le_trans b_1389 K_1393.1
  have K_1405 : Keep h0 h_1392 [] := K_1390.trans K_1393 (allS (Or.inr g_1299) all0)
  have O_1406 : Old Z n0 h_1392 := O_1391.keep K_1393 (allS g_1298 all0)
  have f_1398 : Sta Z h_1392 "java/lang/String" "COMPACT_STRINGS" "Z" (.int cs) := Sta.ext O_1406.2 hSCS
  show (Go .n l ({ frames := 6, cells := 4, slots := 28, locals := 95 } : Room) Z (⟨"com/example/consentry/consentry/authorization/CodeChallengeMethodParsePinLaw", "make", "([CI)Ljava/lang/String;"⟩ : MethodName) method_3_code 2 (some (.object "java/lang/String")) n0 4 28 (fun v h => ∃ (s o : Addr) (W : List Int32), v = some (.ref s) ∧ Keep h0 h [] ∧ W.length ≤ 6 ∧ Exa Z h s "java/lang/String" ∧ Fld Z h s "java/lang/String" "value" "[B" (.ref o) ∧ Fld Z h s "java/lang/String" "coder" "B" (.int (0 : Int32)) ∧ Ary Z h o .byte (W.map Value.int))) h_1392 (0 + 1 + 1 + 2) (0 + 4 + 4 + 12) 138 #[.val (.ref t), .val (.int (4 : Int32))] [(.ref a_1292)]
  exact Go.retA d1_138 rfl rfl rfl ⟨a_1292, o, [b0, b1, b2, b3], rfl, K_1405, by simp, f_1395, f1, f2, A⟩ (by decide) (by decide)
set_option maxRecDepth 65536 in
set_option maxHeartbeats 40000000 in
theorem m_mk5 (l : Launch) (Z : State) (a0 : Array Value) (hw : ∀ d ∈ tables_1, d.before a0 Z = true) (t : Addr) (d0 d1 d2 d3 d4 d5 : Int32) (cs : Int32) (h0 : Heap) (n0 : Nat) (z0 : n0 ≤ h0.size) (hO : Old Z n0 h0) (hSCS : Sta Z Z.heap "java/lang/String" "COMPACT_STRINGS" "Z" (.int cs)) (hcs : cs.toInt ≠ 0) (hT : Ary Z h0 t .char [.int d0, .int d1, .int d2, .int d3, .int d4, .int d5]) (hd0 : 0 ≤ d0.toInt ∧ d0.toInt < 65536) (hdd0 : d0.toInt < 256) (hd1 : 0 ≤ d1.toInt ∧ d1.toInt < 65536) (hdd1 : d1.toInt < 256) (hd2 : 0 ≤ d2.toInt ∧ d2.toInt < 65536) (hdd2 : d2.toInt < 256) (hd3 : 0 ≤ d3.toInt ∧ d3.toInt < 65536) (hdd3 : d3.toInt < 256) (hd4 : 0 ≤ d4.toInt ∧ d4.toInt < 65536) (hdd4 : d4.toInt < 256) (hd5 : 0 ≤ d5.toInt ∧ d5.toInt < 65536) (hdd5 : d5.toInt < 256) : Mt .n l Z (⟨"com/example/consentry/consentry/authorization/CodeChallengeMethodParsePinLaw", "make", "([CI)Ljava/lang/String;"⟩ : MethodName) method_3_code 2 (some (.object "java/lang/String")) ({ frames := 6, cells := 4, slots := 28, locals := 95 } : Room) n0 (fun v h => ∃ (s o : Addr) (W : List Int32), v = some (.ref s) ∧ Keep h0 h [] ∧ W.length ≤ 6 ∧ Exa Z h s "java/lang/String" ∧ Fld Z h s "java/lang/String" "value" "[B" (.ref o) ∧ Fld Z h s "java/lang/String" "coder" "B" (.int (0 : Int32)) ∧ Ary Z h o .byte (W.map Value.int)) h0 #[(.ref t), (.int (5 : Int32))] := by
  refine Mt.go (Ls := #[.val (.ref t), .val (.int (5 : Int32))]) (plainFor_of_name pn0) (fun m => by first | (simp [entryFrame, mkF, argsToLocals, Value.category]; done) | rfl) ?_
  show (Go .n l ({ frames := 6, cells := 4, slots := 28, locals := 95 } : Room) Z (⟨"com/example/consentry/consentry/authorization/CodeChallengeMethodParsePinLaw", "make", "([CI)Ljava/lang/String;"⟩ : MethodName) method_3_code 2 (some (.object "java/lang/String")) n0 4 28 (fun v h => ∃ (s o : Addr) (W : List Int32), v = some (.ref s) ∧ Keep h0 h [] ∧ W.length ≤ 6 ∧ Exa Z h s "java/lang/String" ∧ Fld Z h s "java/lang/String" "value" "[B" (.ref o) ∧ Fld Z h s "java/lang/String" "coder" "B" (.int (0 : Int32)) ∧ Ary Z h o .byte (W.map Value.int))) h0 0 0 0 #[.val (.ref t), .val (.int (5 : Int32))] []
  have hTCS : Sta Z h0 "java/lang/String" "COMPACT_STRINGS" "Z" (.int cs) := Sta.ext hO.2 hSCS
  have nd0 : nar .char d0 = d0 := own_nc hd0
  have nd1 : nar .char d1 = d1 := own_nc hd1
  have nd2 : nar .char d2 = d2 := own_nc hd2
  have nd3 : nar .char d3 = d3 := own_nc hd3
  have nd4 : nar .char d4 = d4 := own_nc hd4
  refine Go.iloadN (pc' := 1) d1_0 rfl rfl ?_
  refine Go.ifc (pc1 := 15) (pc2 := 4) d1_1 (by decide) (by decide) rfl (fun (c_1407 : (5 : Int) ≠ 0) => ?_) (fun (c_1407 : (5 : Int) = 0) => ?_)
  rotate_left
  · exact absurd c_1407 (by decide)
  refine Go.iloadN (pc' := 16) d1_15 rfl rfl ?_
  refine Go.iconst (pc' := 17) (v := (1 : Int32)) d1_16 rfl rfl ?_
  refine Go.icmp (pc1 := 37) (pc2 := 20) d1_17 (by decide) (by decide) rfl (fun (c_1408 : (5 : Int) ≠ (1 : Int)) => ?_) (fun (c_1408 : (5 : Int) = (1 : Int)) => ?_)
  rotate_left
  · exact absurd c_1408 (by decide)
  refine Go.iloadN (pc' := 38) d1_37 rfl rfl ?_
  refine Go.iconst (pc' := 39) (v := (2 : Int32)) d1_38 rfl rfl ?_
  refine Go.icmp (pc1 := 65) (pc2 := 42) d1_39 (by decide) (by decide) rfl (fun (c_1409 : (5 : Int) ≠ (2 : Int)) => ?_) (fun (c_1409 : (5 : Int) = (2 : Int)) => ?_)
  rotate_left
  · exact absurd c_1409 (by decide)
  refine Go.iloadN (pc' := 66) d1_65 rfl rfl ?_
  refine Go.iconst (pc' := 67) (v := (3 : Int32)) d1_66 rfl rfl ?_
  refine Go.icmp (pc1 := 99) (pc2 := 70) d1_67 (by decide) (by decide) rfl (fun (c_1410 : (5 : Int) ≠ (3 : Int)) => ?_) (fun (c_1410 : (5 : Int) = (3 : Int)) => ?_)
  rotate_left
  · exact absurd c_1410 (by decide)
  refine Go.iloadN (pc' := 100) d1_99 rfl rfl ?_
  refine Go.iconst (pc' := 101) (v := (4 : Int32)) d1_100 rfl rfl ?_
  refine Go.icmp (pc1 := 139) (pc2 := 104) d1_101 (by decide) (by decide) rfl (fun (c_1411 : (5 : Int) ≠ (4 : Int)) => ?_) (fun (c_1411 : (5 : Int) = (4 : Int)) => ?_)
  rotate_left
  · exact absurd c_1411 (by decide)
  refine Go.iloadN (pc' := 140) d1_139 rfl rfl ?_
  refine Go.iconst (pc' := 141) (v := (5 : Int32)) d1_140 rfl rfl ?_
  refine Go.icmp (pc1 := 185) (pc2 := 144) d1_141 (by decide) (by decide) rfl (fun (c_1412 : (5 : Int) ≠ (5 : Int)) => ?_) (fun (c_1412 : (5 : Int) = (5 : Int)) => ?_)
  · exact absurd c_1412 (by decide)
  refine Go.newO (pc' := 147) (hw _ (List.mem_of_getElem? (i := 7) rfl)) (hw _ (List.mem_of_getElem? (i := 8) rfl)) (hw _ (List.mem_of_getElem? (i := 9) rfl)) d1_144 (by decide) (by decide) rfl ?_
  intro h_1413 a_1414 q_1415 E_1416 A_1417 D_1418
  have n_1419 : t ≠ a_1414 := Nat.ne_of_lt (q_1415 ▸ hT.lt)
  have g_1420 : n0 ≤ a_1414 := q_1415 ▸ z0
  have g_1421 : h0.size ≤ a_1414 := q_1415 ▸ (Nat.le_refl _)
  have f_1423 : Ary Z h_1413 t .char [(.int d0), (.int d1), (.int d2), (.int d3), (.int d4), (.int d5)] := hT.sm (Sm.ext E_1416)
  have t_1424 : t < h_1413.size := Nat.lt_of_lt_of_le hT.lt E_1416.1
  have z_1425 : n0 ≤ h_1413.size := Nat.le_trans z0 E_1416.1
  have b_1426 : h0.size ≤ h_1413.size := Nat.le_trans (Nat.le_refl _) E_1416.1
  have K_1427 : Keep h0 h_1413 [] := (Keep.refl _ _).ext E_1416
  have O_1428 : Old Z n0 h_1413 := hO.ext E_1416
  have f_1422 : Sta Z h_1413 "java/lang/String" "COMPACT_STRINGS" "Z" (.int cs) := Sta.ext O_1428.2 hSCS
  have t_1429 : a_1414 < h_1413.size := A_1417.lt
  have f_1430 : Fld Z h_1413 a_1414 "java/lang/String" "value" "[B" .null := D_1418 (Or.inr (hw _ (List.mem_of_getElem? (i := 22) rfl))) (ty := (.array .byte)) (by decide)
  have f_1431 : Fld Z h_1413 a_1414 "java/lang/String" "coder" "B" (.int (0 : Int32)) := D_1418 (Or.inr (hw _ (List.mem_of_getElem? (i := 23) rfl))) (ty := .byte) (by decide)
  refine Go.dup (pc' := 148) d1_147 rfl rfl ?_
  refine Go.iconst (pc' := 149) (v := (5 : Int32)) d1_148 rfl rfl ?_
  refine Go.newA (pc' := 151) (k := 5) (ty := .char) (cap := 5) (hw _ (List.mem_of_getElem? (i := 0) rfl)) rfl rfl (by decide) (by decide) d1_149 (by decide) (by decide) rfl ?_
  intro h_1432 a_1433 q_1434 E_1435 A_1436
  have n_1438 : t ≠ a_1433 := Nat.ne_of_lt (q_1434 ▸ t_1424)
  have n_1439 : a_1414 ≠ a_1433 := Nat.ne_of_lt (q_1434 ▸ t_1429)
  have g_1440 : n0 ≤ a_1433 := q_1434 ▸ z_1425
  have g_1441 : h0.size ≤ a_1433 := q_1434 ▸ b_1426
  have f_1442 : Ary Z h_1432 t .char [(.int d0), (.int d1), (.int d2), (.int d3), (.int d4), (.int d5)] := f_1423.sm (Sm.ext E_1435)
  have f_1444 : Exa Z h_1432 a_1414 "java/lang/String" := A_1417.sm (Sm.ext E_1435)
  have f_1445 : Fld Z h_1432 a_1414 "java/lang/String" "value" "[B" .null := f_1430.sm (Sm.ext E_1435)
  have f_1446 : Fld Z h_1432 a_1414 "java/lang/String" "coder" "B" (.int (0 : Int32)) := f_1431.sm (Sm.ext E_1435)
  have t_1447 : t < h_1432.size := Nat.lt_of_lt_of_le t_1424 E_1435.1
  have t_1448 : a_1414 < h_1432.size := Nat.lt_of_lt_of_le t_1429 E_1435.1
  have z_1449 : n0 ≤ h_1432.size := Nat.le_trans z_1425 E_1435.1
  have b_1450 : h0.size ≤ h_1432.size := Nat.le_trans b_1426 E_1435.1
  have K_1451 : Keep h0 h_1432 [] := K_1427.ext E_1435
  have O_1452 : Old Z n0 h_1432 := O_1428.ext E_1435
  have f_1443 : Sta Z h_1432 "java/lang/String" "COMPACT_STRINGS" "Z" (.int cs) := Sta.ext O_1452.2 hSCS
  have t_1453 : a_1433 < h_1432.size := A_1436.lt
  change Ary Z h_1432 a_1433 .char [(.int (0 : Int32)), (.int (0 : Int32)), (.int (0 : Int32)), (.int (0 : Int32)), (.int (0 : Int32))] at A_1436
  refine Go.dup (pc' := 152) d1_151 rfl rfl ?_
  refine Go.iconst (pc' := 153) (v := (0 : Int32)) d1_152 rfl rfl ?_
  refine Go.aloadN (pc' := 154) d1_153 rfl rfl rfl ?_
  refine Go.iconst (pc' := 155) (v := (0 : Int32)) d1_154 rfl rfl ?_
  refine Go.ldC (pc' := 156) (k := 0) (v := (.int d0)) f_1442 rfl rfl d1_155 rfl ?_
  refine Go.stC (pc' := 157) (k := 0) A_1436 rfl (by show 0 < 5; decide) d1_156 g_1440 rfl ?_
  intro h_1454 W_1455 A_1456
  rw [nd0] at W_1455 A_1456
  have f_1457 : Ary Z h_1454 t .char [(.int d0), (.int d1), (.int d2), (.int d3), (.int d4), (.int d5)] := f_1442.sm (Sm.wr W_1455 n_1438)
  have f_1458 : Exa Z h_1454 a_1414 "java/lang/String" := f_1444.sm (Sm.wr W_1455 n_1439)
  have f_1459 : Fld Z h_1454 a_1414 "java/lang/String" "value" "[B" .null := f_1445.sm (Sm.wr W_1455 n_1439)
  have f_1460 : Fld Z h_1454 a_1414 "java/lang/String" "coder" "B" (.int (0 : Int32)) := f_1446.sm (Sm.wr W_1455 n_1439)
  have t_1462 : t < h_1454.size := Nat.lt_of_lt_of_le t_1447 (Nat.le_of_eq W_1455.size.symm)
  have t_1463 : a_1414 < h_1454.size := Nat.lt_of_lt_of_le t_1448 (Nat.le_of_eq W_1455.size.symm)
  have t_1464 : a_1433 < h_1454.size := Nat.lt_of_lt_of_le t_1453 (Nat.le_of_eq W_1455.size.symm)
  have z_1465 : n0 ≤ h_1454.size := Nat.le_trans z_1449 (Nat.le_of_eq W_1455.size.symm)
  have b_1466 : h0.size ≤ h_1454.size := Nat.le_trans b_1450 (Nat.le_of_eq W_1455.size.symm)
  have K_1467 : Keep h0 h_1454 [] := K_1451.wr W_1455 (Or.inr g_1441)
  have O_1468 : Old Z n0 h_1454 := O_1452.wr W_1455 g_1440
  have f_1461 : Sta Z h_1454 "java/lang/String" "COMPACT_STRINGS" "Z" (.int cs) := Sta.ext O_1468.2 hSCS
  change Ary Z h_1454 a_1433 .char [(.int d0), (.int (0 : Int32)), (.int (0 : Int32)), (.int (0 : Int32)), (.int (0 : Int32))] at A_1456
  refine Go.dup (pc' := 158) d1_157 rfl rfl ?_
  refine Go.iconst (pc' := 159) (v := (1 : Int32)) d1_158 rfl rfl ?_
  refine Go.aloadN (pc' := 160) d1_159 rfl rfl rfl ?_
  refine Go.iconst (pc' := 161) (v := (1 : Int32)) d1_160 rfl rfl ?_
  refine Go.ldC (pc' := 162) (k := 1) (v := (.int d1)) f_1457 rfl rfl d1_161 rfl ?_
  refine Go.stC (pc' := 163) (k := 1) A_1456 rfl (by show 1 < 5; decide) d1_162 g_1440 rfl ?_
  intro h_1469 W_1470 A_1471
  rw [nd1] at W_1470 A_1471
  have f_1472 : Ary Z h_1469 t .char [(.int d0), (.int d1), (.int d2), (.int d3), (.int d4), (.int d5)] := f_1457.sm (Sm.wr W_1470 n_1438)
  have f_1473 : Exa Z h_1469 a_1414 "java/lang/String" := f_1458.sm (Sm.wr W_1470 n_1439)
  have f_1474 : Fld Z h_1469 a_1414 "java/lang/String" "value" "[B" .null := f_1459.sm (Sm.wr W_1470 n_1439)
  have f_1475 : Fld Z h_1469 a_1414 "java/lang/String" "coder" "B" (.int (0 : Int32)) := f_1460.sm (Sm.wr W_1470 n_1439)
  have t_1477 : t < h_1469.size := Nat.lt_of_lt_of_le t_1462 (Nat.le_of_eq W_1470.size.symm)
  have t_1478 : a_1414 < h_1469.size := Nat.lt_of_lt_of_le t_1463 (Nat.le_of_eq W_1470.size.symm)
  have t_1479 : a_1433 < h_1469.size := Nat.lt_of_lt_of_le t_1464 (Nat.le_of_eq W_1470.size.symm)
  have z_1480 : n0 ≤ h_1469.size := Nat.le_trans z_1465 (Nat.le_of_eq W_1470.size.symm)
  have b_1481 : h0.size ≤ h_1469.size := Nat.le_trans b_1466 (Nat.le_of_eq W_1470.size.symm)
  have K_1482 : Keep h0 h_1469 [] := K_1467.wr W_1470 (Or.inr g_1441)
  have O_1483 : Old Z n0 h_1469 := O_1468.wr W_1470 g_1440
  have f_1476 : Sta Z h_1469 "java/lang/String" "COMPACT_STRINGS" "Z" (.int cs) := Sta.ext O_1483.2 hSCS
  change Ary Z h_1469 a_1433 .char [(.int d0), (.int d1), (.int (0 : Int32)), (.int (0 : Int32)), (.int (0 : Int32))] at A_1471
  refine Go.dup (pc' := 164) d1_163 rfl rfl ?_
  refine Go.iconst (pc' := 165) (v := (2 : Int32)) d1_164 rfl rfl ?_
  refine Go.aloadN (pc' := 166) d1_165 rfl rfl rfl ?_
  refine Go.iconst (pc' := 167) (v := (2 : Int32)) d1_166 rfl rfl ?_
  refine Go.ldC (pc' := 168) (k := 2) (v := (.int d2)) f_1472 rfl rfl d1_167 rfl ?_
  refine Go.stC (pc' := 169) (k := 2) A_1471 rfl (by show 2 < 5; decide) d1_168 g_1440 rfl ?_
  intro h_1484 W_1485 A_1486
  rw [nd2] at W_1485 A_1486
  have f_1487 : Ary Z h_1484 t .char [(.int d0), (.int d1), (.int d2), (.int d3), (.int d4), (.int d5)] := f_1472.sm (Sm.wr W_1485 n_1438)
  have f_1488 : Exa Z h_1484 a_1414 "java/lang/String" := f_1473.sm (Sm.wr W_1485 n_1439)
  have f_1489 : Fld Z h_1484 a_1414 "java/lang/String" "value" "[B" .null := f_1474.sm (Sm.wr W_1485 n_1439)
  have f_1490 : Fld Z h_1484 a_1414 "java/lang/String" "coder" "B" (.int (0 : Int32)) := f_1475.sm (Sm.wr W_1485 n_1439)
  have t_1492 : t < h_1484.size := Nat.lt_of_lt_of_le t_1477 (Nat.le_of_eq W_1485.size.symm)
  have t_1493 : a_1414 < h_1484.size := Nat.lt_of_lt_of_le t_1478 (Nat.le_of_eq W_1485.size.symm)
  have t_1494 : a_1433 < h_1484.size := Nat.lt_of_lt_of_le t_1479 (Nat.le_of_eq W_1485.size.symm)
  have z_1495 : n0 ≤ h_1484.size := Nat.le_trans z_1480 (Nat.le_of_eq W_1485.size.symm)
  have b_1496 : h0.size ≤ h_1484.size := Nat.le_trans b_1481 (Nat.le_of_eq W_1485.size.symm)
  have K_1497 : Keep h0 h_1484 [] := K_1482.wr W_1485 (Or.inr g_1441)
  have O_1498 : Old Z n0 h_1484 := O_1483.wr W_1485 g_1440
  have f_1491 : Sta Z h_1484 "java/lang/String" "COMPACT_STRINGS" "Z" (.int cs) := Sta.ext O_1498.2 hSCS
  change Ary Z h_1484 a_1433 .char [(.int d0), (.int d1), (.int d2), (.int (0 : Int32)), (.int (0 : Int32))] at A_1486
  refine Go.dup (pc' := 170) d1_169 rfl rfl ?_
  refine Go.iconst (pc' := 171) (v := (3 : Int32)) d1_170 rfl rfl ?_
  refine Go.aloadN (pc' := 172) d1_171 rfl rfl rfl ?_
  refine Go.iconst (pc' := 173) (v := (3 : Int32)) d1_172 rfl rfl ?_
  refine Go.ldC (pc' := 174) (k := 3) (v := (.int d3)) f_1487 rfl rfl d1_173 rfl ?_
  refine Go.stC (pc' := 175) (k := 3) A_1486 rfl (by show 3 < 5; decide) d1_174 g_1440 rfl ?_
  intro h_1499 W_1500 A_1501
  rw [nd3] at W_1500 A_1501
  have f_1502 : Ary Z h_1499 t .char [(.int d0), (.int d1), (.int d2), (.int d3), (.int d4), (.int d5)] := f_1487.sm (Sm.wr W_1500 n_1438)
  have f_1503 : Exa Z h_1499 a_1414 "java/lang/String" := f_1488.sm (Sm.wr W_1500 n_1439)
  have f_1504 : Fld Z h_1499 a_1414 "java/lang/String" "value" "[B" .null := f_1489.sm (Sm.wr W_1500 n_1439)
  have f_1505 : Fld Z h_1499 a_1414 "java/lang/String" "coder" "B" (.int (0 : Int32)) := f_1490.sm (Sm.wr W_1500 n_1439)
  have t_1507 : t < h_1499.size := Nat.lt_of_lt_of_le t_1492 (Nat.le_of_eq W_1500.size.symm)
  have t_1508 : a_1414 < h_1499.size := Nat.lt_of_lt_of_le t_1493 (Nat.le_of_eq W_1500.size.symm)
  have t_1509 : a_1433 < h_1499.size := Nat.lt_of_lt_of_le t_1494 (Nat.le_of_eq W_1500.size.symm)
  have z_1510 : n0 ≤ h_1499.size := Nat.le_trans z_1495 (Nat.le_of_eq W_1500.size.symm)
  have b_1511 : h0.size ≤ h_1499.size := Nat.le_trans b_1496 (Nat.le_of_eq W_1500.size.symm)
  have K_1512 : Keep h0 h_1499 [] := K_1497.wr W_1500 (Or.inr g_1441)
  have O_1513 : Old Z n0 h_1499 := O_1498.wr W_1500 g_1440
  have f_1506 : Sta Z h_1499 "java/lang/String" "COMPACT_STRINGS" "Z" (.int cs) := Sta.ext O_1513.2 hSCS
  change Ary Z h_1499 a_1433 .char [(.int d0), (.int d1), (.int d2), (.int d3), (.int (0 : Int32))] at A_1501
  refine Go.dup (pc' := 176) d1_175 rfl rfl ?_
  refine Go.iconst (pc' := 177) (v := (4 : Int32)) d1_176 rfl rfl ?_
  refine Go.aloadN (pc' := 178) d1_177 rfl rfl rfl ?_
  refine Go.iconst (pc' := 179) (v := (4 : Int32)) d1_178 rfl rfl ?_
  refine Go.ldC (pc' := 180) (k := 4) (v := (.int d4)) f_1502 rfl rfl d1_179 rfl ?_
  refine Go.stC (pc' := 181) (k := 4) A_1501 rfl (by show 4 < 5; decide) d1_180 g_1440 rfl ?_
  intro h_1514 W_1515 A_1516
  rw [nd4] at W_1515 A_1516
  have f_1517 : Ary Z h_1514 t .char [(.int d0), (.int d1), (.int d2), (.int d3), (.int d4), (.int d5)] := f_1502.sm (Sm.wr W_1515 n_1438)
  have f_1518 : Exa Z h_1514 a_1414 "java/lang/String" := f_1503.sm (Sm.wr W_1515 n_1439)
  have f_1519 : Fld Z h_1514 a_1414 "java/lang/String" "value" "[B" .null := f_1504.sm (Sm.wr W_1515 n_1439)
  have f_1520 : Fld Z h_1514 a_1414 "java/lang/String" "coder" "B" (.int (0 : Int32)) := f_1505.sm (Sm.wr W_1515 n_1439)
  have t_1522 : t < h_1514.size := Nat.lt_of_lt_of_le t_1507 (Nat.le_of_eq W_1515.size.symm)
  have t_1523 : a_1414 < h_1514.size := Nat.lt_of_lt_of_le t_1508 (Nat.le_of_eq W_1515.size.symm)
  have t_1524 : a_1433 < h_1514.size := Nat.lt_of_lt_of_le t_1509 (Nat.le_of_eq W_1515.size.symm)
  have z_1525 : n0 ≤ h_1514.size := Nat.le_trans z_1510 (Nat.le_of_eq W_1515.size.symm)
  have b_1526 : h0.size ≤ h_1514.size := Nat.le_trans b_1511 (Nat.le_of_eq W_1515.size.symm)
  have K_1527 : Keep h0 h_1514 [] := K_1512.wr W_1515 (Or.inr g_1441)
  have O_1528 : Old Z n0 h_1514 := O_1513.wr W_1515 g_1440
  have f_1521 : Sta Z h_1514 "java/lang/String" "COMPACT_STRINGS" "Z" (.int cs) := Sta.ext O_1528.2 hSCS
  change Ary Z h_1514 a_1433 .char [(.int d0), (.int d1), (.int d2), (.int d3), (.int d4)] at A_1516
  refine Go.callN (pc' := 184) (argsL := [(.ref a_1433)]) (rest := [(.ref a_1414)]) (W := 1) rfl (hw _ (List.mem_of_getElem? (i := 10) rfl)) (hw _ (List.mem_of_getElem? (i := 11) rfl)) (hw _ (List.mem_of_getElem? (i := 9) rfl)) (hw _ (List.mem_of_getElem? (i := 12) rfl)) (by decide) (m_s1_5 l Z a0 hw a_1414 a_1433 d0 d1 d2 d3 d4 cs h_1514 n0 z_1525 O_1528 hSCS hcs f_1518 f_1519 f_1520 g_1420 A_1516 hd0 hd1 hd2 hd3 hd4 hdd0 hdd1 hdd2 hdd3 hdd4) d1_181 rfl pd4 rfl rfl (Nat.le_of_eq rfl) (by decide) (by decide) (by decide) (by decide) rfl ?_
  rintro _ h_1529 ⟨rfl, K_1530, o, f1, lo, f2, b0, b1, b2, b3, b4, A, e0, e1, e2, e3, e4⟩
  have f_1531 : Ary Z h_1529 t .char [(.int d0), (.int d1), (.int d2), (.int d3), (.int d4), (.int d5)] := f_1517.sm (Sm.keep K_1530 (ninS n_1419 nin0))
  have f_1532 : Exa Z h_1529 a_1414 "java/lang/String" := f_1518.keep K_1530
  have f_1536 : Ary Z h_1529 a_1433 .char [(.int d0), (.int d1), (.int d2), (.int d3), (.int d4)] := A_1516.sm (Sm.keep K_1530 (ninS n_1439.symm nin0))
  have t_1537 : t < h_1529.size := Nat.lt_of_lt_of_le t_1522 K_1530.1
  have t_1538 : a_1414 < h_1529.size := Nat.lt_of_lt_of_le t_1523 K_1530.1
  have t_1539 : a_1433 < h_1529.size := Nat.lt_of_lt_of_le t_1524 K_1530.1
  have z_1540 : n0 ≤ h_1529.size := Nat.le_trans z_1525 K_1530.1
  have b_1541 : h0.size ≤ h_1529.size := Nat.le_trans b_1526 K_1530.1
  have K_1542 : Keep h0 h_1529 [] := K_1527.trans K_1530 (allS (Or.inr g_1421) all0)
  have O_1543 : Old Z n0 h_1529 := O_1528.keep K_1530 (allS g_1420 all0)
  have f_1535 : Sta Z h_1529 "java/lang/String" "COMPACT_STRINGS" "Z" (.int cs) := Sta.ext O_1543.2 hSCS
  show (Go .n l ({ frames := 6, cells := 4, slots := 28, locals := 95 } : Room) Z (⟨"com/example/consentry/consentry/authorization/CodeChallengeMethodParsePinLaw", "make", "([CI)Ljava/lang/String;"⟩ : MethodName) method_3_code 2 (some (.object "java/lang/String")) n0 4 28 (fun v h => ∃ (s o : Addr) (W : List Int32), v = some (.ref s) ∧ Keep h0 h [] ∧ W.length ≤ 6 ∧ Exa Z h s "java/lang/String" ∧ Fld Z h s "java/lang/String" "value" "[B" (.ref o) ∧ Fld Z h s "java/lang/String" "coder" "B" (.int (0 : Int32)) ∧ Ary Z h o .byte (W.map Value.int))) h_1529 (0 + 1 + 1 + 2) (0 + 4 + 5 + 15) 184 #[.val (.ref t), .val (.int (5 : Int32))] [(.ref a_1414)]
  exact Go.retA d1_184 rfl rfl rfl ⟨a_1414, o, [b0, b1, b2, b3, b4], rfl, K_1542, by simp, f_1532, f1, f2, A⟩ (by decide) (by decide)
set_option maxRecDepth 65536 in
set_option maxHeartbeats 40000000 in
theorem m_mk6 (l : Launch) (Z : State) (a0 : Array Value) (hw : ∀ d ∈ tables_1, d.before a0 Z = true) (t : Addr) (d0 d1 d2 d3 d4 d5 : Int32) (cs : Int32) (h0 : Heap) (n0 : Nat) (z0 : n0 ≤ h0.size) (hO : Old Z n0 h0) (hSCS : Sta Z Z.heap "java/lang/String" "COMPACT_STRINGS" "Z" (.int cs)) (hcs : cs.toInt ≠ 0) (hT : Ary Z h0 t .char [.int d0, .int d1, .int d2, .int d3, .int d4, .int d5]) (hd0 : 0 ≤ d0.toInt ∧ d0.toInt < 65536) (hdd0 : d0.toInt < 256) (hd1 : 0 ≤ d1.toInt ∧ d1.toInt < 65536) (hdd1 : d1.toInt < 256) (hd2 : 0 ≤ d2.toInt ∧ d2.toInt < 65536) (hdd2 : d2.toInt < 256) (hd3 : 0 ≤ d3.toInt ∧ d3.toInt < 65536) (hdd3 : d3.toInt < 256) (hd4 : 0 ≤ d4.toInt ∧ d4.toInt < 65536) (hdd4 : d4.toInt < 256) (hd5 : 0 ≤ d5.toInt ∧ d5.toInt < 65536) (hdd5 : d5.toInt < 256) : Mt .n l Z (⟨"com/example/consentry/consentry/authorization/CodeChallengeMethodParsePinLaw", "make", "([CI)Ljava/lang/String;"⟩ : MethodName) method_3_code 2 (some (.object "java/lang/String")) ({ frames := 6, cells := 4, slots := 28, locals := 95 } : Room) n0 (fun v h => ∃ (s o : Addr) (W : List Int32), v = some (.ref s) ∧ Keep h0 h [] ∧ W.length ≤ 6 ∧ Exa Z h s "java/lang/String" ∧ Fld Z h s "java/lang/String" "value" "[B" (.ref o) ∧ Fld Z h s "java/lang/String" "coder" "B" (.int (0 : Int32)) ∧ Ary Z h o .byte (W.map Value.int)) h0 #[(.ref t), (.int (6 : Int32))] := by
  refine Mt.go (Ls := #[.val (.ref t), .val (.int (6 : Int32))]) (plainFor_of_name pn0) (fun m => by first | (simp [entryFrame, mkF, argsToLocals, Value.category]; done) | rfl) ?_
  show (Go .n l ({ frames := 6, cells := 4, slots := 28, locals := 95 } : Room) Z (⟨"com/example/consentry/consentry/authorization/CodeChallengeMethodParsePinLaw", "make", "([CI)Ljava/lang/String;"⟩ : MethodName) method_3_code 2 (some (.object "java/lang/String")) n0 4 28 (fun v h => ∃ (s o : Addr) (W : List Int32), v = some (.ref s) ∧ Keep h0 h [] ∧ W.length ≤ 6 ∧ Exa Z h s "java/lang/String" ∧ Fld Z h s "java/lang/String" "value" "[B" (.ref o) ∧ Fld Z h s "java/lang/String" "coder" "B" (.int (0 : Int32)) ∧ Ary Z h o .byte (W.map Value.int))) h0 0 0 0 #[.val (.ref t), .val (.int (6 : Int32))] []
  have hTCS : Sta Z h0 "java/lang/String" "COMPACT_STRINGS" "Z" (.int cs) := Sta.ext hO.2 hSCS
  have nd0 : nar .char d0 = d0 := own_nc hd0
  have nd1 : nar .char d1 = d1 := own_nc hd1
  have nd2 : nar .char d2 = d2 := own_nc hd2
  have nd3 : nar .char d3 = d3 := own_nc hd3
  have nd4 : nar .char d4 = d4 := own_nc hd4
  have nd5 : nar .char d5 = d5 := own_nc hd5
  refine Go.iloadN (pc' := 1) d1_0 rfl rfl ?_
  refine Go.ifc (pc1 := 15) (pc2 := 4) d1_1 (by decide) (by decide) rfl (fun (c_1544 : (6 : Int) ≠ 0) => ?_) (fun (c_1544 : (6 : Int) = 0) => ?_)
  rotate_left
  · exact absurd c_1544 (by decide)
  refine Go.iloadN (pc' := 16) d1_15 rfl rfl ?_
  refine Go.iconst (pc' := 17) (v := (1 : Int32)) d1_16 rfl rfl ?_
  refine Go.icmp (pc1 := 37) (pc2 := 20) d1_17 (by decide) (by decide) rfl (fun (c_1545 : (6 : Int) ≠ (1 : Int)) => ?_) (fun (c_1545 : (6 : Int) = (1 : Int)) => ?_)
  rotate_left
  · exact absurd c_1545 (by decide)
  refine Go.iloadN (pc' := 38) d1_37 rfl rfl ?_
  refine Go.iconst (pc' := 39) (v := (2 : Int32)) d1_38 rfl rfl ?_
  refine Go.icmp (pc1 := 65) (pc2 := 42) d1_39 (by decide) (by decide) rfl (fun (c_1546 : (6 : Int) ≠ (2 : Int)) => ?_) (fun (c_1546 : (6 : Int) = (2 : Int)) => ?_)
  rotate_left
  · exact absurd c_1546 (by decide)
  refine Go.iloadN (pc' := 66) d1_65 rfl rfl ?_
  refine Go.iconst (pc' := 67) (v := (3 : Int32)) d1_66 rfl rfl ?_
  refine Go.icmp (pc1 := 99) (pc2 := 70) d1_67 (by decide) (by decide) rfl (fun (c_1547 : (6 : Int) ≠ (3 : Int)) => ?_) (fun (c_1547 : (6 : Int) = (3 : Int)) => ?_)
  rotate_left
  · exact absurd c_1547 (by decide)
  refine Go.iloadN (pc' := 100) d1_99 rfl rfl ?_
  refine Go.iconst (pc' := 101) (v := (4 : Int32)) d1_100 rfl rfl ?_
  refine Go.icmp (pc1 := 139) (pc2 := 104) d1_101 (by decide) (by decide) rfl (fun (c_1548 : (6 : Int) ≠ (4 : Int)) => ?_) (fun (c_1548 : (6 : Int) = (4 : Int)) => ?_)
  rotate_left
  · exact absurd c_1548 (by decide)
  refine Go.iloadN (pc' := 140) d1_139 rfl rfl ?_
  refine Go.iconst (pc' := 141) (v := (5 : Int32)) d1_140 rfl rfl ?_
  refine Go.icmp (pc1 := 185) (pc2 := 144) d1_141 (by decide) (by decide) rfl (fun (c_1549 : (6 : Int) ≠ (5 : Int)) => ?_) (fun (c_1549 : (6 : Int) = (5 : Int)) => ?_)
  rotate_left
  · exact absurd c_1549 (by decide)
  refine Go.newO (pc' := 188) (hw _ (List.mem_of_getElem? (i := 7) rfl)) (hw _ (List.mem_of_getElem? (i := 8) rfl)) (hw _ (List.mem_of_getElem? (i := 9) rfl)) d1_185 (by decide) (by decide) rfl ?_
  intro h_1550 a_1551 q_1552 E_1553 A_1554 D_1555
  have n_1556 : t ≠ a_1551 := Nat.ne_of_lt (q_1552 ▸ hT.lt)
  have g_1557 : n0 ≤ a_1551 := q_1552 ▸ z0
  have g_1558 : h0.size ≤ a_1551 := q_1552 ▸ (Nat.le_refl _)
  have f_1560 : Ary Z h_1550 t .char [(.int d0), (.int d1), (.int d2), (.int d3), (.int d4), (.int d5)] := hT.sm (Sm.ext E_1553)
  have t_1561 : t < h_1550.size := Nat.lt_of_lt_of_le hT.lt E_1553.1
  have z_1562 : n0 ≤ h_1550.size := Nat.le_trans z0 E_1553.1
  have b_1563 : h0.size ≤ h_1550.size := Nat.le_trans (Nat.le_refl _) E_1553.1
  have K_1564 : Keep h0 h_1550 [] := (Keep.refl _ _).ext E_1553
  have O_1565 : Old Z n0 h_1550 := hO.ext E_1553
  have f_1559 : Sta Z h_1550 "java/lang/String" "COMPACT_STRINGS" "Z" (.int cs) := Sta.ext O_1565.2 hSCS
  have t_1566 : a_1551 < h_1550.size := A_1554.lt
  have f_1567 : Fld Z h_1550 a_1551 "java/lang/String" "value" "[B" .null := D_1555 (Or.inr (hw _ (List.mem_of_getElem? (i := 22) rfl))) (ty := (.array .byte)) (by decide)
  have f_1568 : Fld Z h_1550 a_1551 "java/lang/String" "coder" "B" (.int (0 : Int32)) := D_1555 (Or.inr (hw _ (List.mem_of_getElem? (i := 23) rfl))) (ty := .byte) (by decide)
  refine Go.dup (pc' := 189) d1_188 rfl rfl ?_
  refine Go.bipush (pc' := 191) (v := (6 : Int32)) d1_189 rfl rfl ?_
  refine Go.newA (pc' := 193) (k := 6) (ty := .char) (cap := 6) (hw _ (List.mem_of_getElem? (i := 0) rfl)) rfl rfl (by decide) (by decide) d1_191 (by decide) (by decide) rfl ?_
  intro h_1569 a_1570 q_1571 E_1572 A_1573
  have n_1575 : t ≠ a_1570 := Nat.ne_of_lt (q_1571 ▸ t_1561)
  have n_1576 : a_1551 ≠ a_1570 := Nat.ne_of_lt (q_1571 ▸ t_1566)
  have g_1577 : n0 ≤ a_1570 := q_1571 ▸ z_1562
  have g_1578 : h0.size ≤ a_1570 := q_1571 ▸ b_1563
  have f_1579 : Ary Z h_1569 t .char [(.int d0), (.int d1), (.int d2), (.int d3), (.int d4), (.int d5)] := f_1560.sm (Sm.ext E_1572)
  have f_1581 : Exa Z h_1569 a_1551 "java/lang/String" := A_1554.sm (Sm.ext E_1572)
  have f_1582 : Fld Z h_1569 a_1551 "java/lang/String" "value" "[B" .null := f_1567.sm (Sm.ext E_1572)
  have f_1583 : Fld Z h_1569 a_1551 "java/lang/String" "coder" "B" (.int (0 : Int32)) := f_1568.sm (Sm.ext E_1572)
  have t_1584 : t < h_1569.size := Nat.lt_of_lt_of_le t_1561 E_1572.1
  have t_1585 : a_1551 < h_1569.size := Nat.lt_of_lt_of_le t_1566 E_1572.1
  have z_1586 : n0 ≤ h_1569.size := Nat.le_trans z_1562 E_1572.1
  have b_1587 : h0.size ≤ h_1569.size := Nat.le_trans b_1563 E_1572.1
  have K_1588 : Keep h0 h_1569 [] := K_1564.ext E_1572
  have O_1589 : Old Z n0 h_1569 := O_1565.ext E_1572
  have f_1580 : Sta Z h_1569 "java/lang/String" "COMPACT_STRINGS" "Z" (.int cs) := Sta.ext O_1589.2 hSCS
  have t_1590 : a_1570 < h_1569.size := A_1573.lt
  change Ary Z h_1569 a_1570 .char [(.int (0 : Int32)), (.int (0 : Int32)), (.int (0 : Int32)), (.int (0 : Int32)), (.int (0 : Int32)), (.int (0 : Int32))] at A_1573
  refine Go.dup (pc' := 194) d1_193 rfl rfl ?_
  refine Go.iconst (pc' := 195) (v := (0 : Int32)) d1_194 rfl rfl ?_
  refine Go.aloadN (pc' := 196) d1_195 rfl rfl rfl ?_
  refine Go.iconst (pc' := 197) (v := (0 : Int32)) d1_196 rfl rfl ?_
  refine Go.ldC (pc' := 198) (k := 0) (v := (.int d0)) f_1579 rfl rfl d1_197 rfl ?_
  refine Go.stC (pc' := 199) (k := 0) A_1573 rfl (by show 0 < 6; decide) d1_198 g_1577 rfl ?_
  intro h_1591 W_1592 A_1593
  rw [nd0] at W_1592 A_1593
  have f_1594 : Ary Z h_1591 t .char [(.int d0), (.int d1), (.int d2), (.int d3), (.int d4), (.int d5)] := f_1579.sm (Sm.wr W_1592 n_1575)
  have f_1595 : Exa Z h_1591 a_1551 "java/lang/String" := f_1581.sm (Sm.wr W_1592 n_1576)
  have f_1596 : Fld Z h_1591 a_1551 "java/lang/String" "value" "[B" .null := f_1582.sm (Sm.wr W_1592 n_1576)
  have f_1597 : Fld Z h_1591 a_1551 "java/lang/String" "coder" "B" (.int (0 : Int32)) := f_1583.sm (Sm.wr W_1592 n_1576)
  have t_1599 : t < h_1591.size := Nat.lt_of_lt_of_le t_1584 (Nat.le_of_eq W_1592.size.symm)
  have t_1600 : a_1551 < h_1591.size := Nat.lt_of_lt_of_le t_1585 (Nat.le_of_eq W_1592.size.symm)
  have t_1601 : a_1570 < h_1591.size := Nat.lt_of_lt_of_le t_1590 (Nat.le_of_eq W_1592.size.symm)
  have z_1602 : n0 ≤ h_1591.size := Nat.le_trans z_1586 (Nat.le_of_eq W_1592.size.symm)
  have b_1603 : h0.size ≤ h_1591.size := Nat.le_trans b_1587 (Nat.le_of_eq W_1592.size.symm)
  have K_1604 : Keep h0 h_1591 [] := K_1588.wr W_1592 (Or.inr g_1578)
  have O_1605 : Old Z n0 h_1591 := O_1589.wr W_1592 g_1577
  have f_1598 : Sta Z h_1591 "java/lang/String" "COMPACT_STRINGS" "Z" (.int cs) := Sta.ext O_1605.2 hSCS
  change Ary Z h_1591 a_1570 .char [(.int d0), (.int (0 : Int32)), (.int (0 : Int32)), (.int (0 : Int32)), (.int (0 : Int32)), (.int (0 : Int32))] at A_1593
  refine Go.dup (pc' := 200) d1_199 rfl rfl ?_
  refine Go.iconst (pc' := 201) (v := (1 : Int32)) d1_200 rfl rfl ?_
  refine Go.aloadN (pc' := 202) d1_201 rfl rfl rfl ?_
  refine Go.iconst (pc' := 203) (v := (1 : Int32)) d1_202 rfl rfl ?_
  refine Go.ldC (pc' := 204) (k := 1) (v := (.int d1)) f_1594 rfl rfl d1_203 rfl ?_
  refine Go.stC (pc' := 205) (k := 1) A_1593 rfl (by show 1 < 6; decide) d1_204 g_1577 rfl ?_
  intro h_1606 W_1607 A_1608
  rw [nd1] at W_1607 A_1608
  have f_1609 : Ary Z h_1606 t .char [(.int d0), (.int d1), (.int d2), (.int d3), (.int d4), (.int d5)] := f_1594.sm (Sm.wr W_1607 n_1575)
  have f_1610 : Exa Z h_1606 a_1551 "java/lang/String" := f_1595.sm (Sm.wr W_1607 n_1576)
  have f_1611 : Fld Z h_1606 a_1551 "java/lang/String" "value" "[B" .null := f_1596.sm (Sm.wr W_1607 n_1576)
  have f_1612 : Fld Z h_1606 a_1551 "java/lang/String" "coder" "B" (.int (0 : Int32)) := f_1597.sm (Sm.wr W_1607 n_1576)
  have t_1614 : t < h_1606.size := Nat.lt_of_lt_of_le t_1599 (Nat.le_of_eq W_1607.size.symm)
  have t_1615 : a_1551 < h_1606.size := Nat.lt_of_lt_of_le t_1600 (Nat.le_of_eq W_1607.size.symm)
  have t_1616 : a_1570 < h_1606.size := Nat.lt_of_lt_of_le t_1601 (Nat.le_of_eq W_1607.size.symm)
  have z_1617 : n0 ≤ h_1606.size := Nat.le_trans z_1602 (Nat.le_of_eq W_1607.size.symm)
  have b_1618 : h0.size ≤ h_1606.size := Nat.le_trans b_1603 (Nat.le_of_eq W_1607.size.symm)
  have K_1619 : Keep h0 h_1606 [] := K_1604.wr W_1607 (Or.inr g_1578)
  have O_1620 : Old Z n0 h_1606 := O_1605.wr W_1607 g_1577
  have f_1613 : Sta Z h_1606 "java/lang/String" "COMPACT_STRINGS" "Z" (.int cs) := Sta.ext O_1620.2 hSCS
  change Ary Z h_1606 a_1570 .char [(.int d0), (.int d1), (.int (0 : Int32)), (.int (0 : Int32)), (.int (0 : Int32)), (.int (0 : Int32))] at A_1608
  refine Go.dup (pc' := 206) d1_205 rfl rfl ?_
  refine Go.iconst (pc' := 207) (v := (2 : Int32)) d1_206 rfl rfl ?_
  refine Go.aloadN (pc' := 208) d1_207 rfl rfl rfl ?_
  refine Go.iconst (pc' := 209) (v := (2 : Int32)) d1_208 rfl rfl ?_
  refine Go.ldC (pc' := 210) (k := 2) (v := (.int d2)) f_1609 rfl rfl d1_209 rfl ?_
  refine Go.stC (pc' := 211) (k := 2) A_1608 rfl (by show 2 < 6; decide) d1_210 g_1577 rfl ?_
  intro h_1621 W_1622 A_1623
  rw [nd2] at W_1622 A_1623
  have f_1624 : Ary Z h_1621 t .char [(.int d0), (.int d1), (.int d2), (.int d3), (.int d4), (.int d5)] := f_1609.sm (Sm.wr W_1622 n_1575)
  have f_1625 : Exa Z h_1621 a_1551 "java/lang/String" := f_1610.sm (Sm.wr W_1622 n_1576)
  have f_1626 : Fld Z h_1621 a_1551 "java/lang/String" "value" "[B" .null := f_1611.sm (Sm.wr W_1622 n_1576)
  have f_1627 : Fld Z h_1621 a_1551 "java/lang/String" "coder" "B" (.int (0 : Int32)) := f_1612.sm (Sm.wr W_1622 n_1576)
  have t_1629 : t < h_1621.size := Nat.lt_of_lt_of_le t_1614 (Nat.le_of_eq W_1622.size.symm)
  have t_1630 : a_1551 < h_1621.size := Nat.lt_of_lt_of_le t_1615 (Nat.le_of_eq W_1622.size.symm)
  have t_1631 : a_1570 < h_1621.size := Nat.lt_of_lt_of_le t_1616 (Nat.le_of_eq W_1622.size.symm)
  have z_1632 : n0 ≤ h_1621.size := Nat.le_trans z_1617 (Nat.le_of_eq W_1622.size.symm)
  have b_1633 : h0.size ≤ h_1621.size := Nat.le_trans b_1618 (Nat.le_of_eq W_1622.size.symm)
  have K_1634 : Keep h0 h_1621 [] := K_1619.wr W_1622 (Or.inr g_1578)
  have O_1635 : Old Z n0 h_1621 := O_1620.wr W_1622 g_1577
  have f_1628 : Sta Z h_1621 "java/lang/String" "COMPACT_STRINGS" "Z" (.int cs) := Sta.ext O_1635.2 hSCS
  change Ary Z h_1621 a_1570 .char [(.int d0), (.int d1), (.int d2), (.int (0 : Int32)), (.int (0 : Int32)), (.int (0 : Int32))] at A_1623
  refine Go.dup (pc' := 212) d1_211 rfl rfl ?_
  refine Go.iconst (pc' := 213) (v := (3 : Int32)) d1_212 rfl rfl ?_
  refine Go.aloadN (pc' := 214) d1_213 rfl rfl rfl ?_
  refine Go.iconst (pc' := 215) (v := (3 : Int32)) d1_214 rfl rfl ?_
  refine Go.ldC (pc' := 216) (k := 3) (v := (.int d3)) f_1624 rfl rfl d1_215 rfl ?_
  refine Go.stC (pc' := 217) (k := 3) A_1623 rfl (by show 3 < 6; decide) d1_216 g_1577 rfl ?_
  intro h_1636 W_1637 A_1638
  rw [nd3] at W_1637 A_1638
  have f_1639 : Ary Z h_1636 t .char [(.int d0), (.int d1), (.int d2), (.int d3), (.int d4), (.int d5)] := f_1624.sm (Sm.wr W_1637 n_1575)
  have f_1640 : Exa Z h_1636 a_1551 "java/lang/String" := f_1625.sm (Sm.wr W_1637 n_1576)
  have f_1641 : Fld Z h_1636 a_1551 "java/lang/String" "value" "[B" .null := f_1626.sm (Sm.wr W_1637 n_1576)
  have f_1642 : Fld Z h_1636 a_1551 "java/lang/String" "coder" "B" (.int (0 : Int32)) := f_1627.sm (Sm.wr W_1637 n_1576)
  have t_1644 : t < h_1636.size := Nat.lt_of_lt_of_le t_1629 (Nat.le_of_eq W_1637.size.symm)
  have t_1645 : a_1551 < h_1636.size := Nat.lt_of_lt_of_le t_1630 (Nat.le_of_eq W_1637.size.symm)
  have t_1646 : a_1570 < h_1636.size := Nat.lt_of_lt_of_le t_1631 (Nat.le_of_eq W_1637.size.symm)
  have z_1647 : n0 ≤ h_1636.size := Nat.le_trans z_1632 (Nat.le_of_eq W_1637.size.symm)
  have b_1648 : h0.size ≤ h_1636.size := Nat.le_trans b_1633 (Nat.le_of_eq W_1637.size.symm)
  have K_1649 : Keep h0 h_1636 [] := K_1634.wr W_1637 (Or.inr g_1578)
  have O_1650 : Old Z n0 h_1636 := O_1635.wr W_1637 g_1577
  have f_1643 : Sta Z h_1636 "java/lang/String" "COMPACT_STRINGS" "Z" (.int cs) := Sta.ext O_1650.2 hSCS
  change Ary Z h_1636 a_1570 .char [(.int d0), (.int d1), (.int d2), (.int d3), (.int (0 : Int32)), (.int (0 : Int32))] at A_1638
  refine Go.dup (pc' := 218) d1_217 rfl rfl ?_
  refine Go.iconst (pc' := 219) (v := (4 : Int32)) d1_218 rfl rfl ?_
  refine Go.aloadN (pc' := 220) d1_219 rfl rfl rfl ?_
  refine Go.iconst (pc' := 221) (v := (4 : Int32)) d1_220 rfl rfl ?_
  refine Go.ldC (pc' := 222) (k := 4) (v := (.int d4)) f_1639 rfl rfl d1_221 rfl ?_
  refine Go.stC (pc' := 223) (k := 4) A_1638 rfl (by show 4 < 6; decide) d1_222 g_1577 rfl ?_
  intro h_1651 W_1652 A_1653
  rw [nd4] at W_1652 A_1653
  have f_1654 : Ary Z h_1651 t .char [(.int d0), (.int d1), (.int d2), (.int d3), (.int d4), (.int d5)] := f_1639.sm (Sm.wr W_1652 n_1575)
  have f_1655 : Exa Z h_1651 a_1551 "java/lang/String" := f_1640.sm (Sm.wr W_1652 n_1576)
  have f_1656 : Fld Z h_1651 a_1551 "java/lang/String" "value" "[B" .null := f_1641.sm (Sm.wr W_1652 n_1576)
  have f_1657 : Fld Z h_1651 a_1551 "java/lang/String" "coder" "B" (.int (0 : Int32)) := f_1642.sm (Sm.wr W_1652 n_1576)
  have t_1659 : t < h_1651.size := Nat.lt_of_lt_of_le t_1644 (Nat.le_of_eq W_1652.size.symm)
  have t_1660 : a_1551 < h_1651.size := Nat.lt_of_lt_of_le t_1645 (Nat.le_of_eq W_1652.size.symm)
  have t_1661 : a_1570 < h_1651.size := Nat.lt_of_lt_of_le t_1646 (Nat.le_of_eq W_1652.size.symm)
  have z_1662 : n0 ≤ h_1651.size := Nat.le_trans z_1647 (Nat.le_of_eq W_1652.size.symm)
  have b_1663 : h0.size ≤ h_1651.size := Nat.le_trans b_1648 (Nat.le_of_eq W_1652.size.symm)
  have K_1664 : Keep h0 h_1651 [] := K_1649.wr W_1652 (Or.inr g_1578)
  have O_1665 : Old Z n0 h_1651 := O_1650.wr W_1652 g_1577
  have f_1658 : Sta Z h_1651 "java/lang/String" "COMPACT_STRINGS" "Z" (.int cs) := Sta.ext O_1665.2 hSCS
  change Ary Z h_1651 a_1570 .char [(.int d0), (.int d1), (.int d2), (.int d3), (.int d4), (.int (0 : Int32))] at A_1653
  refine Go.dup (pc' := 224) d1_223 rfl rfl ?_
  refine Go.iconst (pc' := 225) (v := (5 : Int32)) d1_224 rfl rfl ?_
  refine Go.aloadN (pc' := 226) d1_225 rfl rfl rfl ?_
  refine Go.iconst (pc' := 227) (v := (5 : Int32)) d1_226 rfl rfl ?_
  refine Go.ldC (pc' := 228) (k := 5) (v := (.int d5)) f_1654 rfl rfl d1_227 rfl ?_
  refine Go.stC (pc' := 229) (k := 5) A_1653 rfl (by show 5 < 6; decide) d1_228 g_1577 rfl ?_
  intro h_1666 W_1667 A_1668
  rw [nd5] at W_1667 A_1668
  have f_1669 : Ary Z h_1666 t .char [(.int d0), (.int d1), (.int d2), (.int d3), (.int d4), (.int d5)] := f_1654.sm (Sm.wr W_1667 n_1575)
  have f_1670 : Exa Z h_1666 a_1551 "java/lang/String" := f_1655.sm (Sm.wr W_1667 n_1576)
  have f_1671 : Fld Z h_1666 a_1551 "java/lang/String" "value" "[B" .null := f_1656.sm (Sm.wr W_1667 n_1576)
  have f_1672 : Fld Z h_1666 a_1551 "java/lang/String" "coder" "B" (.int (0 : Int32)) := f_1657.sm (Sm.wr W_1667 n_1576)
  have t_1674 : t < h_1666.size := Nat.lt_of_lt_of_le t_1659 (Nat.le_of_eq W_1667.size.symm)
  have t_1675 : a_1551 < h_1666.size := Nat.lt_of_lt_of_le t_1660 (Nat.le_of_eq W_1667.size.symm)
  have t_1676 : a_1570 < h_1666.size := Nat.lt_of_lt_of_le t_1661 (Nat.le_of_eq W_1667.size.symm)
  have z_1677 : n0 ≤ h_1666.size := Nat.le_trans z_1662 (Nat.le_of_eq W_1667.size.symm)
  have b_1678 : h0.size ≤ h_1666.size := Nat.le_trans b_1663 (Nat.le_of_eq W_1667.size.symm)
  have K_1679 : Keep h0 h_1666 [] := K_1664.wr W_1667 (Or.inr g_1578)
  have O_1680 : Old Z n0 h_1666 := O_1665.wr W_1667 g_1577
  have f_1673 : Sta Z h_1666 "java/lang/String" "COMPACT_STRINGS" "Z" (.int cs) := Sta.ext O_1680.2 hSCS
  change Ary Z h_1666 a_1570 .char [(.int d0), (.int d1), (.int d2), (.int d3), (.int d4), (.int d5)] at A_1668
  refine Go.callN (pc' := 232) (argsL := [(.ref a_1570)]) (rest := [(.ref a_1551)]) (W := 1) rfl (hw _ (List.mem_of_getElem? (i := 10) rfl)) (hw _ (List.mem_of_getElem? (i := 11) rfl)) (hw _ (List.mem_of_getElem? (i := 9) rfl)) (hw _ (List.mem_of_getElem? (i := 12) rfl)) (by decide) (m_s1_6 l Z a0 hw a_1551 a_1570 d0 d1 d2 d3 d4 d5 cs h_1666 n0 z_1677 O_1680 hSCS hcs f_1670 f_1671 f_1672 g_1557 A_1668 hd0 hd1 hd2 hd3 hd4 hd5 hdd0 hdd1 hdd2 hdd3 hdd4 hdd5) d1_229 rfl pd4 rfl rfl (Nat.le_of_eq rfl) (by decide) (by decide) (by decide) (by decide) rfl ?_
  rintro _ h_1681 ⟨rfl, K_1682, o, f1, lo, f2, b0, b1, b2, b3, b4, b5, A, e0, e1, e2, e3, e4, e5⟩
  have f_1683 : Ary Z h_1681 t .char [(.int d0), (.int d1), (.int d2), (.int d3), (.int d4), (.int d5)] := f_1669.sm (Sm.keep K_1682 (ninS n_1556 nin0))
  have f_1684 : Exa Z h_1681 a_1551 "java/lang/String" := f_1670.keep K_1682
  have f_1688 : Ary Z h_1681 a_1570 .char [(.int d0), (.int d1), (.int d2), (.int d3), (.int d4), (.int d5)] := A_1668.sm (Sm.keep K_1682 (ninS n_1576.symm nin0))
  have t_1689 : t < h_1681.size := Nat.lt_of_lt_of_le t_1674 K_1682.1
  have t_1690 : a_1551 < h_1681.size := Nat.lt_of_lt_of_le t_1675 K_1682.1
  have t_1691 : a_1570 < h_1681.size := Nat.lt_of_lt_of_le t_1676 K_1682.1
  have z_1692 : n0 ≤ h_1681.size := Nat.le_trans z_1677 K_1682.1
  have b_1693 : h0.size ≤ h_1681.size := Nat.le_trans b_1678 K_1682.1
  have K_1694 : Keep h0 h_1681 [] := K_1679.trans K_1682 (allS (Or.inr g_1558) all0)
  have O_1695 : Old Z n0 h_1681 := O_1680.keep K_1682 (allS g_1557 all0)
  have f_1687 : Sta Z h_1681 "java/lang/String" "COMPACT_STRINGS" "Z" (.int cs) := Sta.ext O_1695.2 hSCS
  show (Go .n l ({ frames := 6, cells := 4, slots := 28, locals := 95 } : Room) Z (⟨"com/example/consentry/consentry/authorization/CodeChallengeMethodParsePinLaw", "make", "([CI)Ljava/lang/String;"⟩ : MethodName) method_3_code 2 (some (.object "java/lang/String")) n0 4 28 (fun v h => ∃ (s o : Addr) (W : List Int32), v = some (.ref s) ∧ Keep h0 h [] ∧ W.length ≤ 6 ∧ Exa Z h s "java/lang/String" ∧ Fld Z h s "java/lang/String" "value" "[B" (.ref o) ∧ Fld Z h s "java/lang/String" "coder" "B" (.int (0 : Int32)) ∧ Ary Z h o .byte (W.map Value.int))) h_1681 (0 + 1 + 1 + 2) (0 + 4 + 6 + 18) 232 #[.val (.ref t), .val (.int (6 : Int32))] [(.ref a_1551)]
  exact Go.retA d1_232 rfl rfl rfl ⟨a_1551, o, [b0, b1, b2, b3, b4, b5], rfl, K_1694, by simp, f_1684, f1, f2, A⟩ (by decide) (by decide)
set_option maxRecDepth 65536 in
set_option maxHeartbeats 40000000 in
theorem m_e1 (l : Launch) (Z : State) (a0 : Array Value) (hw : ∀ d ∈ tables_1, d.before a0 Z = true) (o p : Addr) (U V : List Int32) (h0 : Heap) (n0 : Nat) (z0 : n0 ≤ h0.size) (hY1 : Ary Z h0 o .byte (U.map Value.int)) (hY2 : Ary Z h0 p .byte (V.map Value.int)) (hU : U.length ≤ 100) (hV : V.length ≤ 100) : Mt .n l Z (⟨"java/lang/StringLatin1", "equals", "([B[B)Z"⟩ : MethodName) jdk_43_method_13_code 3 (some .boolean) ({ frames := 0, cells := 0, slots := 0, locals := 0 } : Room) n0 (fun v h => ∃ r : Int32, v = some (.int r) ∧ h0 = h ∧ (r.toInt = 0 ∨ r.toInt = 1) ∧ (r.toInt = 1 ↔ U = V)) h0 #[(.ref o), (.ref p)] := by
  refine Mt.go (Ls := #[.val (.ref o), .val (.ref p), .unset]) (by first | exact plainFor_of_name (by decide +kernel) | decide +kernel | (simp [plainFor]; done)) (fun m => by first | (simp [entryFrame, mkF, argsToLocals, Value.category]; done) | rfl) ?_
  show (Go .n l ({ frames := 0, cells := 0, slots := 0, locals := 0 } : Room) Z (⟨"java/lang/StringLatin1", "equals", "([B[B)Z"⟩ : MethodName) jdk_43_method_13_code 3 (some .boolean) n0 0 0 (fun v h => ∃ r : Int32, v = some (.int r) ∧ h0 = h ∧ (r.toInt = 0 ∨ r.toInt = 1) ∧ (r.toInt = 1 ↔ U = V))) h0 0 0 0 #[.val (.ref o), .val (.ref p), .unset] []
  obtain ⟨z1, hz1⟩ := own_i32 U.length (by omega)
  obtain ⟨z2, hz2⟩ := own_i32 V.length (by omega)
  refine Go.aloadN (pc' := 1) d8_0 rfl rfl rfl ?_
  refine Go.alen (pc' := 2) (z := z1) hY1 (by rw [List.length_map]; exact hz1) d8_1 rfl ?_
  refine Go.aloadN (pc' := 3) d8_2 rfl rfl rfl ?_
  refine Go.alen (pc' := 4) (z := z2) hY2 (by rw [List.length_map]; exact hz2) d8_3 rfl ?_
  refine Go.icmp (pc1 := 34) (pc2 := 7) d8_4 (by decide) (by decide) rfl (fun (c_1696 : z1.toInt ≠ z2.toInt) => ?_) (fun (c_1696 : z1.toInt = z2.toInt) => ?_)
  · refine Go.iconst (pc' := 35) (v := (0 : Int32)) d8_34 rfl rfl ?_
    exact Go.retN (t := .boolean) d8_35 rfl (by simp) rfl ⟨_, rfl, rfl, Or.inl rfl, ⟨fun z => absurd z (by decide), fun z => absurd z (fun q => by rw [q] at hz1; omega)⟩⟩ (by decide) (by decide)
  · have hl : U.length = V.length := by omega
    refine Go.iconst (pc' := 8) (v := (0 : Int32)) d8_7 rfl rfl ?_
    refine Go.istoreN (pc' := 9) (Ls' := #[.val (.ref o), .val (.ref p), .val (.int (0 : Int32))]) d8_8 rfl rfl ?_
    have lp : ∀ (m i : Nat) (i2 : Int32), i2.toInt = (i : Int) → i + m = U.length → (∀ t, t < i → U[t]? = V[t]?) → (Go .n l ({ frames := 0, cells := 0, slots := 0, locals := 0 } : Room) Z (⟨"java/lang/StringLatin1", "equals", "([B[B)Z"⟩ : MethodName) jdk_43_method_13_code 3 (some .boolean) n0 0 0 (fun v h => ∃ r : Int32, v = some (.int r) ∧ h0 = h ∧ (r.toInt = 0 ∨ r.toInt = 1) ∧ (r.toInt = 1 ↔ U = V))) h0 0 0 9 #[.val (.ref o), .val (.ref p), .val (.int i2)] [] := by
      intro m
      induction m with
      | zero =>
        intro i i2 g1 g2 g3
        refine Go.iloadN (pc' := 10) d8_9 rfl rfl ?_
        refine Go.aloadN (pc' := 11) d8_10 rfl rfl rfl ?_
        refine Go.alen (pc' := 12) (z := z1) hY1 (by rw [List.length_map]; exact hz1) d8_11 rfl ?_
        refine Go.icmp (pc1 := 32) (pc2 := 15) d8_12 (by decide) (by decide) rfl (fun (c_1697 : z1.toInt ≤ i2.toInt) => ?_) (fun (c_1697 : i2.toInt < z1.toInt) => ?_)
        rotate_left
        · exfalso; omega
        refine Go.iconst (pc' := 33) (v := (1 : Int32)) d8_32 rfl rfl ?_
        exact Go.retN (t := .boolean) d8_33 rfl (by simp) rfl ⟨_, rfl, rfl, Or.inr rfl, ⟨fun _ => own_ext hl (fun t ht => g3 t (by omega)), fun _ => rfl⟩⟩ (by decide) (by decide)
      | succ m ih =>
        intro i i2 g1 g2 g3
        obtain ⟨x, hx⟩ : ∃ x, U[i]? = some x := ⟨_, List.getElem?_eq_getElem (by omega)⟩
        obtain ⟨y, hy⟩ : ∃ y, V[i]? = some y := ⟨_, List.getElem?_eq_getElem (by omega)⟩
        refine Go.iloadN (pc' := 10) d8_9 rfl rfl ?_
        refine Go.aloadN (pc' := 11) d8_10 rfl rfl rfl ?_
        refine Go.alen (pc' := 12) (z := z1) hY1 (by rw [List.length_map]; exact hz1) d8_11 rfl ?_
        refine Go.icmp (pc1 := 32) (pc2 := 15) d8_12 (by decide) (by decide) rfl (fun (c_1698 : z1.toInt ≤ i2.toInt) => ?_) (fun (c_1698 : i2.toInt < z1.toInt) => ?_)
        · exfalso; omega
        refine Go.aloadN (pc' := 16) d8_15 rfl rfl rfl ?_
        refine Go.iloadN (pc' := 17) d8_16 rfl rfl ?_
        refine Go.ldB (pc' := 18) (k := i) (v := (.int x)) hY1 g1 (by rw [List.getElem?_map, hx]; rfl) d8_17 rfl ?_
        refine Go.aloadN (pc' := 19) d8_18 rfl rfl rfl ?_
        refine Go.iloadN (pc' := 20) d8_19 rfl rfl ?_
        refine Go.ldB (pc' := 21) (k := i) (v := (.int y)) hY2 g1 (by rw [List.getElem?_map, hy]; rfl) d8_20 rfl ?_
        refine Go.icmp (pc1 := 26) (pc2 := 24) d8_21 (by decide) (by decide) rfl (fun (c_1699 : x.toInt = y.toInt) => ?_) (fun (c_1699 : x.toInt ≠ y.toInt) => ?_)
        · have exy : x = y := Int32.toInt_inj.mp c_1699
          have e1 : (i2 + (1 : Int32)).toInt = ((i + 1 : Nat) : Int) := by
            have := c_iadd i2 (1 : Int32)
            have := rng32 (i2 + (1 : Int32))
            have o1 : (1 : Int32).toInt = 1 := rfl
            omega
          refine Go.iinc (pc' := 29) (w := i2 + (1 : Int32)) (Ls' := #[.val (.ref o), .val (.ref p), .val (.int (i2 + (1 : Int32)))]) d8_26 rfl rfl rfl rfl ?_
          refine Go.goto (pc' := 9) d8_29 (by decide) (by decide) ?_
          exact ih (i + 1) _ e1 (by omega) (fun t ht => by
            rcases (by omega : t < i ∨ t = i) with q | rfl
            · exact g3 t q
            · rw [hx, hy, exy])
        · refine Go.iconst (pc' := 25) (v := (0 : Int32)) d8_24 rfl rfl ?_
          exact Go.retN (t := .boolean) d8_25 rfl (by simp) rfl ⟨_, rfl, rfl, Or.inl rfl, ⟨fun z => absurd z (by decide), fun z => absurd z (fun q => c_1699 (by rw [q, hy] at hx; rw [Option.some.inj hx]))⟩⟩ (by decide) (by decide)
    exact lp U.length 0 _ rfl (by omega) (fun t ht => absurd ht (Nat.not_lt_zero _))
set_option maxRecDepth 65536 in
set_option maxHeartbeats 40000000 in
theorem m_eq (l : Launch) (Z : State) (a0 : Array Value) (hw : ∀ d ∈ tables_1, d.before a0 Z = true) (a o b p : Addr) (U V : List Int32) (cs : Int32) (h0 : Heap) (n0 : Nat) (z0 : n0 ≤ h0.size) (hO : Old Z n0 h0) (hSCS : Sta Z Z.heap "java/lang/String" "COMPACT_STRINGS" "Z" (.int cs)) (hcs : cs.toInt ≠ 0) (hX1 : Exa Z h0 a "java/lang/String") (hV1 : Fld Z h0 a "java/lang/String" "value" "[B" (.ref o)) (hC1 : Fld Z h0 a "java/lang/String" "coder" "B" (.int (0 : Int32))) (hY1 : Ary Z h0 o .byte (U.map Value.int)) (hX2 : Exa Z h0 b "java/lang/String") (hV2 : Fld Z h0 b "java/lang/String" "value" "[B" (.ref p)) (hC2 : Fld Z h0 b "java/lang/String" "coder" "B" (.int (0 : Int32))) (hY2 : Ary Z h0 p .byte (V.map Value.int)) (hU : U.length ≤ 100) (hV : V.length ≤ 100) : Mt .n l Z (⟨"java/lang/String", "equals", "(Ljava/lang/Object;)Z"⟩ : MethodName) jdk_42_method_66_code 3 (some .boolean) ({ frames := 1, cells := 0, slots := 0, locals := 16 } : Room) n0 (fun v h => ∃ r : Int32, v = some (.int r) ∧ h0 = h ∧ (r.toInt = 0 ∨ r.toInt = 1) ∧ (r.toInt = 1 ↔ U = V)) h0 #[(.ref a), (.ref b)] := by
  refine Mt.go (Ls := #[.val (.ref a), .val (.ref b), .unset]) (by first | exact plainFor_of_name (by decide +kernel) | decide +kernel | (simp [plainFor]; done)) (fun m => by first | (simp [entryFrame, mkF, argsToLocals, Value.category]; done) | rfl) ?_
  show (Go .n l ({ frames := 1, cells := 0, slots := 0, locals := 16 } : Room) Z (⟨"java/lang/String", "equals", "(Ljava/lang/Object;)Z"⟩ : MethodName) jdk_42_method_66_code 3 (some .boolean) n0 0 0 (fun v h => ∃ r : Int32, v = some (.int r) ∧ h0 = h ∧ (r.toInt = 0 ∨ r.toInt = 1) ∧ (r.toInt = 1 ↔ U = V))) h0 0 0 0 #[.val (.ref a), .val (.ref b), .unset] []
  have hTCS : Sta Z h0 "java/lang/String" "COMPACT_STRINGS" "Z" (.int cs) := Sta.ext hO.2 hSCS
  have n_1700 : a ≠ o := by obtain ⟨_, Ag, -⟩ := hY1; exact ne_arr hX1 (hw _ (List.mem_of_getElem? (i := 8) rfl)) Ag
  have n_1701 : a ≠ p := by obtain ⟨_, Ag, -⟩ := hY2; exact ne_arr hX1 (hw _ (List.mem_of_getElem? (i := 8) rfl)) Ag
  have n_1702 : b ≠ p := by obtain ⟨_, Ag, -⟩ := hY2; exact ne_arr hX2 (hw _ (List.mem_of_getElem? (i := 8) rfl)) Ag
  refine Go.aloadN (pc' := 1) d7_0 rfl rfl rfl ?_
  refine Go.aloadN (pc' := 2) d7_1 rfl rfl rfl ?_
  refine Go.acmp (pc1 := 5) (pc2 := 7) d7_2 rfl rfl (by decide) (by decide) (by decide) (fun (c_1703 : ((.ref a) : Value) = (.ref b)) => ?_) (fun (c_1703 : ((.ref a) : Value) ≠ (.ref b)) => ?_)
  · refine Go.iconst (pc' := 6) (v := (1 : Int32)) d7_5 rfl rfl ?_
    obtain rfl : a = b := Value.ref.inj c_1703
    obtain rfl : o = p := Value.ref.inj (own_fld_inj hV1 hV2)
    exact Go.retN (t := .boolean) d7_6 rfl (by simp) rfl ⟨_, rfl, rfl, Or.inr rfl, ⟨fun _ => own_map_inj (own_ary_inj hY1 hY2), fun _ => rfl⟩⟩ (by decide) (by decide)
  · refine Go.aloadN (pc' := 8) d7_7 rfl rfl rfl ?_
    refine Go.instYes (pc' := 11) (hw _ (List.mem_of_getElem? (i := 56) rfl)) (Ins.self hX2) d7_8 rfl ?_
    show (Go .n l ({ frames := 1, cells := 0, slots := 0, locals := 16 } : Room) Z (⟨"java/lang/String", "equals", "(Ljava/lang/Object;)Z"⟩ : MethodName) jdk_42_method_66_code 3 (some .boolean) n0 0 0 (fun v h => ∃ r : Int32, v = some (.int r) ∧ h0 = h ∧ (r.toInt = 0 ∨ r.toInt = 1) ∧ (r.toInt = 1 ↔ U = V))) h0 0 0 11 #[.val (.ref a), .val (.ref b), .unset] [(.int (1 : Int32))]
    refine Go.ifc (pc1 := 54) (pc2 := 14) d7_11 (by decide) (by decide) rfl (fun (c_1704 : (1 : Int) = 0) => ?_) (fun (c_1704 : (1 : Int) ≠ 0) => ?_)
    · exact absurd c_1704 (by decide)
    refine Go.aloadN (pc' := 15) d7_14 rfl rfl rfl ?_
    refine Go.castTo (pc' := 18) (hw _ (List.mem_of_getElem? (i := 56) rfl)) (Ins.self hX2) d7_15 rfl ?_
    refine Go.astoreN (pc' := 19) (Ls' := #[.val (.ref a), .val (.ref b), .val (.ref b)]) d7_18 rfl rfl rfl ?_
    refine Go.getS (pc' := 22) (hw _ (List.mem_of_getElem? (i := 57) rfl)) hTCS d7_19 rfl ?_
    refine Go.ifc (pc1 := 36) (pc2 := 25) d7_22 (by decide) (by decide) rfl (fun (c_1705 : cs.toInt = 0) => ?_) (fun (c_1705 : cs.toInt ≠ 0) => ?_)
    · exact absurd c_1705 hcs
    refine Go.aloadN (pc' := 26) d7_25 rfl rfl rfl ?_
    refine Go.getF (pc' := 29) (hw _ (List.mem_of_getElem? (i := 27) rfl)) hC1 d7_26 rfl ?_
    refine Go.aloadN (pc' := 30) d7_29 rfl rfl rfl ?_
    refine Go.getF (pc' := 33) (hw _ (List.mem_of_getElem? (i := 27) rfl)) hC2 d7_30 rfl ?_
    refine Go.icmp (pc1 := 54) (pc2 := 36) d7_33 (by decide) (by decide) rfl (fun (c_1706 : (0 : Int) ≠ (0 : Int)) => ?_) (fun (c_1706 : (0 : Int) = (0 : Int)) => ?_)
    · exact absurd c_1706 (by decide)
    refine Go.aloadN (pc' := 37) d7_36 rfl rfl rfl ?_
    refine Go.getF (pc' := 40) (hw _ (List.mem_of_getElem? (i := 26) rfl)) hV1 d7_37 rfl ?_
    refine Go.aloadN (pc' := 41) d7_40 rfl rfl rfl ?_
    refine Go.getF (pc' := 44) (hw _ (List.mem_of_getElem? (i := 26) rfl)) hV2 d7_41 rfl ?_
    refine Go.callS (pc' := 47) (argsL := [(.ref o), (.ref p)]) (rest := []) (W := 0) (hw _ (List.mem_of_getElem? (i := 58) rfl)) (hw _ (List.mem_of_getElem? (i := 59) rfl)) (hw _ (List.mem_of_getElem? (i := 60) rfl)) (hw _ (List.mem_of_getElem? (i := 61) rfl)) (by decide) (m_e1 l Z a0 hw o p U V h0 n0 z0 hY1 hY2 hU hV) d7_44 rfl pd5 rfl rfl (Nat.le_of_eq rfl) (by decide) (by decide) (by decide) (by decide) rfl ?_
    rintro _ _ ⟨r, rfl, rfl, hr, hr2⟩
    show (Go .n l ({ frames := 1, cells := 0, slots := 0, locals := 16 } : Room) Z (⟨"java/lang/String", "equals", "(Ljava/lang/Object;)Z"⟩ : MethodName) jdk_42_method_66_code 3 (some .boolean) n0 0 0 (fun v h => ∃ r : Int32, v = some (.int r) ∧ h0 = h ∧ (r.toInt = 0 ∨ r.toInt = 1) ∧ (r.toInt = 1 ↔ U = V))) h0 (0 + 0) (0 + 0) 47 #[.val (.ref a), .val (.ref b), .val (.ref b)] [(.int r)]
    refine Go.ifc (pc1 := 54) (pc2 := 50) d7_47 (by decide) (by decide) rfl (fun (c_1707 : r.toInt = 0) => ?_) (fun (c_1707 : r.toInt ≠ 0) => ?_)
    · refine Go.iconst (pc' := 55) (v := (0 : Int32)) d7_54 rfl rfl ?_
      exact Go.retN (t := .boolean) d7_55 rfl (by simp) rfl ⟨_, rfl, rfl, Or.inl rfl, ⟨fun z => absurd z (by decide), fun z => absurd (hr2.mpr z) (by omega)⟩⟩ (by decide) (by decide)
    · refine Go.iconst (pc' := 51) (v := (1 : Int32)) d7_50 rfl rfl ?_
      refine Go.goto (pc' := 55) d7_51 (by decide) (by decide) ?_
      exact Go.retN (t := .boolean) d7_55 rfl (by simp) rfl ⟨_, rfl, rfl, Or.inr rfl, ⟨fun _ => hr2.mp (by omega), fun _ => rfl⟩⟩ (by decide) (by decide)
set_option maxRecDepth 65536 in
set_option maxHeartbeats 40000000 in
theorem m_eqn (l : Launch) (Z : State) (a0 : Array Value) (hw : ∀ d ∈ tables_1, d.before a0 Z = true) (a : Addr) (h0 : Heap) (n0 : Nat) (z0 : n0 ≤ h0.size)  : Mt .n l Z (⟨"java/lang/String", "equals", "(Ljava/lang/Object;)Z"⟩ : MethodName) jdk_42_method_66_code 3 (some .boolean) ({ frames := 0, cells := 0, slots := 0, locals := 0 } : Room) n0 (fun v h => v = some (.int (0 : Int32)) ∧ h0 = h) h0 #[(.ref a), .null] := by
  refine Mt.go (Ls := #[.val (.ref a), .val .null, .unset]) (by first | exact plainFor_of_name (by decide +kernel) | decide +kernel | (simp [plainFor]; done)) (fun m => by first | (simp [entryFrame, mkF, argsToLocals, Value.category]; done) | rfl) ?_
  show (Go .n l ({ frames := 0, cells := 0, slots := 0, locals := 0 } : Room) Z (⟨"java/lang/String", "equals", "(Ljava/lang/Object;)Z"⟩ : MethodName) jdk_42_method_66_code 3 (some .boolean) n0 0 0 (fun v h => v = some (.int (0 : Int32)) ∧ h0 = h)) h0 0 0 0 #[.val (.ref a), .val .null, .unset] []
  refine Go.aloadN (pc' := 1) d7_0 rfl rfl rfl ?_
  refine Go.aloadN (pc' := 2) d7_1 rfl rfl rfl ?_
  refine Go.acmp (pc1 := 5) (pc2 := 7) d7_2 rfl rfl (by decide) (by decide) (by decide) (fun (c_1708 : ((.ref a) : Value) = .null) => ?_) (fun (c_1708 : ((.ref a) : Value) ≠ .null) => ?_)
  · exact absurd c_1708 (fun q => by cases q)
  · refine Go.aloadN (pc' := 8) d7_7 rfl rfl rfl ?_
    refine Go.instNull (pc' := 11) d7_8 rfl ?_
    show (Go .n l ({ frames := 0, cells := 0, slots := 0, locals := 0 } : Room) Z (⟨"java/lang/String", "equals", "(Ljava/lang/Object;)Z"⟩ : MethodName) jdk_42_method_66_code 3 (some .boolean) n0 0 0 (fun v h => v = some (.int (0 : Int32)) ∧ h0 = h)) h0 0 0 11 #[.val (.ref a), .val .null, .unset] [(.int (0 : Int32))]
    refine Go.ifc (pc1 := 54) (pc2 := 14) d7_11 (by decide) (by decide) rfl (fun (c_1709 : (0 : Int) = 0) => ?_) (fun (c_1709 : (0 : Int) ≠ 0) => ?_)
    rotate_left
    · exact absurd c_1709 (by decide)
    refine Go.iconst (pc' := 55) (v := (0 : Int32)) d7_54 rfl rfl ?_
    exact Go.retN (t := .boolean) d7_55 rfl (by simp) rfl ⟨rfl, rfl⟩ (by decide) (by decide)
set_option maxRecDepth 65536 in
set_option maxHeartbeats 40000000 in
theorem m_vl (l : Launch) (Z : State) (a0 : Array Value) (hw : ∀ d ∈ tables_1, d.before a0 Z = true) (b u0 u1 : Addr) (h0 : Heap) (n0 : Nat) (z0 : n0 ≤ h0.size) (hSV : Sta Z h0 "com/example/consentry/consentry/authorization/CodeChallengeMethod" "$VALUES" "[Lcom/example/consentry/consentry/authorization/CodeChallengeMethod;" (.ref b)) (hAV : Ary Z h0 b (.object "com/example/consentry/consentry/authorization/CodeChallengeMethod") [.ref u0, .ref u1]) (hEV : Exa Z h0 b "[Lcom/example/consentry/consentry/authorization/CodeChallengeMethod;") : Mt .n l Z (⟨"com/example/consentry/consentry/authorization/CodeChallengeMethod", "values", "()[Lcom/example/consentry/consentry/authorization/CodeChallengeMethod;"⟩ : MethodName) prog_2_method_1_code 0 (some (.array (.object "com/example/consentry/consentry/authorization/CodeChallengeMethod"))) ({ frames := 1, cells := 1, slots := 2, locals := 20 } : Room) n0 (fun v h => ∃ q, v = some (.ref q) ∧ Keep h0 h [] ∧ Ary Z h q (.object "com/example/consentry/consentry/authorization/CodeChallengeMethod") [.ref u0, .ref u1]) h0 #[] := by
  refine Mt.go (Ls := #[]) (plainFor_of_name pn1) (fun m => by first | (simp [entryFrame, mkF, argsToLocals, Value.category]; done) | rfl) ?_
  show (Go .n l ({ frames := 1, cells := 1, slots := 2, locals := 20 } : Room) Z (⟨"com/example/consentry/consentry/authorization/CodeChallengeMethod", "values", "()[Lcom/example/consentry/consentry/authorization/CodeChallengeMethod;"⟩ : MethodName) prog_2_method_1_code 0 (some (.array (.object "com/example/consentry/consentry/authorization/CodeChallengeMethod"))) n0 1 2 (fun v h => ∃ q, v = some (.ref q) ∧ Keep h0 h [] ∧ Ary Z h q (.object "com/example/consentry/consentry/authorization/CodeChallengeMethod") [.ref u0, .ref u1])) h0 0 0 0 #[] []
  refine Go.getS (pc' := 3) (hw _ (List.mem_of_getElem? (i := 35) rfl)) hSV d6_0 rfl ?_
  refine Go.clone (pc' := 6) (ad := "[Lcom/example/consentry/consentry/authorization/CodeChallengeMethod;") (W := 0) (cap := 2) (hw _ (List.mem_of_getElem? (i := 37) rfl)) (hw _ (List.mem_of_getElem? (i := 38) rfl)) (hw _ (List.mem_of_getElem? (i := 42) rfl)) (hw _ (List.mem_of_getElem? (i := 40) rfl)) (hw _ (List.mem_of_getElem? (i := 41) rfl)) (hw _ (List.mem_of_getElem? (i := 43) rfl)) hAV hEV (by intro v hv; simp only [List.mem_cons, List.not_mem_nil, or_false] at hv; rcases hv with rfl | rfl <;> rfl) d6_3 rfl (by decide) (Nat.le_of_eq rfl) (by decide) (Nat.le_of_eq rfl) (by decide) (by decide) rfl ?_
  intro h_1710 a_1711 q_1712 E_1713 A_1714 X_1715
  have n_1716 : b ≠ a_1711 := Nat.ne_of_lt (q_1712 ▸ hAV.lt)
  have g_1717 : n0 ≤ a_1711 := q_1712 ▸ z0
  have g_1718 : h0.size ≤ a_1711 := q_1712 ▸ (Nat.le_refl _)
  have f_1720 : Ary Z h_1710 b (.object "com/example/consentry/consentry/authorization/CodeChallengeMethod") [(.ref u0), (.ref u1)] := hAV.sm (Sm.ext E_1713)
  have f_1721 : Exa Z h_1710 b "[Lcom/example/consentry/consentry/authorization/CodeChallengeMethod;" := hEV.sm (Sm.ext E_1713)
  have t_1722 : b < h_1710.size := Nat.lt_of_lt_of_le hAV.lt E_1713.1
  have z_1723 : n0 ≤ h_1710.size := Nat.le_trans z0 E_1713.1
  have b_1724 : h0.size ≤ h_1710.size := Nat.le_trans (Nat.le_refl _) E_1713.1
  have K_1725 : Keep h0 h_1710 [] := (Keep.refl _ _).ext E_1713
  have f_1719 : Sta Z h_1710 "com/example/consentry/consentry/authorization/CodeChallengeMethod" "$VALUES" "[Lcom/example/consentry/consentry/authorization/CodeChallengeMethod;" (.ref b) := Sta.ext E_1713 hSV
  have t_1726 : a_1711 < h_1710.size := A_1714.lt
  refine Go.castTo (pc' := 9) (hw _ (List.mem_of_getElem? (i := 47) rfl)) (Ins.self X_1715) d6_6 rfl ?_
  exact Go.retA d6_9 rfl rfl rfl ⟨a_1711, rfl, K_1725, A_1714⟩ (by decide) (by decide)
set_option maxRecDepth 65536 in
set_option maxHeartbeats 40000000 in
theorem m_ps0 (l : Launch) (Z : State) (a0 : Array Value) (hw : ∀ d ∈ tables_1, d.before a0 Z = true) (b u0 u1 p0 p1 y0 y1 : Addr) (cs : Int32) (h0 : Heap) (n0 : Nat) (z0 : n0 ≤ h0.size) (hO : Old Z n0 h0) (hSCS : Sta Z Z.heap "java/lang/String" "COMPACT_STRINGS" "Z" (.int cs)) (hcs : cs.toInt ≠ 0) (hSV : Sta Z h0 "com/example/consentry/consentry/authorization/CodeChallengeMethod" "$VALUES" "[Lcom/example/consentry/consentry/authorization/CodeChallengeMethod;" (.ref b)) (hAV : Ary Z h0 b (.object "com/example/consentry/consentry/authorization/CodeChallengeMethod") [.ref u0, .ref u1]) (hEV : Exa Z h0 b "[Lcom/example/consentry/consentry/authorization/CodeChallengeMethod;") (hU0 : Exa Z h0 u0 "com/example/consentry/consentry/authorization/CodeChallengeMethod") (hF0 : Fld Z h0 u0 "com/example/consentry/consentry/authorization/CodeChallengeMethod" "spelling" "Ljava/lang/String;" (.ref p0)) (hXp0 : Exa Z h0 p0 "java/lang/String") (hVp0 : Fld Z h0 p0 "java/lang/String" "value" "[B" (.ref y0)) (hCp0 : Fld Z h0 p0 "java/lang/String" "coder" "B" (.int (0 : Int32))) (hYp0 : Ary Z h0 y0 .byte (own_pl.map Value.int)) (hU1 : Exa Z h0 u1 "com/example/consentry/consentry/authorization/CodeChallengeMethod") (hF1 : Fld Z h0 u1 "com/example/consentry/consentry/authorization/CodeChallengeMethod" "spelling" "Ljava/lang/String;" (.ref p1)) (hXp1 : Exa Z h0 p1 "java/lang/String") (hVp1 : Fld Z h0 p1 "java/lang/String" "value" "[B" (.ref y1)) (hCp1 : Fld Z h0 p1 "java/lang/String" "coder" "B" (.int (0 : Int32))) (hYp1 : Ary Z h0 y1 .byte (own_sb.map Value.int)) : Mt .n l Z (⟨"com/example/consentry/consentry/authorization/CodeChallengeMethod", "parse", "(Ljava/lang/String;)Lcom/example/consentry/consentry/authorization/CodeChallengeMethod;"⟩ : MethodName) prog_2_method_4_code 5 (some (.object "com/example/consentry/consentry/authorization/CodeChallengeMethod")) ({ frames := 2, cells := 1, slots := 2, locals := 36 } : Room) n0 (fun v h => ∃ v1 : Value, v = some v1 ∧ Keep h0 h [] ∧ (v1 = .null)) h0 #[.null] := by
  refine Mt.go (Ls := #[.val .null, .unset, .unset, .unset, .unset]) (plainFor_of_name pn1) (fun m => by first | (simp [entryFrame, mkF, argsToLocals, Value.category]; done) | rfl) ?_
  show (Go .n l ({ frames := 2, cells := 1, slots := 2, locals := 36 } : Room) Z (⟨"com/example/consentry/consentry/authorization/CodeChallengeMethod", "parse", "(Ljava/lang/String;)Lcom/example/consentry/consentry/authorization/CodeChallengeMethod;"⟩ : MethodName) prog_2_method_4_code 5 (some (.object "com/example/consentry/consentry/authorization/CodeChallengeMethod")) n0 1 2 (fun v h => ∃ v1 : Value, v = some v1 ∧ Keep h0 h [] ∧ (v1 = .null))) h0 0 0 0 #[.val .null, .unset, .unset, .unset, .unset] []
  have hTCS : Sta Z h0 "java/lang/String" "COMPACT_STRINGS" "Z" (.int cs) := Sta.ext hO.2 hSCS
  refine Go.callS (pc' := 3) (argsL := []) (rest := []) (W := 0) (hw _ (List.mem_of_getElem? (i := 32) rfl)) (hw _ (List.mem_of_getElem? (i := 33) rfl)) (hw _ (List.mem_of_getElem? (i := 30) rfl)) (hw _ (List.mem_of_getElem? (i := 34) rfl)) (by decide) (m_vl l Z a0 hw b u0 u1 h0 n0 z0 hSV hAV hEV) d5_0 rfl pd6 rfl rfl (Nat.le_of_eq rfl) (by decide) (by decide) (by decide) (by decide) rfl ?_
  rintro _ h_1727 ⟨q_1728, rfl, K_1729, A_1730⟩
  have f_1732 : Ary Z h_1727 b (.object "com/example/consentry/consentry/authorization/CodeChallengeMethod") [(.ref u0), (.ref u1)] := hAV.sm (Sm.keep K_1729 nin0)
  have f_1733 : Exa Z h_1727 b "[Lcom/example/consentry/consentry/authorization/CodeChallengeMethod;" := hEV.sm (Sm.keep K_1729 nin0)
  have f_1734 : Exa Z h_1727 u0 "com/example/consentry/consentry/authorization/CodeChallengeMethod" := hU0.sm (Sm.keep K_1729 nin0)
  have f_1735 : Fld Z h_1727 u0 "com/example/consentry/consentry/authorization/CodeChallengeMethod" "spelling" "Ljava/lang/String;" (.ref p0) := hF0.sm (Sm.keep K_1729 nin0)
  have f_1736 : Exa Z h_1727 p0 "java/lang/String" := hXp0.sm (Sm.keep K_1729 nin0)
  have f_1737 : Fld Z h_1727 p0 "java/lang/String" "value" "[B" (.ref y0) := hVp0.sm (Sm.keep K_1729 nin0)
  have f_1738 : Fld Z h_1727 p0 "java/lang/String" "coder" "B" (.int (0 : Int32)) := hCp0.sm (Sm.keep K_1729 nin0)
  have f_1739 : Ary Z h_1727 y0 .byte (own_pl.map Value.int) := hYp0.sm (Sm.keep K_1729 nin0)
  have f_1740 : Exa Z h_1727 u1 "com/example/consentry/consentry/authorization/CodeChallengeMethod" := hU1.sm (Sm.keep K_1729 nin0)
  have f_1741 : Fld Z h_1727 u1 "com/example/consentry/consentry/authorization/CodeChallengeMethod" "spelling" "Ljava/lang/String;" (.ref p1) := hF1.sm (Sm.keep K_1729 nin0)
  have f_1742 : Exa Z h_1727 p1 "java/lang/String" := hXp1.sm (Sm.keep K_1729 nin0)
  have f_1743 : Fld Z h_1727 p1 "java/lang/String" "value" "[B" (.ref y1) := hVp1.sm (Sm.keep K_1729 nin0)
  have f_1744 : Fld Z h_1727 p1 "java/lang/String" "coder" "B" (.int (0 : Int32)) := hCp1.sm (Sm.keep K_1729 nin0)
  have f_1745 : Ary Z h_1727 y1 .byte (own_sb.map Value.int) := hYp1.sm (Sm.keep K_1729 nin0)
  have t_1746 : b < h_1727.size := Nat.lt_of_lt_of_le hAV.lt K_1729.1
  have t_1747 : u0 < h_1727.size := Nat.lt_of_lt_of_le hU0.lt K_1729.1
  have t_1748 : p0 < h_1727.size := Nat.lt_of_lt_of_le hXp0.lt K_1729.1
  have t_1749 : y0 < h_1727.size := Nat.lt_of_lt_of_le hYp0.lt K_1729.1
  have t_1750 : u1 < h_1727.size := Nat.lt_of_lt_of_le hU1.lt K_1729.1
  have t_1751 : p1 < h_1727.size := Nat.lt_of_lt_of_le hXp1.lt K_1729.1
  have t_1752 : y1 < h_1727.size := Nat.lt_of_lt_of_le hYp1.lt K_1729.1
  have z_1753 : n0 ≤ h_1727.size := Nat.le_trans z0 K_1729.1
  have b_1754 : h0.size ≤ h_1727.size := Nat.le_trans (Nat.le_refl _) K_1729.1
  have K_1755 : Keep h0 h_1727 [] := (Keep.refl _ _).trans K_1729 all0
  have O_1756 : Old Z n0 h_1727 := hO.keep K_1729 all0
  have f_1731 : Sta Z h_1727 "java/lang/String" "COMPACT_STRINGS" "Z" (.int cs) := Sta.ext O_1756.2 hSCS
  show (Go .n l ({ frames := 2, cells := 1, slots := 2, locals := 36 } : Room) Z (⟨"com/example/consentry/consentry/authorization/CodeChallengeMethod", "parse", "(Ljava/lang/String;)Lcom/example/consentry/consentry/authorization/CodeChallengeMethod;"⟩ : MethodName) prog_2_method_4_code 5 (some (.object "com/example/consentry/consentry/authorization/CodeChallengeMethod")) n0 1 2 (fun v h => ∃ v1 : Value, v = some v1 ∧ Keep h0 h [] ∧ (v1 = .null))) h_1727 (0 + 1) (0 + 2) 3 #[.val .null, .unset, .unset, .unset, .unset] [(.ref q_1728)]
  refine Go.astoreN (pc' := 4) (Ls' := #[.val .null, .val (.ref q_1728), .unset, .unset, .unset]) d5_3 rfl rfl rfl ?_
  refine Go.aloadN (pc' := 5) d5_4 rfl rfl rfl ?_
  refine Go.alen (pc' := 6) (z := (2 : Int32)) A_1730 rfl d5_5 rfl ?_
  refine Go.istoreN (pc' := 7) (Ls' := #[.val .null, .val (.ref q_1728), .val (.int (2 : Int32)), .unset, .unset]) d5_6 rfl rfl ?_
  refine Go.iconst (pc' := 8) (v := (0 : Int32)) d5_7 rfl rfl ?_
  refine Go.istoreN (pc' := 9) (Ls' := #[.val .null, .val (.ref q_1728), .val (.int (2 : Int32)), .val (.int (0 : Int32)), .unset]) d5_8 rfl rfl ?_
  refine Go.iloadN (pc' := 10) d5_9 rfl rfl ?_
  refine Go.iloadN (pc' := 11) d5_10 rfl rfl ?_
  refine Go.icmp (pc1 := 40) (pc2 := 14) d5_11 (by decide) (by decide) rfl (fun (c_1757 : (2 : Int) ≤ (0 : Int)) => ?_) (fun (c_1757 : (0 : Int) < (2 : Int)) => ?_)
  · exact absurd c_1757 (by decide)
  refine Go.aloadN (pc' := 15) d5_14 rfl rfl rfl ?_
  refine Go.iloadN (pc' := 16) d5_15 rfl rfl ?_
  refine Go.ldA (pc' := 17) (k := 0) (v := (.ref u0)) A_1730 rfl rfl rfl d5_16 rfl ?_
  refine Go.astore (pc' := 19) (Ls' := #[.val .null, .val (.ref q_1728), .val (.int (2 : Int32)), .val (.int (0 : Int32)), .val (.ref u0)]) d5_17 rfl rfl rfl ?_
  refine Go.aload (pc' := 21) d5_19 rfl rfl rfl ?_
  refine Go.getF (pc' := 24) (hw _ (List.mem_of_getElem? (i := 49) rfl)) f_1735 d5_21 rfl ?_
  refine Go.aloadN (pc' := 25) d5_24 rfl rfl rfl ?_
  refine Go.callV (pc' := 28) (argsL := [.null]) (rest := []) (W := 0) (hw _ (List.mem_of_getElem? (i := 51) rfl)) (hw _ (List.mem_of_getElem? (i := 52) rfl)) (hw _ (List.mem_of_getElem? (i := 54) rfl)) (hw _ (List.mem_of_getElem? (i := 53) rfl)) (hw _ (List.mem_of_getElem? (i := 9) rfl)) (hw _ (List.mem_of_getElem? (i := 55) rfl)) (by decide) f_1736 (m_eqn l Z a0 hw p0 h_1727 n0 z_1753) d5_25 rfl pd7 rfl rfl (Nat.le_of_eq rfl) (by decide) (by decide) (by decide) (by decide) rfl ?_
  rintro _ _ ⟨rfl, rfl⟩
  show (Go .n l ({ frames := 2, cells := 1, slots := 2, locals := 36 } : Room) Z (⟨"com/example/consentry/consentry/authorization/CodeChallengeMethod", "parse", "(Ljava/lang/String;)Lcom/example/consentry/consentry/authorization/CodeChallengeMethod;"⟩ : MethodName) prog_2_method_4_code 5 (some (.object "com/example/consentry/consentry/authorization/CodeChallengeMethod")) n0 1 2 (fun v h => ∃ v1 : Value, v = some v1 ∧ Keep h0 h [] ∧ (v1 = .null))) h_1727 (0 + 1 + 0) (0 + 2 + 0) 28 #[.val .null, .val (.ref q_1728), .val (.int (2 : Int32)), .val (.int (0 : Int32)), .val (.ref u0)] [(.int (0 : Int32))]
  refine Go.ifc (pc1 := 34) (pc2 := 31) d5_28 (by decide) (by decide) rfl (fun (c_1758 : (0 : Int) = 0) => ?_) (fun (c_1758 : (0 : Int) ≠ 0) => ?_)
  rotate_left
  · exact absurd c_1758 (by decide)
  refine Go.iinc (pc' := 37) (w := (1 : Int32)) (Ls' := #[.val .null, .val (.ref q_1728), .val (.int (2 : Int32)), .val (.int (1 : Int32)), .val (.ref u0)]) d5_34 rfl rfl rfl rfl ?_
  refine Go.goto (pc' := 9) d5_37 (by decide) (by decide) ?_
  refine Go.iloadN (pc' := 10) d5_9 rfl rfl ?_
  refine Go.iloadN (pc' := 11) d5_10 rfl rfl ?_
  refine Go.icmp (pc1 := 40) (pc2 := 14) d5_11 (by decide) (by decide) rfl (fun (c_1759 : (2 : Int) ≤ (1 : Int)) => ?_) (fun (c_1759 : (1 : Int) < (2 : Int)) => ?_)
  · exact absurd c_1759 (by decide)
  refine Go.aloadN (pc' := 15) d5_14 rfl rfl rfl ?_
  refine Go.iloadN (pc' := 16) d5_15 rfl rfl ?_
  refine Go.ldA (pc' := 17) (k := 1) (v := (.ref u1)) A_1730 rfl rfl rfl d5_16 rfl ?_
  refine Go.astore (pc' := 19) (Ls' := #[.val .null, .val (.ref q_1728), .val (.int (2 : Int32)), .val (.int (1 : Int32)), .val (.ref u1)]) d5_17 rfl rfl rfl ?_
  refine Go.aload (pc' := 21) d5_19 rfl rfl rfl ?_
  refine Go.getF (pc' := 24) (hw _ (List.mem_of_getElem? (i := 49) rfl)) f_1741 d5_21 rfl ?_
  refine Go.aloadN (pc' := 25) d5_24 rfl rfl rfl ?_
  refine Go.callV (pc' := 28) (argsL := [.null]) (rest := []) (W := 0) (hw _ (List.mem_of_getElem? (i := 51) rfl)) (hw _ (List.mem_of_getElem? (i := 52) rfl)) (hw _ (List.mem_of_getElem? (i := 54) rfl)) (hw _ (List.mem_of_getElem? (i := 53) rfl)) (hw _ (List.mem_of_getElem? (i := 9) rfl)) (hw _ (List.mem_of_getElem? (i := 55) rfl)) (by decide) f_1742 (m_eqn l Z a0 hw p1 h_1727 n0 z_1753) d5_25 rfl pd7 rfl rfl (Nat.le_of_eq rfl) (by decide) (by decide) (by decide) (by decide) rfl ?_
  rintro _ _ ⟨rfl, rfl⟩
  show (Go .n l ({ frames := 2, cells := 1, slots := 2, locals := 36 } : Room) Z (⟨"com/example/consentry/consentry/authorization/CodeChallengeMethod", "parse", "(Ljava/lang/String;)Lcom/example/consentry/consentry/authorization/CodeChallengeMethod;"⟩ : MethodName) prog_2_method_4_code 5 (some (.object "com/example/consentry/consentry/authorization/CodeChallengeMethod")) n0 1 2 (fun v h => ∃ v1 : Value, v = some v1 ∧ Keep h0 h [] ∧ (v1 = .null))) h_1727 (0 + 1 + 0 + 0) (0 + 2 + 0 + 0) 28 #[.val .null, .val (.ref q_1728), .val (.int (2 : Int32)), .val (.int (1 : Int32)), .val (.ref u1)] [(.int (0 : Int32))]
  refine Go.ifc (pc1 := 34) (pc2 := 31) d5_28 (by decide) (by decide) rfl (fun (c_1760 : (0 : Int) = 0) => ?_) (fun (c_1760 : (0 : Int) ≠ 0) => ?_)
  rotate_left
  · exact absurd c_1760 (by decide)
  refine Go.iinc (pc' := 37) (w := (2 : Int32)) (Ls' := #[.val .null, .val (.ref q_1728), .val (.int (2 : Int32)), .val (.int (2 : Int32)), .val (.ref u1)]) d5_34 rfl rfl rfl rfl ?_
  refine Go.goto (pc' := 9) d5_37 (by decide) (by decide) ?_
  refine Go.iloadN (pc' := 10) d5_9 rfl rfl ?_
  refine Go.iloadN (pc' := 11) d5_10 rfl rfl ?_
  refine Go.icmp (pc1 := 40) (pc2 := 14) d5_11 (by decide) (by decide) rfl (fun (c_1761 : (2 : Int) ≤ (2 : Int)) => ?_) (fun (c_1761 : (2 : Int) < (2 : Int)) => ?_)
  rotate_left
  · exact absurd c_1761 (by decide)
  refine Go.aconstNull (pc' := 41) d5_40 rfl ?_
  exact Go.retA d5_41 rfl rfl rfl ⟨_, rfl, K_1755, rfl⟩ (by decide) (by decide)
set_option maxRecDepth 65536 in
set_option maxHeartbeats 40000000 in
theorem m_ps1 (l : Launch) (Z : State) (a0 : Array Value) (hw : ∀ d ∈ tables_1, d.before a0 Z = true) (b u0 u1 p0 p1 y0 y1 : Addr) (s o : Addr) (W : List Int32) (cs : Int32) (h0 : Heap) (n0 : Nat) (z0 : n0 ≤ h0.size) (hO : Old Z n0 h0) (hSCS : Sta Z Z.heap "java/lang/String" "COMPACT_STRINGS" "Z" (.int cs)) (hcs : cs.toInt ≠ 0) (hSV : Sta Z h0 "com/example/consentry/consentry/authorization/CodeChallengeMethod" "$VALUES" "[Lcom/example/consentry/consentry/authorization/CodeChallengeMethod;" (.ref b)) (hAV : Ary Z h0 b (.object "com/example/consentry/consentry/authorization/CodeChallengeMethod") [.ref u0, .ref u1]) (hEV : Exa Z h0 b "[Lcom/example/consentry/consentry/authorization/CodeChallengeMethod;") (hU0 : Exa Z h0 u0 "com/example/consentry/consentry/authorization/CodeChallengeMethod") (hF0 : Fld Z h0 u0 "com/example/consentry/consentry/authorization/CodeChallengeMethod" "spelling" "Ljava/lang/String;" (.ref p0)) (hXp0 : Exa Z h0 p0 "java/lang/String") (hVp0 : Fld Z h0 p0 "java/lang/String" "value" "[B" (.ref y0)) (hCp0 : Fld Z h0 p0 "java/lang/String" "coder" "B" (.int (0 : Int32))) (hYp0 : Ary Z h0 y0 .byte (own_pl.map Value.int)) (hU1 : Exa Z h0 u1 "com/example/consentry/consentry/authorization/CodeChallengeMethod") (hF1 : Fld Z h0 u1 "com/example/consentry/consentry/authorization/CodeChallengeMethod" "spelling" "Ljava/lang/String;" (.ref p1)) (hXp1 : Exa Z h0 p1 "java/lang/String") (hVp1 : Fld Z h0 p1 "java/lang/String" "value" "[B" (.ref y1)) (hCp1 : Fld Z h0 p1 "java/lang/String" "coder" "B" (.int (0 : Int32))) (hYp1 : Ary Z h0 y1 .byte (own_sb.map Value.int)) (hXs : Exa Z h0 s "java/lang/String") (hVs : Fld Z h0 s "java/lang/String" "value" "[B" (.ref o)) (hCs : Fld Z h0 s "java/lang/String" "coder" "B" (.int (0 : Int32))) (hYs : Ary Z h0 o .byte (W.map Value.int)) (hW6 : W.length ≤ 6) : Mt .n l Z (⟨"com/example/consentry/consentry/authorization/CodeChallengeMethod", "parse", "(Ljava/lang/String;)Lcom/example/consentry/consentry/authorization/CodeChallengeMethod;"⟩ : MethodName) prog_2_method_4_code 5 (some (.object "com/example/consentry/consentry/authorization/CodeChallengeMethod")) ({ frames := 2, cells := 1, slots := 2, locals := 36 } : Room) n0 (fun v h => ∃ v1 : Value, v = some v1 ∧ Keep h0 h [] ∧ ((W = own_pl ∧ v1 = .ref u0) ∨ (W ≠ own_pl ∧ W = own_sb ∧ v1 = .ref u1) ∨ (W ≠ own_pl ∧ W ≠ own_sb ∧ v1 = .null))) h0 #[(.ref s)] := by
  refine Mt.go (Ls := #[.val (.ref s), .unset, .unset, .unset, .unset]) (plainFor_of_name pn1) (fun m => by first | (simp [entryFrame, mkF, argsToLocals, Value.category]; done) | rfl) ?_
  show (Go .n l ({ frames := 2, cells := 1, slots := 2, locals := 36 } : Room) Z (⟨"com/example/consentry/consentry/authorization/CodeChallengeMethod", "parse", "(Ljava/lang/String;)Lcom/example/consentry/consentry/authorization/CodeChallengeMethod;"⟩ : MethodName) prog_2_method_4_code 5 (some (.object "com/example/consentry/consentry/authorization/CodeChallengeMethod")) n0 1 2 (fun v h => ∃ v1 : Value, v = some v1 ∧ Keep h0 h [] ∧ ((W = own_pl ∧ v1 = .ref u0) ∨ (W ≠ own_pl ∧ W = own_sb ∧ v1 = .ref u1) ∨ (W ≠ own_pl ∧ W ≠ own_sb ∧ v1 = .null)))) h0 0 0 0 #[.val (.ref s), .unset, .unset, .unset, .unset] []
  have hTCS : Sta Z h0 "java/lang/String" "COMPACT_STRINGS" "Z" (.int cs) := Sta.ext hO.2 hSCS
  refine Go.callS (pc' := 3) (argsL := []) (rest := []) (W := 0) (hw _ (List.mem_of_getElem? (i := 32) rfl)) (hw _ (List.mem_of_getElem? (i := 33) rfl)) (hw _ (List.mem_of_getElem? (i := 30) rfl)) (hw _ (List.mem_of_getElem? (i := 34) rfl)) (by decide) (m_vl l Z a0 hw b u0 u1 h0 n0 z0 hSV hAV hEV) d5_0 rfl pd6 rfl rfl (Nat.le_of_eq rfl) (by decide) (by decide) (by decide) (by decide) rfl ?_
  rintro _ h_1762 ⟨q_1763, rfl, K_1764, A_1765⟩
  have f_1767 : Ary Z h_1762 b (.object "com/example/consentry/consentry/authorization/CodeChallengeMethod") [(.ref u0), (.ref u1)] := hAV.sm (Sm.keep K_1764 nin0)
  have f_1768 : Exa Z h_1762 b "[Lcom/example/consentry/consentry/authorization/CodeChallengeMethod;" := hEV.sm (Sm.keep K_1764 nin0)
  have f_1769 : Exa Z h_1762 u0 "com/example/consentry/consentry/authorization/CodeChallengeMethod" := hU0.sm (Sm.keep K_1764 nin0)
  have f_1770 : Fld Z h_1762 u0 "com/example/consentry/consentry/authorization/CodeChallengeMethod" "spelling" "Ljava/lang/String;" (.ref p0) := hF0.sm (Sm.keep K_1764 nin0)
  have f_1771 : Exa Z h_1762 p0 "java/lang/String" := hXp0.sm (Sm.keep K_1764 nin0)
  have f_1772 : Fld Z h_1762 p0 "java/lang/String" "value" "[B" (.ref y0) := hVp0.sm (Sm.keep K_1764 nin0)
  have f_1773 : Fld Z h_1762 p0 "java/lang/String" "coder" "B" (.int (0 : Int32)) := hCp0.sm (Sm.keep K_1764 nin0)
  have f_1774 : Ary Z h_1762 y0 .byte (own_pl.map Value.int) := hYp0.sm (Sm.keep K_1764 nin0)
  have f_1775 : Exa Z h_1762 u1 "com/example/consentry/consentry/authorization/CodeChallengeMethod" := hU1.sm (Sm.keep K_1764 nin0)
  have f_1776 : Fld Z h_1762 u1 "com/example/consentry/consentry/authorization/CodeChallengeMethod" "spelling" "Ljava/lang/String;" (.ref p1) := hF1.sm (Sm.keep K_1764 nin0)
  have f_1777 : Exa Z h_1762 p1 "java/lang/String" := hXp1.sm (Sm.keep K_1764 nin0)
  have f_1778 : Fld Z h_1762 p1 "java/lang/String" "value" "[B" (.ref y1) := hVp1.sm (Sm.keep K_1764 nin0)
  have f_1779 : Fld Z h_1762 p1 "java/lang/String" "coder" "B" (.int (0 : Int32)) := hCp1.sm (Sm.keep K_1764 nin0)
  have f_1780 : Ary Z h_1762 y1 .byte (own_sb.map Value.int) := hYp1.sm (Sm.keep K_1764 nin0)
  have f_1781 : Exa Z h_1762 s "java/lang/String" := hXs.sm (Sm.keep K_1764 nin0)
  have f_1782 : Fld Z h_1762 s "java/lang/String" "value" "[B" (.ref o) := hVs.sm (Sm.keep K_1764 nin0)
  have f_1783 : Fld Z h_1762 s "java/lang/String" "coder" "B" (.int (0 : Int32)) := hCs.sm (Sm.keep K_1764 nin0)
  have f_1784 : Ary Z h_1762 o .byte (W.map Value.int) := hYs.sm (Sm.keep K_1764 nin0)
  have t_1785 : b < h_1762.size := Nat.lt_of_lt_of_le hAV.lt K_1764.1
  have t_1786 : u0 < h_1762.size := Nat.lt_of_lt_of_le hU0.lt K_1764.1
  have t_1787 : p0 < h_1762.size := Nat.lt_of_lt_of_le hXp0.lt K_1764.1
  have t_1788 : y0 < h_1762.size := Nat.lt_of_lt_of_le hYp0.lt K_1764.1
  have t_1789 : u1 < h_1762.size := Nat.lt_of_lt_of_le hU1.lt K_1764.1
  have t_1790 : p1 < h_1762.size := Nat.lt_of_lt_of_le hXp1.lt K_1764.1
  have t_1791 : y1 < h_1762.size := Nat.lt_of_lt_of_le hYp1.lt K_1764.1
  have t_1792 : s < h_1762.size := Nat.lt_of_lt_of_le hXs.lt K_1764.1
  have t_1793 : o < h_1762.size := Nat.lt_of_lt_of_le hYs.lt K_1764.1
  have z_1794 : n0 ≤ h_1762.size := Nat.le_trans z0 K_1764.1
  have b_1795 : h0.size ≤ h_1762.size := Nat.le_trans (Nat.le_refl _) K_1764.1
  have K_1796 : Keep h0 h_1762 [] := (Keep.refl _ _).trans K_1764 all0
  have O_1797 : Old Z n0 h_1762 := hO.keep K_1764 all0
  have f_1766 : Sta Z h_1762 "java/lang/String" "COMPACT_STRINGS" "Z" (.int cs) := Sta.ext O_1797.2 hSCS
  show (Go .n l ({ frames := 2, cells := 1, slots := 2, locals := 36 } : Room) Z (⟨"com/example/consentry/consentry/authorization/CodeChallengeMethod", "parse", "(Ljava/lang/String;)Lcom/example/consentry/consentry/authorization/CodeChallengeMethod;"⟩ : MethodName) prog_2_method_4_code 5 (some (.object "com/example/consentry/consentry/authorization/CodeChallengeMethod")) n0 1 2 (fun v h => ∃ v1 : Value, v = some v1 ∧ Keep h0 h [] ∧ ((W = own_pl ∧ v1 = .ref u0) ∨ (W ≠ own_pl ∧ W = own_sb ∧ v1 = .ref u1) ∨ (W ≠ own_pl ∧ W ≠ own_sb ∧ v1 = .null)))) h_1762 (0 + 1) (0 + 2) 3 #[.val (.ref s), .unset, .unset, .unset, .unset] [(.ref q_1763)]
  refine Go.astoreN (pc' := 4) (Ls' := #[.val (.ref s), .val (.ref q_1763), .unset, .unset, .unset]) d5_3 rfl rfl rfl ?_
  refine Go.aloadN (pc' := 5) d5_4 rfl rfl rfl ?_
  refine Go.alen (pc' := 6) (z := (2 : Int32)) A_1765 rfl d5_5 rfl ?_
  refine Go.istoreN (pc' := 7) (Ls' := #[.val (.ref s), .val (.ref q_1763), .val (.int (2 : Int32)), .unset, .unset]) d5_6 rfl rfl ?_
  refine Go.iconst (pc' := 8) (v := (0 : Int32)) d5_7 rfl rfl ?_
  refine Go.istoreN (pc' := 9) (Ls' := #[.val (.ref s), .val (.ref q_1763), .val (.int (2 : Int32)), .val (.int (0 : Int32)), .unset]) d5_8 rfl rfl ?_
  refine Go.iloadN (pc' := 10) d5_9 rfl rfl ?_
  refine Go.iloadN (pc' := 11) d5_10 rfl rfl ?_
  refine Go.icmp (pc1 := 40) (pc2 := 14) d5_11 (by decide) (by decide) rfl (fun (c_1798 : (2 : Int) ≤ (0 : Int)) => ?_) (fun (c_1798 : (0 : Int) < (2 : Int)) => ?_)
  · exact absurd c_1798 (by decide)
  refine Go.aloadN (pc' := 15) d5_14 rfl rfl rfl ?_
  refine Go.iloadN (pc' := 16) d5_15 rfl rfl ?_
  refine Go.ldA (pc' := 17) (k := 0) (v := (.ref u0)) A_1765 rfl rfl rfl d5_16 rfl ?_
  refine Go.astore (pc' := 19) (Ls' := #[.val (.ref s), .val (.ref q_1763), .val (.int (2 : Int32)), .val (.int (0 : Int32)), .val (.ref u0)]) d5_17 rfl rfl rfl ?_
  refine Go.aload (pc' := 21) d5_19 rfl rfl rfl ?_
  refine Go.getF (pc' := 24) (hw _ (List.mem_of_getElem? (i := 49) rfl)) f_1770 d5_21 rfl ?_
  refine Go.aloadN (pc' := 25) d5_24 rfl rfl rfl ?_
  refine Go.callV (pc' := 28) (argsL := [(.ref s)]) (rest := []) (W := 0) (hw _ (List.mem_of_getElem? (i := 51) rfl)) (hw _ (List.mem_of_getElem? (i := 52) rfl)) (hw _ (List.mem_of_getElem? (i := 54) rfl)) (hw _ (List.mem_of_getElem? (i := 53) rfl)) (hw _ (List.mem_of_getElem? (i := 9) rfl)) (hw _ (List.mem_of_getElem? (i := 55) rfl)) (by decide) f_1771 (m_eq l Z a0 hw p0 y0 s o own_pl W cs h_1762 n0 z_1794 O_1797 hSCS hcs f_1771 f_1772 f_1773 f_1774 f_1781 f_1782 f_1783 f_1784 (by decide) (by omega)) d5_25 rfl pd7 rfl rfl (Nat.le_of_eq rfl) (by decide) (by decide) (by decide) (by decide) rfl ?_
  rintro _ _ ⟨r0, rfl, rfl, hr0, ir0⟩
  show (Go .n l ({ frames := 2, cells := 1, slots := 2, locals := 36 } : Room) Z (⟨"com/example/consentry/consentry/authorization/CodeChallengeMethod", "parse", "(Ljava/lang/String;)Lcom/example/consentry/consentry/authorization/CodeChallengeMethod;"⟩ : MethodName) prog_2_method_4_code 5 (some (.object "com/example/consentry/consentry/authorization/CodeChallengeMethod")) n0 1 2 (fun v h => ∃ v1 : Value, v = some v1 ∧ Keep h0 h [] ∧ ((W = own_pl ∧ v1 = .ref u0) ∨ (W ≠ own_pl ∧ W = own_sb ∧ v1 = .ref u1) ∨ (W ≠ own_pl ∧ W ≠ own_sb ∧ v1 = .null)))) h_1762 (0 + 1 + 0) (0 + 2 + 0) 28 #[.val (.ref s), .val (.ref q_1763), .val (.int (2 : Int32)), .val (.int (0 : Int32)), .val (.ref u0)] [(.int r0)]
  refine Go.ifc (pc1 := 34) (pc2 := 31) d5_28 (by decide) (by decide) rfl (fun (c_1799 : r0.toInt = 0) => ?_) (fun (c_1799 : r0.toInt ≠ 0) => ?_)
  · have w_1800 : W ≠ own_pl := fun z => absurd (ir0.mpr z.symm) (by omega)
    refine Go.iinc (pc' := 37) (w := (1 : Int32)) (Ls' := #[.val (.ref s), .val (.ref q_1763), .val (.int (2 : Int32)), .val (.int (1 : Int32)), .val (.ref u0)]) d5_34 rfl rfl rfl rfl ?_
    refine Go.goto (pc' := 9) d5_37 (by decide) (by decide) ?_
    refine Go.iloadN (pc' := 10) d5_9 rfl rfl ?_
    refine Go.iloadN (pc' := 11) d5_10 rfl rfl ?_
    refine Go.icmp (pc1 := 40) (pc2 := 14) d5_11 (by decide) (by decide) rfl (fun (c_1801 : (2 : Int) ≤ (1 : Int)) => ?_) (fun (c_1801 : (1 : Int) < (2 : Int)) => ?_)
    · exact absurd c_1801 (by decide)
    refine Go.aloadN (pc' := 15) d5_14 rfl rfl rfl ?_
    refine Go.iloadN (pc' := 16) d5_15 rfl rfl ?_
    refine Go.ldA (pc' := 17) (k := 1) (v := (.ref u1)) A_1765 rfl rfl rfl d5_16 rfl ?_
    refine Go.astore (pc' := 19) (Ls' := #[.val (.ref s), .val (.ref q_1763), .val (.int (2 : Int32)), .val (.int (1 : Int32)), .val (.ref u1)]) d5_17 rfl rfl rfl ?_
    refine Go.aload (pc' := 21) d5_19 rfl rfl rfl ?_
    refine Go.getF (pc' := 24) (hw _ (List.mem_of_getElem? (i := 49) rfl)) f_1776 d5_21 rfl ?_
    refine Go.aloadN (pc' := 25) d5_24 rfl rfl rfl ?_
    refine Go.callV (pc' := 28) (argsL := [(.ref s)]) (rest := []) (W := 0) (hw _ (List.mem_of_getElem? (i := 51) rfl)) (hw _ (List.mem_of_getElem? (i := 52) rfl)) (hw _ (List.mem_of_getElem? (i := 54) rfl)) (hw _ (List.mem_of_getElem? (i := 53) rfl)) (hw _ (List.mem_of_getElem? (i := 9) rfl)) (hw _ (List.mem_of_getElem? (i := 55) rfl)) (by decide) f_1777 (m_eq l Z a0 hw p1 y1 s o own_sb W cs h_1762 n0 z_1794 O_1797 hSCS hcs f_1777 f_1778 f_1779 f_1780 f_1781 f_1782 f_1783 f_1784 (by decide) (by omega)) d5_25 rfl pd7 rfl rfl (Nat.le_of_eq rfl) (by decide) (by decide) (by decide) (by decide) rfl ?_
    rintro _ _ ⟨r1, rfl, rfl, hr1, ir1⟩
    show (Go .n l ({ frames := 2, cells := 1, slots := 2, locals := 36 } : Room) Z (⟨"com/example/consentry/consentry/authorization/CodeChallengeMethod", "parse", "(Ljava/lang/String;)Lcom/example/consentry/consentry/authorization/CodeChallengeMethod;"⟩ : MethodName) prog_2_method_4_code 5 (some (.object "com/example/consentry/consentry/authorization/CodeChallengeMethod")) n0 1 2 (fun v h => ∃ v1 : Value, v = some v1 ∧ Keep h0 h [] ∧ ((W = own_pl ∧ v1 = .ref u0) ∨ (W ≠ own_pl ∧ W = own_sb ∧ v1 = .ref u1) ∨ (W ≠ own_pl ∧ W ≠ own_sb ∧ v1 = .null)))) h_1762 (0 + 1 + 0 + 0) (0 + 2 + 0 + 0) 28 #[.val (.ref s), .val (.ref q_1763), .val (.int (2 : Int32)), .val (.int (1 : Int32)), .val (.ref u1)] [(.int r1)]
    refine Go.ifc (pc1 := 34) (pc2 := 31) d5_28 (by decide) (by decide) rfl (fun (c_1802 : r1.toInt = 0) => ?_) (fun (c_1802 : r1.toInt ≠ 0) => ?_)
    · have w_1803 : W ≠ own_sb := fun z => absurd (ir1.mpr z.symm) (by omega)
      refine Go.iinc (pc' := 37) (w := (2 : Int32)) (Ls' := #[.val (.ref s), .val (.ref q_1763), .val (.int (2 : Int32)), .val (.int (2 : Int32)), .val (.ref u1)]) d5_34 rfl rfl rfl rfl ?_
      refine Go.goto (pc' := 9) d5_37 (by decide) (by decide) ?_
      refine Go.iloadN (pc' := 10) d5_9 rfl rfl ?_
      refine Go.iloadN (pc' := 11) d5_10 rfl rfl ?_
      refine Go.icmp (pc1 := 40) (pc2 := 14) d5_11 (by decide) (by decide) rfl (fun (c_1804 : (2 : Int) ≤ (2 : Int)) => ?_) (fun (c_1804 : (2 : Int) < (2 : Int)) => ?_)
      rotate_left
      · exact absurd c_1804 (by decide)
      refine Go.aconstNull (pc' := 41) d5_40 rfl ?_
      exact Go.retA d5_41 rfl rfl rfl ⟨_, rfl, K_1796, Or.inr (Or.inr ⟨w_1800, w_1803, rfl⟩)⟩ (by decide) (by decide)
    · have w_1805 : W = own_sb := (ir1.mp (by omega)).symm
      refine Go.aload (pc' := 33) d5_31 rfl rfl rfl ?_
      exact Go.retA d5_33 rfl rfl rfl ⟨_, rfl, K_1796, Or.inr (Or.inl ⟨w_1800, w_1805, rfl⟩)⟩ (by decide) (by decide)
  · have w_1806 : W = own_pl := (ir0.mp (by omega)).symm
    refine Go.aload (pc' := 33) d5_31 rfl rfl rfl ?_
    exact Go.retA d5_33 rfl rfl rfl ⟨_, rfl, K_1796, Or.inl ⟨w_1806, rfl⟩⟩ (by decide) (by decide)
set_option maxRecDepth 65536 in
set_option maxHeartbeats 40000000 in
theorem rm1 (l : Launch) (Z : State) (a0 : Array Value) (hw : ∀ d ∈ tables_1, d.before a0 Z = true) (ws : List Jvm.Cond) (k0 k1 k2 : Int32) (k3 : Int64) (k4 : Int32) (b u0 u1 p0 p1 y0 y1 : Addr) (cs : Int32) (h0 : Heap) (n0 : Nat) (z0 : n0 ≤ h0.size) (hO : Old Z n0 h0) (hSCS : Sta Z Z.heap "java/lang/String" "COMPACT_STRINGS" "Z" (.int cs)) (hcs : cs.toInt ≠ 0) (hH : Jvm.Lit.constHeld Z "java/lang/String" 7) (hH1 : Jvm.Lit.constHeld Z "com/example/consentry/consentry/authorization/CodeChallengeMethodParsePinLaw" 22) (hH2 : Jvm.Lit.constHeld Z "com/example/consentry/consentry/authorization/CodeChallengeMethodParsePinLaw" 34) (hcw : Jvm.Lit.compactW.before a0 Z = true) (h0z : h0.size = n0) (hSP : Sta Z Z.heap "com/example/consentry/consentry/authorization/CodeChallengeMethod" "PLAIN" "Lcom/example/consentry/consentry/authorization/CodeChallengeMethod;" (.ref u0)) (hSS : Sta Z Z.heap "com/example/consentry/consentry/authorization/CodeChallengeMethod" "S256" "Lcom/example/consentry/consentry/authorization/CodeChallengeMethod;" (.ref u1)) (hSV : Sta Z Z.heap "com/example/consentry/consentry/authorization/CodeChallengeMethod" "$VALUES" "[Lcom/example/consentry/consentry/authorization/CodeChallengeMethod;" (.ref b)) (hAV : Ary Z Z.heap b (.object "com/example/consentry/consentry/authorization/CodeChallengeMethod") [.ref u0, .ref u1]) (hEV : Exa Z Z.heap b "[Lcom/example/consentry/consentry/authorization/CodeChallengeMethod;") (hU0 : Exa Z Z.heap u0 "com/example/consentry/consentry/authorization/CodeChallengeMethod") (hF0 : Fld Z Z.heap u0 "com/example/consentry/consentry/authorization/CodeChallengeMethod" "spelling" "Ljava/lang/String;" (.ref p0)) (hXp0 : Exa Z Z.heap p0 "java/lang/String") (hVp0 : Fld Z Z.heap p0 "java/lang/String" "value" "[B" (.ref y0)) (hCp0 : Fld Z Z.heap p0 "java/lang/String" "coder" "B" (.int (0 : Int32))) (hYp0 : Ary Z Z.heap y0 .byte (own_pl.map Value.int)) (hU1 : Exa Z Z.heap u1 "com/example/consentry/consentry/authorization/CodeChallengeMethod") (hF1 : Fld Z Z.heap u1 "com/example/consentry/consentry/authorization/CodeChallengeMethod" "spelling" "Ljava/lang/String;" (.ref p1)) (hXp1 : Exa Z Z.heap p1 "java/lang/String") (hVp1 : Fld Z Z.heap p1 "java/lang/String" "value" "[B" (.ref y1)) (hCp1 : Fld Z Z.heap p1 "java/lang/String" "coder" "B" (.int (0 : Int32))) (hYp1 : Ary Z Z.heap y1 .byte (own_sb.map Value.int)) : MetFree l x (head1 (Jvm.Cond.code x code maxLocals ret :: ws) room_1) (fun a U => a = #[(.int k0), (.int k1), (.int k2), (.long k3), (.int k4)] ∧ Z.Warmed39 U.vm ∧ U.heap = h0 ∧ IB Z U.vm []) (fun _ _ _ _ _ => True) (fun _ U o U' => ∃ v L, o = .returned v ∧ (((fun v h => v = some (.int 1)) v U'.heap ∧ h0.size ≤ U'.heap.size) ∧ Fr n0 L) ∧ ReturnedEndW U o U' L 24 3200 ∧ IB Z U'.vm ["S256", "plain", ""]) := by
  refine met_goH (y := x) (Q := fun v h => v = some (.int 1)) (n1 := n0) (Ls := #[.val (.int k0), .val (.int k1), .val (.int k2), .val (.long k3), .second, .val (.int k4), .unset, .unset, .unset, .unset, .unset, .unset]) (plainFor_of_name pn0) (fun m => by first | (simp [entryFrame, mkF, argsToLocals, Value.category, maxLocals]; done) | rfl) (fun _ q => nomatch q) (Nat.le_refl _) ?_
  show (Go _ l room_1 Z x code maxLocals ret n0 24 3200 (fun v h => v = some (.int 1))) h0 0 0 0 #[.val (.int k0), .val (.int k1), .val (.int k2), .val (.long k3), .second, .val (.int k4), .unset, .unset, .unset, .unset, .unset, .unset] []
  have hTCS : Sta Z h0 "java/lang/String" "COMPACT_STRINGS" "Z" (.int cs) := Sta.ext hO.2 hSCS
  have hsz : h0.size = n0 := h0z
  refine Go.iloadN (pc' := 1) at_0 rfl rfl ?_
  refine Go.iconst (pc' := 2) (v := (3 : Int32)) at_1 rfl rfl ?_
  refine Go.iand (pc' := 3) at_2 rfl ?_
  generalize em_1807 : k0 &&& (3 : Int32) = m_1807
  have k_1808 : 0 ≤ m_1807.toInt ∧ m_1807.toInt ≤ 3 := by
    rw [← em_1807]
    have : (3 : Int32).toInt = 3 := by decide
    have := c_mask k0 (3 : Int32) 2 (by decide) (by decide)
    have := rng32 (k0 &&& (3 : Int32))
    have := rng32 k0
    omega
  refine Go.istore (pc' := 5) (Ls' := #[.val (.int k0), .val (.int k1), .val (.int k2), .val (.long k3), .second, .val (.int k4), .val (.int m_1807), .unset, .unset, .unset, .unset, .unset]) at_3 rfl rfl ?_
  refine Go.bipush (pc' := 7) (v := (6 : Int32)) at_5 rfl rfl ?_
  refine Go.newA (pc' := 9) (k := 6) (ty := .char) (cap := 6) (hw _ (List.mem_of_getElem? (i := 0) rfl)) rfl rfl (by decide) (by decide) at_7 (by decide) (by decide) rfl ?_
  intro h_1809 a_1810 q_1811 E_1812 A_1813
  have g_1815 : n0 ≤ a_1810 := q_1811 ▸ z0
  have z_1817 : n0 ≤ h_1809.size := Nat.le_trans z0 E_1812.1
  have O_1818 : Old Z n0 h_1809 := hO.ext E_1812
  have f_1816 : Sta Z h_1809 "java/lang/String" "COMPACT_STRINGS" "Z" (.int cs) := Sta.ext O_1818.2 hSCS
  have t_1819 : a_1810 < h_1809.size := A_1813.lt
  change Ary Z h_1809 a_1810 .char [(.int (0 : Int32)), (.int (0 : Int32)), (.int (0 : Int32)), (.int (0 : Int32)), (.int (0 : Int32)), (.int (0 : Int32))] at A_1813
  refine Go.astore (pc' := 11) (Ls' := #[.val (.int k0), .val (.int k1), .val (.int k2), .val (.long k3), .second, .val (.int k4), .val (.int m_1807), .val (.ref a_1810), .unset, .unset, .unset, .unset]) at_9 rfl rfl rfl ?_
  refine Go.aload (pc' := 13) at_11 rfl rfl rfl ?_
  refine Go.iconst (pc' := 14) (v := (0 : Int32)) at_13 rfl rfl ?_
  refine Go.lloadN (pc' := 15) at_14 rfl rfl ?_
  refine Go.ldcL (pc' := 18) (hw _ (List.mem_of_getElem? (i := 1) rfl)) at_15 rfl ?_
  refine Go.land (pc' := 19) at_18 rfl ?_
  refine Go.l2i (pc' := 20) at_19 rfl ?_
  refine Go.i2c (pc' := 21) at_20 rfl ?_
  generalize ed_1820 : ((k3 &&& (255 : Int64)).toInt32).toUInt32.toUInt16.toUInt32.toInt32 = d_1820
  have k_1821 : (0 ≤ d_1820.toInt ∧ d_1820.toInt < 65536) ∧ d_1820.toInt < 256 := by
    rw [← ed_1820]
    have : (255 : Int64).toInt = 255 := by decide
    have := c_maskL k3 (255 : Int64) 8 (by decide) (by decide)
    have := rng64 (k3 &&& (255 : Int64))
    have := rng64 k3
    have := c_l2i (k3 &&& (255 : Int64))
    have := rng32 ((k3 &&& (255 : Int64)).toInt32)
    have := c_i2c ((k3 &&& (255 : Int64)).toInt32)
    have := rng32 (((k3 &&& (255 : Int64)).toInt32).toUInt32.toUInt16.toUInt32.toInt32)
    omega
  have nd_1820 : nar .char d_1820 = d_1820 := own_nc k_1821.1
  refine Go.stC (pc' := 22) (k := 0) A_1813 rfl (by show 0 < 6; decide) at_21 g_1815 rfl ?_
  intro h_1822 W_1823 A_1824
  rw [nd_1820] at W_1823 A_1824
  have t_1826 : a_1810 < h_1822.size := Nat.lt_of_lt_of_le t_1819 (Nat.le_of_eq W_1823.size.symm)
  have z_1827 : n0 ≤ h_1822.size := Nat.le_trans z_1817 (Nat.le_of_eq W_1823.size.symm)
  have O_1828 : Old Z n0 h_1822 := O_1818.wr W_1823 g_1815
  have f_1825 : Sta Z h_1822 "java/lang/String" "COMPACT_STRINGS" "Z" (.int cs) := Sta.ext O_1828.2 hSCS
  change Ary Z h_1822 a_1810 .char [(.int d_1820), (.int (0 : Int32)), (.int (0 : Int32)), (.int (0 : Int32)), (.int (0 : Int32)), (.int (0 : Int32))] at A_1824
  refine Go.aload (pc' := 24) at_22 rfl rfl rfl ?_
  refine Go.iconst (pc' := 25) (v := (1 : Int32)) at_24 rfl rfl ?_
  refine Go.lloadN (pc' := 26) at_25 rfl rfl ?_
  refine Go.bipush (pc' := 28) (v := (8 : Int32)) at_26 rfl rfl ?_
  refine Go.lushr (pc' := 29) at_28 rfl ?_
  refine Go.ldcL (pc' := 32) (hw _ (List.mem_of_getElem? (i := 1) rfl)) at_29 rfl ?_
  refine Go.land (pc' := 33) at_32 rfl ?_
  refine Go.l2i (pc' := 34) at_33 rfl ?_
  refine Go.i2c (pc' := 35) at_34 rfl ?_
  generalize ed_1829 : ((((k3.toUInt64 >>> ((8 : Int32) &&& 0x3f).toInt64.toUInt64).toInt64) &&& (255 : Int64)).toInt32).toUInt32.toUInt16.toUInt32.toInt32 = d_1829
  have k_1830 : (0 ≤ d_1829.toInt ∧ d_1829.toInt < 65536) ∧ d_1829.toInt < 256 := by
    rw [← ed_1829]
    have : (8 : Int32).toInt = 8 := by decide
    have := c_lushr k3 (8 : Int32) 8 (by decide) (by decide)
    have := rng64 ((k3.toUInt64 >>> ((8 : Int32) &&& 0x3f).toInt64.toUInt64).toInt64)
    have := rng64 k3
    have : (255 : Int64).toInt = 255 := by decide
    have := c_maskL ((k3.toUInt64 >>> ((8 : Int32) &&& 0x3f).toInt64.toUInt64).toInt64) (255 : Int64) 8 (by decide) (by decide)
    have := rng64 (((k3.toUInt64 >>> ((8 : Int32) &&& 0x3f).toInt64.toUInt64).toInt64) &&& (255 : Int64))
    have := c_l2i (((k3.toUInt64 >>> ((8 : Int32) &&& 0x3f).toInt64.toUInt64).toInt64) &&& (255 : Int64))
    have := rng32 ((((k3.toUInt64 >>> ((8 : Int32) &&& 0x3f).toInt64.toUInt64).toInt64) &&& (255 : Int64)).toInt32)
    have := c_i2c ((((k3.toUInt64 >>> ((8 : Int32) &&& 0x3f).toInt64.toUInt64).toInt64) &&& (255 : Int64)).toInt32)
    have := rng32 (((((k3.toUInt64 >>> ((8 : Int32) &&& 0x3f).toInt64.toUInt64).toInt64) &&& (255 : Int64)).toInt32).toUInt32.toUInt16.toUInt32.toInt32)
    omega
  have nd_1829 : nar .char d_1829 = d_1829 := own_nc k_1830.1
  refine Go.stC (pc' := 36) (k := 1) A_1824 rfl (by show 1 < 6; decide) at_35 g_1815 rfl ?_
  intro h_1831 W_1832 A_1833
  rw [nd_1829] at W_1832 A_1833
  have t_1835 : a_1810 < h_1831.size := Nat.lt_of_lt_of_le t_1826 (Nat.le_of_eq W_1832.size.symm)
  have z_1836 : n0 ≤ h_1831.size := Nat.le_trans z_1827 (Nat.le_of_eq W_1832.size.symm)
  have O_1837 : Old Z n0 h_1831 := O_1828.wr W_1832 g_1815
  have f_1834 : Sta Z h_1831 "java/lang/String" "COMPACT_STRINGS" "Z" (.int cs) := Sta.ext O_1837.2 hSCS
  change Ary Z h_1831 a_1810 .char [(.int d_1820), (.int d_1829), (.int (0 : Int32)), (.int (0 : Int32)), (.int (0 : Int32)), (.int (0 : Int32))] at A_1833
  refine Go.aload (pc' := 38) at_36 rfl rfl rfl ?_
  refine Go.iconst (pc' := 39) (v := (2 : Int32)) at_38 rfl rfl ?_
  refine Go.lloadN (pc' := 40) at_39 rfl rfl ?_
  refine Go.bipush (pc' := 42) (v := (16 : Int32)) at_40 rfl rfl ?_
  refine Go.lushr (pc' := 43) at_42 rfl ?_
  refine Go.ldcL (pc' := 46) (hw _ (List.mem_of_getElem? (i := 1) rfl)) at_43 rfl ?_
  refine Go.land (pc' := 47) at_46 rfl ?_
  refine Go.l2i (pc' := 48) at_47 rfl ?_
  refine Go.i2c (pc' := 49) at_48 rfl ?_
  generalize ed_1838 : ((((k3.toUInt64 >>> ((16 : Int32) &&& 0x3f).toInt64.toUInt64).toInt64) &&& (255 : Int64)).toInt32).toUInt32.toUInt16.toUInt32.toInt32 = d_1838
  have k_1839 : (0 ≤ d_1838.toInt ∧ d_1838.toInt < 65536) ∧ d_1838.toInt < 256 := by
    rw [← ed_1838]
    have : (16 : Int32).toInt = 16 := by decide
    have := c_lushr k3 (16 : Int32) 16 (by decide) (by decide)
    have := rng64 ((k3.toUInt64 >>> ((16 : Int32) &&& 0x3f).toInt64.toUInt64).toInt64)
    have := rng64 k3
    have : (255 : Int64).toInt = 255 := by decide
    have := c_maskL ((k3.toUInt64 >>> ((16 : Int32) &&& 0x3f).toInt64.toUInt64).toInt64) (255 : Int64) 8 (by decide) (by decide)
    have := rng64 (((k3.toUInt64 >>> ((16 : Int32) &&& 0x3f).toInt64.toUInt64).toInt64) &&& (255 : Int64))
    have := c_l2i (((k3.toUInt64 >>> ((16 : Int32) &&& 0x3f).toInt64.toUInt64).toInt64) &&& (255 : Int64))
    have := rng32 ((((k3.toUInt64 >>> ((16 : Int32) &&& 0x3f).toInt64.toUInt64).toInt64) &&& (255 : Int64)).toInt32)
    have := c_i2c ((((k3.toUInt64 >>> ((16 : Int32) &&& 0x3f).toInt64.toUInt64).toInt64) &&& (255 : Int64)).toInt32)
    have := rng32 (((((k3.toUInt64 >>> ((16 : Int32) &&& 0x3f).toInt64.toUInt64).toInt64) &&& (255 : Int64)).toInt32).toUInt32.toUInt16.toUInt32.toInt32)
    omega
  have nd_1838 : nar .char d_1838 = d_1838 := own_nc k_1839.1
  refine Go.stC (pc' := 50) (k := 2) A_1833 rfl (by show 2 < 6; decide) at_49 g_1815 rfl ?_
  intro h_1840 W_1841 A_1842
  rw [nd_1838] at W_1841 A_1842
  have t_1844 : a_1810 < h_1840.size := Nat.lt_of_lt_of_le t_1835 (Nat.le_of_eq W_1841.size.symm)
  have z_1845 : n0 ≤ h_1840.size := Nat.le_trans z_1836 (Nat.le_of_eq W_1841.size.symm)
  have O_1846 : Old Z n0 h_1840 := O_1837.wr W_1841 g_1815
  have f_1843 : Sta Z h_1840 "java/lang/String" "COMPACT_STRINGS" "Z" (.int cs) := Sta.ext O_1846.2 hSCS
  change Ary Z h_1840 a_1810 .char [(.int d_1820), (.int d_1829), (.int d_1838), (.int (0 : Int32)), (.int (0 : Int32)), (.int (0 : Int32))] at A_1842
  refine Go.aload (pc' := 52) at_50 rfl rfl rfl ?_
  refine Go.iconst (pc' := 53) (v := (3 : Int32)) at_52 rfl rfl ?_
  refine Go.lloadN (pc' := 54) at_53 rfl rfl ?_
  refine Go.bipush (pc' := 56) (v := (24 : Int32)) at_54 rfl rfl ?_
  refine Go.lushr (pc' := 57) at_56 rfl ?_
  refine Go.ldcL (pc' := 60) (hw _ (List.mem_of_getElem? (i := 1) rfl)) at_57 rfl ?_
  refine Go.land (pc' := 61) at_60 rfl ?_
  refine Go.l2i (pc' := 62) at_61 rfl ?_
  refine Go.i2c (pc' := 63) at_62 rfl ?_
  generalize ed_1847 : ((((k3.toUInt64 >>> ((24 : Int32) &&& 0x3f).toInt64.toUInt64).toInt64) &&& (255 : Int64)).toInt32).toUInt32.toUInt16.toUInt32.toInt32 = d_1847
  have k_1848 : (0 ≤ d_1847.toInt ∧ d_1847.toInt < 65536) ∧ d_1847.toInt < 256 := by
    rw [← ed_1847]
    have : (24 : Int32).toInt = 24 := by decide
    have := c_lushr k3 (24 : Int32) 24 (by decide) (by decide)
    have := rng64 ((k3.toUInt64 >>> ((24 : Int32) &&& 0x3f).toInt64.toUInt64).toInt64)
    have := rng64 k3
    have : (255 : Int64).toInt = 255 := by decide
    have := c_maskL ((k3.toUInt64 >>> ((24 : Int32) &&& 0x3f).toInt64.toUInt64).toInt64) (255 : Int64) 8 (by decide) (by decide)
    have := rng64 (((k3.toUInt64 >>> ((24 : Int32) &&& 0x3f).toInt64.toUInt64).toInt64) &&& (255 : Int64))
    have := c_l2i (((k3.toUInt64 >>> ((24 : Int32) &&& 0x3f).toInt64.toUInt64).toInt64) &&& (255 : Int64))
    have := rng32 ((((k3.toUInt64 >>> ((24 : Int32) &&& 0x3f).toInt64.toUInt64).toInt64) &&& (255 : Int64)).toInt32)
    have := c_i2c ((((k3.toUInt64 >>> ((24 : Int32) &&& 0x3f).toInt64.toUInt64).toInt64) &&& (255 : Int64)).toInt32)
    have := rng32 (((((k3.toUInt64 >>> ((24 : Int32) &&& 0x3f).toInt64.toUInt64).toInt64) &&& (255 : Int64)).toInt32).toUInt32.toUInt16.toUInt32.toInt32)
    omega
  have nd_1847 : nar .char d_1847 = d_1847 := own_nc k_1848.1
  refine Go.stC (pc' := 64) (k := 3) A_1842 rfl (by show 3 < 6; decide) at_63 g_1815 rfl ?_
  intro h_1849 W_1850 A_1851
  rw [nd_1847] at W_1850 A_1851
  have t_1853 : a_1810 < h_1849.size := Nat.lt_of_lt_of_le t_1844 (Nat.le_of_eq W_1850.size.symm)
  have z_1854 : n0 ≤ h_1849.size := Nat.le_trans z_1845 (Nat.le_of_eq W_1850.size.symm)
  have O_1855 : Old Z n0 h_1849 := O_1846.wr W_1850 g_1815
  have f_1852 : Sta Z h_1849 "java/lang/String" "COMPACT_STRINGS" "Z" (.int cs) := Sta.ext O_1855.2 hSCS
  change Ary Z h_1849 a_1810 .char [(.int d_1820), (.int d_1829), (.int d_1838), (.int d_1847), (.int (0 : Int32)), (.int (0 : Int32))] at A_1851
  refine Go.aload (pc' := 66) at_64 rfl rfl rfl ?_
  refine Go.iconst (pc' := 67) (v := (4 : Int32)) at_66 rfl rfl ?_
  refine Go.lloadN (pc' := 68) at_67 rfl rfl ?_
  refine Go.bipush (pc' := 70) (v := (32 : Int32)) at_68 rfl rfl ?_
  refine Go.lushr (pc' := 71) at_70 rfl ?_
  refine Go.ldcL (pc' := 74) (hw _ (List.mem_of_getElem? (i := 1) rfl)) at_71 rfl ?_
  refine Go.land (pc' := 75) at_74 rfl ?_
  refine Go.l2i (pc' := 76) at_75 rfl ?_
  refine Go.i2c (pc' := 77) at_76 rfl ?_
  generalize ed_1856 : ((((k3.toUInt64 >>> ((32 : Int32) &&& 0x3f).toInt64.toUInt64).toInt64) &&& (255 : Int64)).toInt32).toUInt32.toUInt16.toUInt32.toInt32 = d_1856
  have k_1857 : (0 ≤ d_1856.toInt ∧ d_1856.toInt < 65536) ∧ d_1856.toInt < 256 := by
    rw [← ed_1856]
    have : (32 : Int32).toInt = 32 := by decide
    have := c_lushr k3 (32 : Int32) 32 (by decide) (by decide)
    have := rng64 ((k3.toUInt64 >>> ((32 : Int32) &&& 0x3f).toInt64.toUInt64).toInt64)
    have := rng64 k3
    have : (255 : Int64).toInt = 255 := by decide
    have := c_maskL ((k3.toUInt64 >>> ((32 : Int32) &&& 0x3f).toInt64.toUInt64).toInt64) (255 : Int64) 8 (by decide) (by decide)
    have := rng64 (((k3.toUInt64 >>> ((32 : Int32) &&& 0x3f).toInt64.toUInt64).toInt64) &&& (255 : Int64))
    have := c_l2i (((k3.toUInt64 >>> ((32 : Int32) &&& 0x3f).toInt64.toUInt64).toInt64) &&& (255 : Int64))
    have := rng32 ((((k3.toUInt64 >>> ((32 : Int32) &&& 0x3f).toInt64.toUInt64).toInt64) &&& (255 : Int64)).toInt32)
    have := c_i2c ((((k3.toUInt64 >>> ((32 : Int32) &&& 0x3f).toInt64.toUInt64).toInt64) &&& (255 : Int64)).toInt32)
    have := rng32 (((((k3.toUInt64 >>> ((32 : Int32) &&& 0x3f).toInt64.toUInt64).toInt64) &&& (255 : Int64)).toInt32).toUInt32.toUInt16.toUInt32.toInt32)
    omega
  have nd_1856 : nar .char d_1856 = d_1856 := own_nc k_1857.1
  refine Go.stC (pc' := 78) (k := 4) A_1851 rfl (by show 4 < 6; decide) at_77 g_1815 rfl ?_
  intro h_1858 W_1859 A_1860
  rw [nd_1856] at W_1859 A_1860
  have t_1862 : a_1810 < h_1858.size := Nat.lt_of_lt_of_le t_1853 (Nat.le_of_eq W_1859.size.symm)
  have z_1863 : n0 ≤ h_1858.size := Nat.le_trans z_1854 (Nat.le_of_eq W_1859.size.symm)
  have O_1864 : Old Z n0 h_1858 := O_1855.wr W_1859 g_1815
  have f_1861 : Sta Z h_1858 "java/lang/String" "COMPACT_STRINGS" "Z" (.int cs) := Sta.ext O_1864.2 hSCS
  change Ary Z h_1858 a_1810 .char [(.int d_1820), (.int d_1829), (.int d_1838), (.int d_1847), (.int d_1856), (.int (0 : Int32))] at A_1860
  refine Go.aload (pc' := 80) at_78 rfl rfl rfl ?_
  refine Go.iconst (pc' := 81) (v := (5 : Int32)) at_80 rfl rfl ?_
  refine Go.lloadN (pc' := 82) at_81 rfl rfl ?_
  refine Go.bipush (pc' := 84) (v := (40 : Int32)) at_82 rfl rfl ?_
  refine Go.lushr (pc' := 85) at_84 rfl ?_
  refine Go.ldcL (pc' := 88) (hw _ (List.mem_of_getElem? (i := 1) rfl)) at_85 rfl ?_
  refine Go.land (pc' := 89) at_88 rfl ?_
  refine Go.l2i (pc' := 90) at_89 rfl ?_
  refine Go.i2c (pc' := 91) at_90 rfl ?_
  generalize ed_1865 : ((((k3.toUInt64 >>> ((40 : Int32) &&& 0x3f).toInt64.toUInt64).toInt64) &&& (255 : Int64)).toInt32).toUInt32.toUInt16.toUInt32.toInt32 = d_1865
  have k_1866 : (0 ≤ d_1865.toInt ∧ d_1865.toInt < 65536) ∧ d_1865.toInt < 256 := by
    rw [← ed_1865]
    have : (40 : Int32).toInt = 40 := by decide
    have := c_lushr k3 (40 : Int32) 40 (by decide) (by decide)
    have := rng64 ((k3.toUInt64 >>> ((40 : Int32) &&& 0x3f).toInt64.toUInt64).toInt64)
    have := rng64 k3
    have : (255 : Int64).toInt = 255 := by decide
    have := c_maskL ((k3.toUInt64 >>> ((40 : Int32) &&& 0x3f).toInt64.toUInt64).toInt64) (255 : Int64) 8 (by decide) (by decide)
    have := rng64 (((k3.toUInt64 >>> ((40 : Int32) &&& 0x3f).toInt64.toUInt64).toInt64) &&& (255 : Int64))
    have := c_l2i (((k3.toUInt64 >>> ((40 : Int32) &&& 0x3f).toInt64.toUInt64).toInt64) &&& (255 : Int64))
    have := rng32 ((((k3.toUInt64 >>> ((40 : Int32) &&& 0x3f).toInt64.toUInt64).toInt64) &&& (255 : Int64)).toInt32)
    have := c_i2c ((((k3.toUInt64 >>> ((40 : Int32) &&& 0x3f).toInt64.toUInt64).toInt64) &&& (255 : Int64)).toInt32)
    have := rng32 (((((k3.toUInt64 >>> ((40 : Int32) &&& 0x3f).toInt64.toUInt64).toInt64) &&& (255 : Int64)).toInt32).toUInt32.toUInt16.toUInt32.toInt32)
    omega
  have nd_1865 : nar .char d_1865 = d_1865 := own_nc k_1866.1
  refine Go.stC (pc' := 92) (k := 5) A_1860 rfl (by show 5 < 6; decide) at_91 g_1815 rfl ?_
  intro h_1867 W_1868 A_1869
  rw [nd_1865] at W_1868 A_1869
  have t_1871 : a_1810 < h_1867.size := Nat.lt_of_lt_of_le t_1862 (Nat.le_of_eq W_1868.size.symm)
  have z_1872 : n0 ≤ h_1867.size := Nat.le_trans z_1863 (Nat.le_of_eq W_1868.size.symm)
  have O_1873 : Old Z n0 h_1867 := O_1864.wr W_1868 g_1815
  have f_1870 : Sta Z h_1867 "java/lang/String" "COMPACT_STRINGS" "Z" (.int cs) := Sta.ext O_1873.2 hSCS
  change Ary Z h_1867 a_1810 .char [(.int d_1820), (.int d_1829), (.int d_1838), (.int d_1847), (.int d_1856), (.int d_1865)] at A_1869
  have J1 : ∀ (h1 : Heap) (d0 d1 d2 d3 d4 d5 : Int32), n0 ≤ h1.size → Old Z n0 h1 → Ary Z h1 a_1810 .char [.int d0, .int d1, .int d2, .int d3, .int d4, .int d5] → (0 ≤ d0.toInt ∧ d0.toInt < 65536) ∧ d0.toInt < 256 → (0 ≤ d1.toInt ∧ d1.toInt < 65536) ∧ d1.toInt < 256 → (0 ≤ d2.toInt ∧ d2.toInt < 65536) ∧ d2.toInt < 256 → (0 ≤ d3.toInt ∧ d3.toInt < 65536) ∧ d3.toInt < 256 → (0 ≤ d4.toInt ∧ d4.toInt < 65536) ∧ d4.toInt < 256 → (0 ≤ d5.toInt ∧ d5.toInt < 65536) ∧ d5.toInt < 256 → (Go (Wd.h (fun vm => IB Z vm []) (fun vm => IB Z vm ["S256", "plain", ""]) (ibE own_s0) h0 n0) l room_1 Z x code maxLocals ret n0 24 3200 (fun v h => v = some (.int 1))) h1 (0 + 1) (0 + 6) 184 #[.val (.int k0), .val (.int k1), .val (.int k2), .val (.long k3), .second, .val (.int k4), .val (.int m_1807), .val (.ref a_1810), .unset, .unset, .unset, .unset] [] := by
    rintro h1 d0 d1 d2 d3 d4 d5 z1 O1 hT ⟨hd0, hdd0⟩ ⟨hd1, hdd1⟩ ⟨hd2, hdd2⟩ ⟨hd3, hdd3⟩ ⟨hd4, hdd4⟩ ⟨hd5, hdd5⟩
    refine Go.iload (pc' := 186) at_184 rfl rfl ?_
    refine Go.ldcI (pc' := 188) (hw _ (List.mem_of_getElem? (i := 2) rfl)) at_186 rfl ?_
    refine Go.iand (pc' := 189) at_188 rfl ?_
    refine Go.bipush (pc' := 191) (v := (7 : Int32)) at_189 rfl rfl ?_
    refine Go.irem (pc' := 192) at_191 (by decide) rfl ?_
    generalize en_1874 : (k4 &&& (2147483647 : Int32)) % (7 : Int32) = n_1874
    have k_1875 : n_1874.toInt = 0 ∨ n_1874.toInt = 1 ∨ n_1874.toInt = 2 ∨ n_1874.toInt = 3 ∨ n_1874.toInt = 4 ∨ n_1874.toInt = 5 ∨ n_1874.toInt = 6 := by
      rw [← en_1874]
      have : (2147483647 : Int32).toInt = 2147483647 := by decide
      have := c_mask k4 (2147483647 : Int32) 31 (by decide) (by decide)
      have := rng32 (k4 &&& (2147483647 : Int32))
      have := rng32 k4
      have : (7 : Int32).toInt = 7 := by decide
      have := c_irem (k4 &&& (2147483647 : Int32)) (7 : Int32) 7 (by decide)
      have := rng32 ((k4 &&& (2147483647 : Int32)) % (7 : Int32))
      omega
    have J2 : ∀ (h2 : Heap) (s o : Addr) (W : List Int32) (nn : Int32), n0 ≤ h2.size → Old Z n0 h2 → W.length ≤ 6 → Exa Z h2 s "java/lang/String" → Fld Z h2 s "java/lang/String" "value" "[B" (.ref o) → Fld Z h2 s "java/lang/String" "coder" "B" (.int (0 : Int32)) → Ary Z h2 o .byte (W.map Value.int) → (Go (Wd.h (fun vm => IB Z vm [""]) (fun vm => IB Z vm ["S256", "plain", ""]) (ibE own_s1) h0 n0) l room_1 Z x code maxLocals ret n0 24 3200 (fun v h => v = some (.int 1))) h2 (0 + 1 + 4) (0 + 6 + 28) 211 #[.val (.int k0), .val (.int k1), .val (.int k2), .val (.long k3), .second, .val (.int k4), .val (.int m_1807), .val (.ref a_1810), .val (.int nn), .unset, .unset, .unset] [(.ref s)] := by
      intro h2 s o W nn z2 O2 hW6 hsX hsV hsC hsY
      have B_1876 : Ary Z h2 b (.object "com/example/consentry/consentry/authorization/CodeChallengeMethod") [(.ref u0), (.ref u1)] := hAV.sm (Sm.ext O2.2)
      have B_1877 : Exa Z h2 b "[Lcom/example/consentry/consentry/authorization/CodeChallengeMethod;" := hEV.sm (Sm.ext O2.2)
      have B_1878 : Exa Z h2 u0 "com/example/consentry/consentry/authorization/CodeChallengeMethod" := hU0.sm (Sm.ext O2.2)
      have B_1879 : Fld Z h2 u0 "com/example/consentry/consentry/authorization/CodeChallengeMethod" "spelling" "Ljava/lang/String;" (.ref p0) := hF0.sm (Sm.ext O2.2)
      have B_1880 : Exa Z h2 p0 "java/lang/String" := hXp0.sm (Sm.ext O2.2)
      have B_1881 : Fld Z h2 p0 "java/lang/String" "value" "[B" (.ref y0) := hVp0.sm (Sm.ext O2.2)
      have B_1882 : Fld Z h2 p0 "java/lang/String" "coder" "B" (.int (0 : Int32)) := hCp0.sm (Sm.ext O2.2)
      have B_1883 : Ary Z h2 y0 .byte (own_pl.map Value.int) := hYp0.sm (Sm.ext O2.2)
      have B_1884 : Exa Z h2 u1 "com/example/consentry/consentry/authorization/CodeChallengeMethod" := hU1.sm (Sm.ext O2.2)
      have B_1885 : Fld Z h2 u1 "com/example/consentry/consentry/authorization/CodeChallengeMethod" "spelling" "Ljava/lang/String;" (.ref p1) := hF1.sm (Sm.ext O2.2)
      have B_1886 : Exa Z h2 p1 "java/lang/String" := hXp1.sm (Sm.ext O2.2)
      have B_1887 : Fld Z h2 p1 "java/lang/String" "value" "[B" (.ref y1) := hVp1.sm (Sm.ext O2.2)
      have B_1888 : Fld Z h2 p1 "java/lang/String" "coder" "B" (.int (0 : Int32)) := hCp1.sm (Sm.ext O2.2)
      have B_1889 : Ary Z h2 y1 .byte (own_sb.map Value.int) := hYp1.sm (Sm.ext O2.2)
      refine Go.astore (pc' := 213) (Ls' := #[.val (.int k0), .val (.int k1), .val (.int k2), .val (.long k3), .second, .val (.int k4), .val (.int m_1807), .val (.ref a_1810), .val (.int nn), .val (.ref s), .unset, .unset]) at_211 rfl rfl rfl ?_
      refine Go.aload (pc' := 215) at_213 rfl rfl rfl ?_
      refine Go.callS (pc' := 218) (argsL := [(.ref s)]) (rest := []) (W := 0) (hw _ (List.mem_of_getElem? (i := 28) rfl)) (hw _ (List.mem_of_getElem? (i := 29) rfl)) (hw _ (List.mem_of_getElem? (i := 30) rfl)) (hw _ (List.mem_of_getElem? (i := 31) rfl)) (by decide) (m_ps1 l Z a0 hw b u0 u1 p0 p1 y0 y1 s o W cs h2 n0 z2 O2 hSCS hcs (Sta.ext O2.2 hSV) B_1876 B_1877 B_1878 B_1879 B_1880 B_1881 B_1882 B_1883 B_1884 B_1885 B_1886 B_1887 B_1888 B_1889 hsX hsV hsC hsY hW6) at_215 rfl pd8 rfl rfl (Nat.le_of_eq rfl) (by decide) (by decide) (by decide) (by decide) rfl ?_
      rintro _ h_1890 ⟨v1, rfl, K_1891, hv⟩
      have f_1895 : Ary Z h_1890 b (.object "com/example/consentry/consentry/authorization/CodeChallengeMethod") [(.ref u0), (.ref u1)] := B_1876.sm (Sm.keep K_1891 nin0)
      have f_1896 : Exa Z h_1890 b "[Lcom/example/consentry/consentry/authorization/CodeChallengeMethod;" := B_1877.sm (Sm.keep K_1891 nin0)
      have f_1897 : Exa Z h_1890 u0 "com/example/consentry/consentry/authorization/CodeChallengeMethod" := B_1878.sm (Sm.keep K_1891 nin0)
      have f_1898 : Fld Z h_1890 u0 "com/example/consentry/consentry/authorization/CodeChallengeMethod" "spelling" "Ljava/lang/String;" (.ref p0) := B_1879.sm (Sm.keep K_1891 nin0)
      have f_1899 : Exa Z h_1890 p0 "java/lang/String" := B_1880.sm (Sm.keep K_1891 nin0)
      have f_1900 : Fld Z h_1890 p0 "java/lang/String" "value" "[B" (.ref y0) := B_1881.sm (Sm.keep K_1891 nin0)
      have f_1901 : Fld Z h_1890 p0 "java/lang/String" "coder" "B" (.int (0 : Int32)) := B_1882.sm (Sm.keep K_1891 nin0)
      have f_1902 : Ary Z h_1890 y0 .byte (own_pl.map Value.int) := B_1883.sm (Sm.keep K_1891 nin0)
      have f_1903 : Exa Z h_1890 u1 "com/example/consentry/consentry/authorization/CodeChallengeMethod" := B_1884.sm (Sm.keep K_1891 nin0)
      have f_1904 : Fld Z h_1890 u1 "com/example/consentry/consentry/authorization/CodeChallengeMethod" "spelling" "Ljava/lang/String;" (.ref p1) := B_1885.sm (Sm.keep K_1891 nin0)
      have f_1905 : Exa Z h_1890 p1 "java/lang/String" := B_1886.sm (Sm.keep K_1891 nin0)
      have f_1906 : Fld Z h_1890 p1 "java/lang/String" "value" "[B" (.ref y1) := B_1887.sm (Sm.keep K_1891 nin0)
      have f_1907 : Fld Z h_1890 p1 "java/lang/String" "coder" "B" (.int (0 : Int32)) := B_1888.sm (Sm.keep K_1891 nin0)
      have f_1908 : Ary Z h_1890 y1 .byte (own_sb.map Value.int) := B_1889.sm (Sm.keep K_1891 nin0)
      have f_1909 : Exa Z h_1890 s "java/lang/String" := hsX.sm (Sm.keep K_1891 nin0)
      have f_1910 : Fld Z h_1890 s "java/lang/String" "value" "[B" (.ref o) := hsV.sm (Sm.keep K_1891 nin0)
      have f_1911 : Fld Z h_1890 s "java/lang/String" "coder" "B" (.int (0 : Int32)) := hsC.sm (Sm.keep K_1891 nin0)
      have f_1912 : Ary Z h_1890 o .byte (W.map Value.int) := hsY.sm (Sm.keep K_1891 nin0)
      have z_1913 : n0 ≤ h_1890.size := Nat.le_trans z2 K_1891.1
      have O_1914 : Old Z n0 h_1890 := O2.keep K_1891 all0
      have f_1892 : Sta Z h_1890 "java/lang/String" "COMPACT_STRINGS" "Z" (.int cs) := Sta.ext O_1914.2 hSCS
      have f_1893 : Sta Z h_1890 "com/example/consentry/consentry/authorization/CodeChallengeMethod" "PLAIN" "Lcom/example/consentry/consentry/authorization/CodeChallengeMethod;" (.ref u0) := Sta.ext O_1914.2 hSP
      have f_1894 : Sta Z h_1890 "com/example/consentry/consentry/authorization/CodeChallengeMethod" "S256" "Lcom/example/consentry/consentry/authorization/CodeChallengeMethod;" (.ref u1) := Sta.ext O_1914.2 hSS
      rcases hv with ⟨w1, rfl⟩ | ⟨w1, w2, rfl⟩ | ⟨w1, w2, rfl⟩
      · show (Go _ l room_1 Z x code maxLocals ret n0 24 3200 (fun v h => v = some (.int 1))) h_1890 (0 + 1 + 4 + 1) (0 + 6 + 28 + 2) 218 #[.val (.int k0), .val (.int k1), .val (.int k2), .val (.long k3), .second, .val (.int k4), .val (.int m_1807), .val (.ref a_1810), .val (.int nn), .val (.ref s), .unset, .unset] [(.ref u0)]
        refine Go.astore (pc' := 220) (Ls' := #[.val (.int k0), .val (.int k1), .val (.int k2), .val (.long k3), .second, .val (.int k4), .val (.int m_1807), .val (.ref a_1810), .val (.int nn), .val (.ref s), .val (.ref u0), .unset]) at_218 rfl rfl rfl ?_
        refine Go.aconstNull (pc' := 221) at_220 rfl ?_
        refine Go.astore (pc' := 223) (Ls' := #[.val (.int k0), .val (.int k1), .val (.int k2), .val (.long k3), .second, .val (.int k4), .val (.int m_1807), .val (.ref a_1810), .val (.int nn), .val (.ref s), .val (.ref u0), .val .null]) at_221 rfl rfl rfl ?_
        refine Go.aload (pc' := 225) at_223 rfl rfl rfl ?_
        refine Go.nullNo (pc' := 228) at_225 rfl ?_
        refine Go.aload (pc' := 230) at_228 rfl rfl rfl ?_
        refine Go.ldcV (pc' := 232) (text := "plain") (n := 20) (n1 := n0) (Ts := [""]) (vs := own_pl.map Value.int) (z := (5 : Int32)) (hw _ (List.mem_of_getElem? (i := 62) rfl)) (strAtoms l Z a0 hw) (fun _ k => k) (by decide) (fun b cl q => hO.2.2 b cl q) (Nat.le_of_eq hsz) hH1 hcw ⟨by decide, by decide⟩ rfl at_230 (by decide) (by decide) (by decide) (by decide) rfl (ibE (by decide)) (Nat.le_refl _) (Nat.le_refl _) ?_
        intro h_1915 x_1916 o_1917 E_1918 X_1919 F_1920 F_1921 A_1922
        have f_1923 : Ary Z h_1915 b (.object "com/example/consentry/consentry/authorization/CodeChallengeMethod") [(.ref u0), (.ref u1)] := f_1895.sm (Sm.ext E_1918)
        have f_1924 : Exa Z h_1915 b "[Lcom/example/consentry/consentry/authorization/CodeChallengeMethod;" := f_1896.sm (Sm.ext E_1918)
        have f_1925 : Exa Z h_1915 u0 "com/example/consentry/consentry/authorization/CodeChallengeMethod" := f_1897.sm (Sm.ext E_1918)
        have f_1926 : Fld Z h_1915 u0 "com/example/consentry/consentry/authorization/CodeChallengeMethod" "spelling" "Ljava/lang/String;" (.ref p0) := f_1898.sm (Sm.ext E_1918)
        have f_1927 : Exa Z h_1915 p0 "java/lang/String" := f_1899.sm (Sm.ext E_1918)
        have f_1928 : Fld Z h_1915 p0 "java/lang/String" "value" "[B" (.ref y0) := f_1900.sm (Sm.ext E_1918)
        have f_1929 : Fld Z h_1915 p0 "java/lang/String" "coder" "B" (.int (0 : Int32)) := f_1901.sm (Sm.ext E_1918)
        have f_1930 : Ary Z h_1915 y0 .byte (own_pl.map Value.int) := f_1902.sm (Sm.ext E_1918)
        have f_1931 : Exa Z h_1915 u1 "com/example/consentry/consentry/authorization/CodeChallengeMethod" := f_1903.sm (Sm.ext E_1918)
        have f_1932 : Fld Z h_1915 u1 "com/example/consentry/consentry/authorization/CodeChallengeMethod" "spelling" "Ljava/lang/String;" (.ref p1) := f_1904.sm (Sm.ext E_1918)
        have f_1933 : Exa Z h_1915 p1 "java/lang/String" := f_1905.sm (Sm.ext E_1918)
        have f_1934 : Fld Z h_1915 p1 "java/lang/String" "value" "[B" (.ref y1) := f_1906.sm (Sm.ext E_1918)
        have f_1935 : Fld Z h_1915 p1 "java/lang/String" "coder" "B" (.int (0 : Int32)) := f_1907.sm (Sm.ext E_1918)
        have f_1936 : Ary Z h_1915 y1 .byte (own_sb.map Value.int) := f_1908.sm (Sm.ext E_1918)
        have f_1937 : Exa Z h_1915 s "java/lang/String" := f_1909.sm (Sm.ext E_1918)
        have f_1938 : Fld Z h_1915 s "java/lang/String" "value" "[B" (.ref o) := f_1910.sm (Sm.ext E_1918)
        have f_1939 : Fld Z h_1915 s "java/lang/String" "coder" "B" (.int (0 : Int32)) := f_1911.sm (Sm.ext E_1918)
        have f_1940 : Ary Z h_1915 o .byte (W.map Value.int) := f_1912.sm (Sm.ext E_1918)
        have z_1944 : n0 ≤ h_1915.size := Nat.le_trans z_1913 E_1918.1
        have O_1945 : Old Z n0 h_1915 := O_1914.ext E_1918
        have f_1941 : Sta Z h_1915 "java/lang/String" "COMPACT_STRINGS" "Z" (.int cs) := Sta.ext O_1945.2 hSCS
        have f_1942 : Sta Z h_1915 "com/example/consentry/consentry/authorization/CodeChallengeMethod" "PLAIN" "Lcom/example/consentry/consentry/authorization/CodeChallengeMethod;" (.ref u0) := Sta.ext O_1945.2 hSP
        have f_1943 : Sta Z h_1915 "com/example/consentry/consentry/authorization/CodeChallengeMethod" "S256" "Lcom/example/consentry/consentry/authorization/CodeChallengeMethod;" (.ref u1) := Sta.ext O_1945.2 hSS
        show (Go _ l room_1 Z x code maxLocals ret n0 24 3200 (fun v h => v = some (.int 1))) h_1915 (0 + 1 + 4 + 1 + 2) (0 + 6 + 28 + 2 + (20 + 4)) 232 #[.val (.int k0), .val (.int k1), .val (.int k2), .val (.long k3), .second, .val (.int k4), .val (.int m_1807), .val (.ref a_1810), .val (.int nn), .val (.ref s), .val (.ref u0), .val .null] [(.ref x_1916), (.ref s)]
        refine Go.callV (pc' := 235) (argsL := [(.ref x_1916)]) (rest := []) (W := 0) (hw _ (List.mem_of_getElem? (i := 63) rfl)) (hw _ (List.mem_of_getElem? (i := 52) rfl)) (hw _ (List.mem_of_getElem? (i := 54) rfl)) (hw _ (List.mem_of_getElem? (i := 53) rfl)) (hw _ (List.mem_of_getElem? (i := 9) rfl)) (hw _ (List.mem_of_getElem? (i := 55) rfl)) (by decide) f_1937 (m_eq l Z a0 hw s o x_1916 o_1917 W own_pl cs h_1915 n0 z_1944 O_1945 hSCS hcs f_1937 f_1938 f_1939 f_1940 X_1919 F_1921 F_1920 A_1922 (by omega) (by decide)) at_232 rfl pd7 rfl rfl (Nat.le_of_eq rfl) (by decide) (by decide) (by decide) (by decide) rfl ?_
        rintro _ _ ⟨r1, rfl, rfl, hr1, ir1⟩
        show (Go _ l room_1 Z x code maxLocals ret n0 24 3200 (fun v h => v = some (.int 1))) h_1915 (0 + 1 + 4 + 1 + 2 + 0) (0 + 6 + 28 + 2 + (20 + 4) + 0) 235 #[.val (.int k0), .val (.int k1), .val (.int k2), .val (.long k3), .second, .val (.int k4), .val (.int m_1807), .val (.ref a_1810), .val (.int nn), .val (.ref s), .val (.ref u0), .val .null] [(.int r1)]
        have e1 := ir1.mpr w1
        refine Go.ifc (pc1 := 246) (pc2 := 238) at_235 (by decide) (by decide) rfl (fun (c_1946 : r1.toInt = 0) => ?_) (fun (c_1946 : r1.toInt ≠ 0) => ?_)
        · exfalso; omega
        refine Go.getS (pc' := 241) (hw _ (List.mem_of_getElem? (i := 76) rfl)) f_1942 at_238 rfl ?_
        refine Go.astore (pc' := 243) (Ls' := #[.val (.int k0), .val (.int k1), .val (.int k2), .val (.long k3), .second, .val (.int k4), .val (.int m_1807), .val (.ref a_1810), .val (.int nn), .val (.ref s), .val (.ref u0), .val (.ref u0)]) at_241 rfl rfl rfl ?_
        refine Go.goto (pc' := 261) at_243 (by decide) (by decide) ?_
        refine Go.aload (pc' := 263) at_261 rfl rfl rfl ?_
        refine Go.aload (pc' := 265) at_263 rfl rfl rfl ?_
        refine Go.acmp (pc1 := 268) (pc2 := 272) at_265 rfl rfl (by decide) (by decide) (by decide) (fun c_1947 => ?_) (fun c_1947 => absurd rfl c_1947)
        refine Go.iconst (pc' := 269) (v := (1 : Int32)) at_268 rfl rfl ?_
        refine Go.goto (pc' := 273) at_269 (by decide) (by decide) ?_
        exact Go.retN (t := .boolean) at_273 rfl (by simp) rfl rfl (by decide) (by decide)
      · show (Go _ l room_1 Z x code maxLocals ret n0 24 3200 (fun v h => v = some (.int 1))) h_1890 (0 + 1 + 4 + 1) (0 + 6 + 28 + 2) 218 #[.val (.int k0), .val (.int k1), .val (.int k2), .val (.long k3), .second, .val (.int k4), .val (.int m_1807), .val (.ref a_1810), .val (.int nn), .val (.ref s), .unset, .unset] [(.ref u1)]
        refine Go.astore (pc' := 220) (Ls' := #[.val (.int k0), .val (.int k1), .val (.int k2), .val (.long k3), .second, .val (.int k4), .val (.int m_1807), .val (.ref a_1810), .val (.int nn), .val (.ref s), .val (.ref u1), .unset]) at_218 rfl rfl rfl ?_
        refine Go.aconstNull (pc' := 221) at_220 rfl ?_
        refine Go.astore (pc' := 223) (Ls' := #[.val (.int k0), .val (.int k1), .val (.int k2), .val (.long k3), .second, .val (.int k4), .val (.int m_1807), .val (.ref a_1810), .val (.int nn), .val (.ref s), .val (.ref u1), .val .null]) at_221 rfl rfl rfl ?_
        refine Go.aload (pc' := 225) at_223 rfl rfl rfl ?_
        refine Go.nullNo (pc' := 228) at_225 rfl ?_
        refine Go.aload (pc' := 230) at_228 rfl rfl rfl ?_
        refine Go.ldcV (pc' := 232) (text := "plain") (n := 20) (n1 := n0) (Ts := [""]) (vs := own_pl.map Value.int) (z := (5 : Int32)) (hw _ (List.mem_of_getElem? (i := 62) rfl)) (strAtoms l Z a0 hw) (fun _ k => k) (by decide) (fun b cl q => hO.2.2 b cl q) (Nat.le_of_eq hsz) hH1 hcw ⟨by decide, by decide⟩ rfl at_230 (by decide) (by decide) (by decide) (by decide) rfl (ibE (by decide)) (Nat.le_refl _) (Nat.le_refl _) ?_
        intro h_1948 x_1949 o_1950 E_1951 X_1952 F_1953 F_1954 A_1955
        have f_1956 : Ary Z h_1948 b (.object "com/example/consentry/consentry/authorization/CodeChallengeMethod") [(.ref u0), (.ref u1)] := f_1895.sm (Sm.ext E_1951)
        have f_1957 : Exa Z h_1948 b "[Lcom/example/consentry/consentry/authorization/CodeChallengeMethod;" := f_1896.sm (Sm.ext E_1951)
        have f_1958 : Exa Z h_1948 u0 "com/example/consentry/consentry/authorization/CodeChallengeMethod" := f_1897.sm (Sm.ext E_1951)
        have f_1959 : Fld Z h_1948 u0 "com/example/consentry/consentry/authorization/CodeChallengeMethod" "spelling" "Ljava/lang/String;" (.ref p0) := f_1898.sm (Sm.ext E_1951)
        have f_1960 : Exa Z h_1948 p0 "java/lang/String" := f_1899.sm (Sm.ext E_1951)
        have f_1961 : Fld Z h_1948 p0 "java/lang/String" "value" "[B" (.ref y0) := f_1900.sm (Sm.ext E_1951)
        have f_1962 : Fld Z h_1948 p0 "java/lang/String" "coder" "B" (.int (0 : Int32)) := f_1901.sm (Sm.ext E_1951)
        have f_1963 : Ary Z h_1948 y0 .byte (own_pl.map Value.int) := f_1902.sm (Sm.ext E_1951)
        have f_1964 : Exa Z h_1948 u1 "com/example/consentry/consentry/authorization/CodeChallengeMethod" := f_1903.sm (Sm.ext E_1951)
        have f_1965 : Fld Z h_1948 u1 "com/example/consentry/consentry/authorization/CodeChallengeMethod" "spelling" "Ljava/lang/String;" (.ref p1) := f_1904.sm (Sm.ext E_1951)
        have f_1966 : Exa Z h_1948 p1 "java/lang/String" := f_1905.sm (Sm.ext E_1951)
        have f_1967 : Fld Z h_1948 p1 "java/lang/String" "value" "[B" (.ref y1) := f_1906.sm (Sm.ext E_1951)
        have f_1968 : Fld Z h_1948 p1 "java/lang/String" "coder" "B" (.int (0 : Int32)) := f_1907.sm (Sm.ext E_1951)
        have f_1969 : Ary Z h_1948 y1 .byte (own_sb.map Value.int) := f_1908.sm (Sm.ext E_1951)
        have f_1970 : Exa Z h_1948 s "java/lang/String" := f_1909.sm (Sm.ext E_1951)
        have f_1971 : Fld Z h_1948 s "java/lang/String" "value" "[B" (.ref o) := f_1910.sm (Sm.ext E_1951)
        have f_1972 : Fld Z h_1948 s "java/lang/String" "coder" "B" (.int (0 : Int32)) := f_1911.sm (Sm.ext E_1951)
        have f_1973 : Ary Z h_1948 o .byte (W.map Value.int) := f_1912.sm (Sm.ext E_1951)
        have z_1977 : n0 ≤ h_1948.size := Nat.le_trans z_1913 E_1951.1
        have O_1978 : Old Z n0 h_1948 := O_1914.ext E_1951
        have f_1974 : Sta Z h_1948 "java/lang/String" "COMPACT_STRINGS" "Z" (.int cs) := Sta.ext O_1978.2 hSCS
        have f_1975 : Sta Z h_1948 "com/example/consentry/consentry/authorization/CodeChallengeMethod" "PLAIN" "Lcom/example/consentry/consentry/authorization/CodeChallengeMethod;" (.ref u0) := Sta.ext O_1978.2 hSP
        have f_1976 : Sta Z h_1948 "com/example/consentry/consentry/authorization/CodeChallengeMethod" "S256" "Lcom/example/consentry/consentry/authorization/CodeChallengeMethod;" (.ref u1) := Sta.ext O_1978.2 hSS
        show (Go _ l room_1 Z x code maxLocals ret n0 24 3200 (fun v h => v = some (.int 1))) h_1948 (0 + 1 + 4 + 1 + 2) (0 + 6 + 28 + 2 + (20 + 4)) 232 #[.val (.int k0), .val (.int k1), .val (.int k2), .val (.long k3), .second, .val (.int k4), .val (.int m_1807), .val (.ref a_1810), .val (.int nn), .val (.ref s), .val (.ref u1), .val .null] [(.ref x_1949), (.ref s)]
        refine Go.callV (pc' := 235) (argsL := [(.ref x_1949)]) (rest := []) (W := 0) (hw _ (List.mem_of_getElem? (i := 63) rfl)) (hw _ (List.mem_of_getElem? (i := 52) rfl)) (hw _ (List.mem_of_getElem? (i := 54) rfl)) (hw _ (List.mem_of_getElem? (i := 53) rfl)) (hw _ (List.mem_of_getElem? (i := 9) rfl)) (hw _ (List.mem_of_getElem? (i := 55) rfl)) (by decide) f_1970 (m_eq l Z a0 hw s o x_1949 o_1950 W own_pl cs h_1948 n0 z_1977 O_1978 hSCS hcs f_1970 f_1971 f_1972 f_1973 X_1952 F_1954 F_1953 A_1955 (by omega) (by decide)) at_232 rfl pd7 rfl rfl (Nat.le_of_eq rfl) (by decide) (by decide) (by decide) (by decide) rfl ?_
        rintro _ _ ⟨r1, rfl, rfl, hr1, ir1⟩
        show (Go _ l room_1 Z x code maxLocals ret n0 24 3200 (fun v h => v = some (.int 1))) h_1948 (0 + 1 + 4 + 1 + 2 + 0) (0 + 6 + 28 + 2 + (20 + 4) + 0) 235 #[.val (.int k0), .val (.int k1), .val (.int k2), .val (.long k3), .second, .val (.int k4), .val (.int m_1807), .val (.ref a_1810), .val (.int nn), .val (.ref s), .val (.ref u1), .val .null] [(.int r1)]
        have e1 : r1.toInt ≠ 1 := fun z => w1 (ir1.mp z)
        refine Go.ifc (pc1 := 246) (pc2 := 238) at_235 (by decide) (by decide) rfl (fun (c_1979 : r1.toInt = 0) => ?_) (fun (c_1979 : r1.toInt ≠ 0) => ?_)
        rotate_left
        · exfalso; omega
        refine Go.aload (pc' := 248) at_246 rfl rfl rfl ?_
        refine Go.ldcV (pc' := 250) (text := "S256") (n := 16) (n1 := n0) (Ts := ["plain", ""]) (vs := own_sb.map Value.int) (z := (4 : Int32)) (hw _ (List.mem_of_getElem? (i := 64) rfl)) (strAtoms l Z a0 hw) (fun _ k => k.1) (by decide) (fun b cl q => hO.2.2 b cl q) (Nat.le_of_eq hsz) hH2 hcw ⟨by decide, by decide⟩ rfl at_248 (by decide) (by decide) (by decide) (by decide) rfl (ibE (by decide)) (Nat.le_refl _) (Nat.le_refl _) ?_
        intro h_1980 x_1981 o_1982 E_1983 X_1984 F_1985 F_1986 A_1987
        have f_1988 : Ary Z h_1980 b (.object "com/example/consentry/consentry/authorization/CodeChallengeMethod") [(.ref u0), (.ref u1)] := f_1956.sm (Sm.ext E_1983)
        have f_1989 : Exa Z h_1980 b "[Lcom/example/consentry/consentry/authorization/CodeChallengeMethod;" := f_1957.sm (Sm.ext E_1983)
        have f_1990 : Exa Z h_1980 u0 "com/example/consentry/consentry/authorization/CodeChallengeMethod" := f_1958.sm (Sm.ext E_1983)
        have f_1991 : Fld Z h_1980 u0 "com/example/consentry/consentry/authorization/CodeChallengeMethod" "spelling" "Ljava/lang/String;" (.ref p0) := f_1959.sm (Sm.ext E_1983)
        have f_1992 : Exa Z h_1980 p0 "java/lang/String" := f_1960.sm (Sm.ext E_1983)
        have f_1993 : Fld Z h_1980 p0 "java/lang/String" "value" "[B" (.ref y0) := f_1961.sm (Sm.ext E_1983)
        have f_1994 : Fld Z h_1980 p0 "java/lang/String" "coder" "B" (.int (0 : Int32)) := f_1962.sm (Sm.ext E_1983)
        have f_1995 : Ary Z h_1980 y0 .byte (own_pl.map Value.int) := f_1963.sm (Sm.ext E_1983)
        have f_1996 : Exa Z h_1980 u1 "com/example/consentry/consentry/authorization/CodeChallengeMethod" := f_1964.sm (Sm.ext E_1983)
        have f_1997 : Fld Z h_1980 u1 "com/example/consentry/consentry/authorization/CodeChallengeMethod" "spelling" "Ljava/lang/String;" (.ref p1) := f_1965.sm (Sm.ext E_1983)
        have f_1998 : Exa Z h_1980 p1 "java/lang/String" := f_1966.sm (Sm.ext E_1983)
        have f_1999 : Fld Z h_1980 p1 "java/lang/String" "value" "[B" (.ref y1) := f_1967.sm (Sm.ext E_1983)
        have f_2000 : Fld Z h_1980 p1 "java/lang/String" "coder" "B" (.int (0 : Int32)) := f_1968.sm (Sm.ext E_1983)
        have f_2001 : Ary Z h_1980 y1 .byte (own_sb.map Value.int) := f_1969.sm (Sm.ext E_1983)
        have f_2002 : Exa Z h_1980 s "java/lang/String" := f_1970.sm (Sm.ext E_1983)
        have f_2003 : Fld Z h_1980 s "java/lang/String" "value" "[B" (.ref o) := f_1971.sm (Sm.ext E_1983)
        have f_2004 : Fld Z h_1980 s "java/lang/String" "coder" "B" (.int (0 : Int32)) := f_1972.sm (Sm.ext E_1983)
        have f_2005 : Ary Z h_1980 o .byte (W.map Value.int) := f_1973.sm (Sm.ext E_1983)
        have f_2009 : Exa Z h_1980 x_1949 "java/lang/String" := X_1952.sm (Sm.ext E_1983)
        have f_2010 : Fld Z h_1980 x_1949 "java/lang/String" "coder" "B" (.int (0 : Int32)) := F_1953.sm (Sm.ext E_1983)
        have f_2011 : Fld Z h_1980 x_1949 "java/lang/String" "value" "[B" (.ref o_1950) := F_1954.sm (Sm.ext E_1983)
        have f_2012 : Ary Z h_1980 o_1950 .byte (own_pl.map Value.int) := A_1955.sm (Sm.ext E_1983)
        have z_2013 : n0 ≤ h_1980.size := Nat.le_trans z_1977 E_1983.1
        have O_2014 : Old Z n0 h_1980 := O_1978.ext E_1983
        have f_2006 : Sta Z h_1980 "java/lang/String" "COMPACT_STRINGS" "Z" (.int cs) := Sta.ext O_2014.2 hSCS
        have f_2007 : Sta Z h_1980 "com/example/consentry/consentry/authorization/CodeChallengeMethod" "PLAIN" "Lcom/example/consentry/consentry/authorization/CodeChallengeMethod;" (.ref u0) := Sta.ext O_2014.2 hSP
        have f_2008 : Sta Z h_1980 "com/example/consentry/consentry/authorization/CodeChallengeMethod" "S256" "Lcom/example/consentry/consentry/authorization/CodeChallengeMethod;" (.ref u1) := Sta.ext O_2014.2 hSS
        show (Go _ l room_1 Z x code maxLocals ret n0 24 3200 (fun v h => v = some (.int 1))) h_1980 (0 + 1 + 4 + 1 + 2 + 0 + 2) (0 + 6 + 28 + 2 + (20 + 4) + 0 + (16 + 4)) 250 #[.val (.int k0), .val (.int k1), .val (.int k2), .val (.long k3), .second, .val (.int k4), .val (.int m_1807), .val (.ref a_1810), .val (.int nn), .val (.ref s), .val (.ref u1), .val .null] [(.ref x_1981), (.ref s)]
        refine Go.callV (pc' := 253) (argsL := [(.ref x_1981)]) (rest := []) (W := 0) (hw _ (List.mem_of_getElem? (i := 63) rfl)) (hw _ (List.mem_of_getElem? (i := 52) rfl)) (hw _ (List.mem_of_getElem? (i := 54) rfl)) (hw _ (List.mem_of_getElem? (i := 53) rfl)) (hw _ (List.mem_of_getElem? (i := 9) rfl)) (hw _ (List.mem_of_getElem? (i := 55) rfl)) (by decide) f_2002 (m_eq l Z a0 hw s o x_1981 o_1982 W own_sb cs h_1980 n0 z_2013 O_2014 hSCS hcs f_2002 f_2003 f_2004 f_2005 X_1984 F_1986 F_1985 A_1987 (by omega) (by decide)) at_250 rfl pd7 rfl rfl (Nat.le_of_eq rfl) (by decide) (by decide) (by decide) (by decide) rfl ?_
        rintro _ _ ⟨r2, rfl, rfl, hr2, ir2⟩
        show (Go _ l room_1 Z x code maxLocals ret n0 24 3200 (fun v h => v = some (.int 1))) h_1980 (0 + 1 + 4 + 1 + 2 + 0 + 2 + 0) (0 + 6 + 28 + 2 + (20 + 4) + 0 + (16 + 4) + 0) 253 #[.val (.int k0), .val (.int k1), .val (.int k2), .val (.long k3), .second, .val (.int k4), .val (.int m_1807), .val (.ref a_1810), .val (.int nn), .val (.ref s), .val (.ref u1), .val .null] [(.int r2)]
        have e2 := ir2.mpr w2
        refine Go.ifc (pc1 := 261) (pc2 := 256) at_253 (by decide) (by decide) rfl (fun (c_2015 : r2.toInt = 0) => ?_) (fun (c_2015 : r2.toInt ≠ 0) => ?_)
        · exfalso; omega
        refine Go.getS (pc' := 259) (hw _ (List.mem_of_getElem? (i := 75) rfl)) f_2008 at_256 rfl ?_
        refine Go.astore (pc' := 261) (Ls' := #[.val (.int k0), .val (.int k1), .val (.int k2), .val (.long k3), .second, .val (.int k4), .val (.int m_1807), .val (.ref a_1810), .val (.int nn), .val (.ref s), .val (.ref u1), .val (.ref u1)]) at_259 rfl rfl rfl ?_
        refine Go.aload (pc' := 263) at_261 rfl rfl rfl ?_
        refine Go.aload (pc' := 265) at_263 rfl rfl rfl ?_
        refine Go.acmp (pc1 := 268) (pc2 := 272) at_265 rfl rfl (by decide) (by decide) (by decide) (fun c_2016 => ?_) (fun c_2016 => absurd rfl c_2016)
        refine Go.iconst (pc' := 269) (v := (1 : Int32)) at_268 rfl rfl ?_
        refine Go.goto (pc' := 273) at_269 (by decide) (by decide) ?_
        exact Go.retN (t := .boolean) at_273 rfl (by simp) rfl rfl (by decide) (by decide)
      · show (Go _ l room_1 Z x code maxLocals ret n0 24 3200 (fun v h => v = some (.int 1))) h_1890 (0 + 1 + 4 + 1) (0 + 6 + 28 + 2) 218 #[.val (.int k0), .val (.int k1), .val (.int k2), .val (.long k3), .second, .val (.int k4), .val (.int m_1807), .val (.ref a_1810), .val (.int nn), .val (.ref s), .unset, .unset] [.null]
        refine Go.astore (pc' := 220) (Ls' := #[.val (.int k0), .val (.int k1), .val (.int k2), .val (.long k3), .second, .val (.int k4), .val (.int m_1807), .val (.ref a_1810), .val (.int nn), .val (.ref s), .val .null, .unset]) at_218 rfl rfl rfl ?_
        refine Go.aconstNull (pc' := 221) at_220 rfl ?_
        refine Go.astore (pc' := 223) (Ls' := #[.val (.int k0), .val (.int k1), .val (.int k2), .val (.long k3), .second, .val (.int k4), .val (.int m_1807), .val (.ref a_1810), .val (.int nn), .val (.ref s), .val .null, .val .null]) at_221 rfl rfl rfl ?_
        refine Go.aload (pc' := 225) at_223 rfl rfl rfl ?_
        refine Go.nullNo (pc' := 228) at_225 rfl ?_
        refine Go.aload (pc' := 230) at_228 rfl rfl rfl ?_
        refine Go.ldcV (pc' := 232) (text := "plain") (n := 20) (n1 := n0) (Ts := [""]) (vs := own_pl.map Value.int) (z := (5 : Int32)) (hw _ (List.mem_of_getElem? (i := 62) rfl)) (strAtoms l Z a0 hw) (fun _ k => k) (by decide) (fun b cl q => hO.2.2 b cl q) (Nat.le_of_eq hsz) hH1 hcw ⟨by decide, by decide⟩ rfl at_230 (by decide) (by decide) (by decide) (by decide) rfl (ibE (by decide)) (Nat.le_refl _) (Nat.le_refl _) ?_
        intro h_2017 x_2018 o_2019 E_2020 X_2021 F_2022 F_2023 A_2024
        have f_2025 : Ary Z h_2017 b (.object "com/example/consentry/consentry/authorization/CodeChallengeMethod") [(.ref u0), (.ref u1)] := f_1895.sm (Sm.ext E_2020)
        have f_2026 : Exa Z h_2017 b "[Lcom/example/consentry/consentry/authorization/CodeChallengeMethod;" := f_1896.sm (Sm.ext E_2020)
        have f_2027 : Exa Z h_2017 u0 "com/example/consentry/consentry/authorization/CodeChallengeMethod" := f_1897.sm (Sm.ext E_2020)
        have f_2028 : Fld Z h_2017 u0 "com/example/consentry/consentry/authorization/CodeChallengeMethod" "spelling" "Ljava/lang/String;" (.ref p0) := f_1898.sm (Sm.ext E_2020)
        have f_2029 : Exa Z h_2017 p0 "java/lang/String" := f_1899.sm (Sm.ext E_2020)
        have f_2030 : Fld Z h_2017 p0 "java/lang/String" "value" "[B" (.ref y0) := f_1900.sm (Sm.ext E_2020)
        have f_2031 : Fld Z h_2017 p0 "java/lang/String" "coder" "B" (.int (0 : Int32)) := f_1901.sm (Sm.ext E_2020)
        have f_2032 : Ary Z h_2017 y0 .byte (own_pl.map Value.int) := f_1902.sm (Sm.ext E_2020)
        have f_2033 : Exa Z h_2017 u1 "com/example/consentry/consentry/authorization/CodeChallengeMethod" := f_1903.sm (Sm.ext E_2020)
        have f_2034 : Fld Z h_2017 u1 "com/example/consentry/consentry/authorization/CodeChallengeMethod" "spelling" "Ljava/lang/String;" (.ref p1) := f_1904.sm (Sm.ext E_2020)
        have f_2035 : Exa Z h_2017 p1 "java/lang/String" := f_1905.sm (Sm.ext E_2020)
        have f_2036 : Fld Z h_2017 p1 "java/lang/String" "value" "[B" (.ref y1) := f_1906.sm (Sm.ext E_2020)
        have f_2037 : Fld Z h_2017 p1 "java/lang/String" "coder" "B" (.int (0 : Int32)) := f_1907.sm (Sm.ext E_2020)
        have f_2038 : Ary Z h_2017 y1 .byte (own_sb.map Value.int) := f_1908.sm (Sm.ext E_2020)
        have f_2039 : Exa Z h_2017 s "java/lang/String" := f_1909.sm (Sm.ext E_2020)
        have f_2040 : Fld Z h_2017 s "java/lang/String" "value" "[B" (.ref o) := f_1910.sm (Sm.ext E_2020)
        have f_2041 : Fld Z h_2017 s "java/lang/String" "coder" "B" (.int (0 : Int32)) := f_1911.sm (Sm.ext E_2020)
        have f_2042 : Ary Z h_2017 o .byte (W.map Value.int) := f_1912.sm (Sm.ext E_2020)
        have z_2046 : n0 ≤ h_2017.size := Nat.le_trans z_1913 E_2020.1
        have O_2047 : Old Z n0 h_2017 := O_1914.ext E_2020
        have f_2043 : Sta Z h_2017 "java/lang/String" "COMPACT_STRINGS" "Z" (.int cs) := Sta.ext O_2047.2 hSCS
        have f_2044 : Sta Z h_2017 "com/example/consentry/consentry/authorization/CodeChallengeMethod" "PLAIN" "Lcom/example/consentry/consentry/authorization/CodeChallengeMethod;" (.ref u0) := Sta.ext O_2047.2 hSP
        have f_2045 : Sta Z h_2017 "com/example/consentry/consentry/authorization/CodeChallengeMethod" "S256" "Lcom/example/consentry/consentry/authorization/CodeChallengeMethod;" (.ref u1) := Sta.ext O_2047.2 hSS
        show (Go _ l room_1 Z x code maxLocals ret n0 24 3200 (fun v h => v = some (.int 1))) h_2017 (0 + 1 + 4 + 1 + 2) (0 + 6 + 28 + 2 + (20 + 4)) 232 #[.val (.int k0), .val (.int k1), .val (.int k2), .val (.long k3), .second, .val (.int k4), .val (.int m_1807), .val (.ref a_1810), .val (.int nn), .val (.ref s), .val .null, .val .null] [(.ref x_2018), (.ref s)]
        refine Go.callV (pc' := 235) (argsL := [(.ref x_2018)]) (rest := []) (W := 0) (hw _ (List.mem_of_getElem? (i := 63) rfl)) (hw _ (List.mem_of_getElem? (i := 52) rfl)) (hw _ (List.mem_of_getElem? (i := 54) rfl)) (hw _ (List.mem_of_getElem? (i := 53) rfl)) (hw _ (List.mem_of_getElem? (i := 9) rfl)) (hw _ (List.mem_of_getElem? (i := 55) rfl)) (by decide) f_2039 (m_eq l Z a0 hw s o x_2018 o_2019 W own_pl cs h_2017 n0 z_2046 O_2047 hSCS hcs f_2039 f_2040 f_2041 f_2042 X_2021 F_2023 F_2022 A_2024 (by omega) (by decide)) at_232 rfl pd7 rfl rfl (Nat.le_of_eq rfl) (by decide) (by decide) (by decide) (by decide) rfl ?_
        rintro _ _ ⟨r1, rfl, rfl, hr1, ir1⟩
        show (Go _ l room_1 Z x code maxLocals ret n0 24 3200 (fun v h => v = some (.int 1))) h_2017 (0 + 1 + 4 + 1 + 2 + 0) (0 + 6 + 28 + 2 + (20 + 4) + 0) 235 #[.val (.int k0), .val (.int k1), .val (.int k2), .val (.long k3), .second, .val (.int k4), .val (.int m_1807), .val (.ref a_1810), .val (.int nn), .val (.ref s), .val .null, .val .null] [(.int r1)]
        have e1 : r1.toInt ≠ 1 := fun z => w1 (ir1.mp z)
        refine Go.ifc (pc1 := 246) (pc2 := 238) at_235 (by decide) (by decide) rfl (fun (c_2048 : r1.toInt = 0) => ?_) (fun (c_2048 : r1.toInt ≠ 0) => ?_)
        rotate_left
        · exfalso; omega
        refine Go.aload (pc' := 248) at_246 rfl rfl rfl ?_
        refine Go.ldcV (pc' := 250) (text := "S256") (n := 16) (n1 := n0) (Ts := ["plain", ""]) (vs := own_sb.map Value.int) (z := (4 : Int32)) (hw _ (List.mem_of_getElem? (i := 64) rfl)) (strAtoms l Z a0 hw) (fun _ k => k.1) (by decide) (fun b cl q => hO.2.2 b cl q) (Nat.le_of_eq hsz) hH2 hcw ⟨by decide, by decide⟩ rfl at_248 (by decide) (by decide) (by decide) (by decide) rfl (ibE (by decide)) (Nat.le_refl _) (Nat.le_refl _) ?_
        intro h_2049 x_2050 o_2051 E_2052 X_2053 F_2054 F_2055 A_2056
        have f_2057 : Ary Z h_2049 b (.object "com/example/consentry/consentry/authorization/CodeChallengeMethod") [(.ref u0), (.ref u1)] := f_2025.sm (Sm.ext E_2052)
        have f_2058 : Exa Z h_2049 b "[Lcom/example/consentry/consentry/authorization/CodeChallengeMethod;" := f_2026.sm (Sm.ext E_2052)
        have f_2059 : Exa Z h_2049 u0 "com/example/consentry/consentry/authorization/CodeChallengeMethod" := f_2027.sm (Sm.ext E_2052)
        have f_2060 : Fld Z h_2049 u0 "com/example/consentry/consentry/authorization/CodeChallengeMethod" "spelling" "Ljava/lang/String;" (.ref p0) := f_2028.sm (Sm.ext E_2052)
        have f_2061 : Exa Z h_2049 p0 "java/lang/String" := f_2029.sm (Sm.ext E_2052)
        have f_2062 : Fld Z h_2049 p0 "java/lang/String" "value" "[B" (.ref y0) := f_2030.sm (Sm.ext E_2052)
        have f_2063 : Fld Z h_2049 p0 "java/lang/String" "coder" "B" (.int (0 : Int32)) := f_2031.sm (Sm.ext E_2052)
        have f_2064 : Ary Z h_2049 y0 .byte (own_pl.map Value.int) := f_2032.sm (Sm.ext E_2052)
        have f_2065 : Exa Z h_2049 u1 "com/example/consentry/consentry/authorization/CodeChallengeMethod" := f_2033.sm (Sm.ext E_2052)
        have f_2066 : Fld Z h_2049 u1 "com/example/consentry/consentry/authorization/CodeChallengeMethod" "spelling" "Ljava/lang/String;" (.ref p1) := f_2034.sm (Sm.ext E_2052)
        have f_2067 : Exa Z h_2049 p1 "java/lang/String" := f_2035.sm (Sm.ext E_2052)
        have f_2068 : Fld Z h_2049 p1 "java/lang/String" "value" "[B" (.ref y1) := f_2036.sm (Sm.ext E_2052)
        have f_2069 : Fld Z h_2049 p1 "java/lang/String" "coder" "B" (.int (0 : Int32)) := f_2037.sm (Sm.ext E_2052)
        have f_2070 : Ary Z h_2049 y1 .byte (own_sb.map Value.int) := f_2038.sm (Sm.ext E_2052)
        have f_2071 : Exa Z h_2049 s "java/lang/String" := f_2039.sm (Sm.ext E_2052)
        have f_2072 : Fld Z h_2049 s "java/lang/String" "value" "[B" (.ref o) := f_2040.sm (Sm.ext E_2052)
        have f_2073 : Fld Z h_2049 s "java/lang/String" "coder" "B" (.int (0 : Int32)) := f_2041.sm (Sm.ext E_2052)
        have f_2074 : Ary Z h_2049 o .byte (W.map Value.int) := f_2042.sm (Sm.ext E_2052)
        have f_2078 : Exa Z h_2049 x_2018 "java/lang/String" := X_2021.sm (Sm.ext E_2052)
        have f_2079 : Fld Z h_2049 x_2018 "java/lang/String" "coder" "B" (.int (0 : Int32)) := F_2022.sm (Sm.ext E_2052)
        have f_2080 : Fld Z h_2049 x_2018 "java/lang/String" "value" "[B" (.ref o_2019) := F_2023.sm (Sm.ext E_2052)
        have f_2081 : Ary Z h_2049 o_2019 .byte (own_pl.map Value.int) := A_2024.sm (Sm.ext E_2052)
        have z_2082 : n0 ≤ h_2049.size := Nat.le_trans z_2046 E_2052.1
        have O_2083 : Old Z n0 h_2049 := O_2047.ext E_2052
        have f_2075 : Sta Z h_2049 "java/lang/String" "COMPACT_STRINGS" "Z" (.int cs) := Sta.ext O_2083.2 hSCS
        have f_2076 : Sta Z h_2049 "com/example/consentry/consentry/authorization/CodeChallengeMethod" "PLAIN" "Lcom/example/consentry/consentry/authorization/CodeChallengeMethod;" (.ref u0) := Sta.ext O_2083.2 hSP
        have f_2077 : Sta Z h_2049 "com/example/consentry/consentry/authorization/CodeChallengeMethod" "S256" "Lcom/example/consentry/consentry/authorization/CodeChallengeMethod;" (.ref u1) := Sta.ext O_2083.2 hSS
        show (Go _ l room_1 Z x code maxLocals ret n0 24 3200 (fun v h => v = some (.int 1))) h_2049 (0 + 1 + 4 + 1 + 2 + 0 + 2) (0 + 6 + 28 + 2 + (20 + 4) + 0 + (16 + 4)) 250 #[.val (.int k0), .val (.int k1), .val (.int k2), .val (.long k3), .second, .val (.int k4), .val (.int m_1807), .val (.ref a_1810), .val (.int nn), .val (.ref s), .val .null, .val .null] [(.ref x_2050), (.ref s)]
        refine Go.callV (pc' := 253) (argsL := [(.ref x_2050)]) (rest := []) (W := 0) (hw _ (List.mem_of_getElem? (i := 63) rfl)) (hw _ (List.mem_of_getElem? (i := 52) rfl)) (hw _ (List.mem_of_getElem? (i := 54) rfl)) (hw _ (List.mem_of_getElem? (i := 53) rfl)) (hw _ (List.mem_of_getElem? (i := 9) rfl)) (hw _ (List.mem_of_getElem? (i := 55) rfl)) (by decide) f_2071 (m_eq l Z a0 hw s o x_2050 o_2051 W own_sb cs h_2049 n0 z_2082 O_2083 hSCS hcs f_2071 f_2072 f_2073 f_2074 X_2053 F_2055 F_2054 A_2056 (by omega) (by decide)) at_250 rfl pd7 rfl rfl (Nat.le_of_eq rfl) (by decide) (by decide) (by decide) (by decide) rfl ?_
        rintro _ _ ⟨r2, rfl, rfl, hr2, ir2⟩
        show (Go _ l room_1 Z x code maxLocals ret n0 24 3200 (fun v h => v = some (.int 1))) h_2049 (0 + 1 + 4 + 1 + 2 + 0 + 2 + 0) (0 + 6 + 28 + 2 + (20 + 4) + 0 + (16 + 4) + 0) 253 #[.val (.int k0), .val (.int k1), .val (.int k2), .val (.long k3), .second, .val (.int k4), .val (.int m_1807), .val (.ref a_1810), .val (.int nn), .val (.ref s), .val .null, .val .null] [(.int r2)]
        have e2 : r2.toInt ≠ 1 := fun z => w2 (ir2.mp z)
        refine Go.ifc (pc1 := 261) (pc2 := 256) at_253 (by decide) (by decide) rfl (fun (c_2084 : r2.toInt = 0) => ?_) (fun (c_2084 : r2.toInt ≠ 0) => ?_)
        rotate_left
        · exfalso; omega
        refine Go.aload (pc' := 263) at_261 rfl rfl rfl ?_
        refine Go.aload (pc' := 265) at_263 rfl rfl rfl ?_
        refine Go.acmp (pc1 := 268) (pc2 := 272) at_265 rfl rfl (by decide) (by decide) (by decide) (fun c_2085 => ?_) (fun c_2085 => absurd rfl c_2085)
        refine Go.iconst (pc' := 269) (v := (1 : Int32)) at_268 rfl rfl ?_
        refine Go.goto (pc' := 273) at_269 (by decide) (by decide) ?_
        exact Go.retN (t := .boolean) at_273 rfl (by simp) rfl rfl (by decide) (by decide)
    refine Go.istore (pc' := 194) (Ls' := #[.val (.int k0), .val (.int k1), .val (.int k2), .val (.long k3), .second, .val (.int k4), .val (.int m_1807), .val (.ref a_1810), .val (.int n_1874), .unset, .unset, .unset]) at_192 rfl rfl ?_
    refine Go.iload (pc' := 196) at_194 rfl rfl ?_
    refine Go.iconst (pc' := 197) (v := (3 : Int32)) at_196 rfl rfl ?_
    refine Go.icmp (pc1 := 204) (pc2 := 200) at_197 (by decide) (by decide) rfl (fun (c_2086 : m_1807.toInt ≠ (3 : Int)) => ?_) (fun (c_2086 : m_1807.toInt = (3 : Int)) => ?_)
    · refine Go.aload (pc' := 206) at_204 rfl rfl rfl ?_
      refine Go.iload (pc' := 208) at_206 rfl rfl ?_
      clear en_1874
      rcases k_1875 with k_1875 | k_1875 | k_1875 | k_1875 | k_1875 | k_1875 | k_1875
      · obtain rfl : n_1874 = (0 : Int32) := Int32.toInt_inj.mp k_1875
        refine Go.callSI (pc' := 211) (argsL := [(.ref a_1810), (.int (0 : Int32))]) (rest := []) (W := 0) (hw _ (List.mem_of_getElem? (i := 3) rfl)) (hw _ (List.mem_of_getElem? (i := 4) rfl)) (hw _ (List.mem_of_getElem? (i := 5) rfl)) (hw _ (List.mem_of_getElem? (i := 6) rfl)) (by decide) (m_mk0 l Z a0 hw a_1810 d0 d1 d2 d3 d4 d5 h1 n0 z1 O1 hH hcw hT) (fun _ k => k) (ibE own_s1) at_208 rfl pd9 rfl rfl (Nat.le_of_eq rfl) (by decide) (by decide) (by decide) (by decide) rfl ?_
        rintro _ h_2087 ⟨s, o, W, rfl, K_2088, hW6, sx, sv, sc, sy⟩
        have z_2089 : n0 ≤ h_2087.size := Nat.le_trans z1 K_2088.1
        have O_2090 : Old Z n0 h_2087 := O1.keep K_2088 all0
        exact J2 h_2087 s o W _ z_2089 O_2090 hW6 sx sv sc sy
      · obtain rfl : n_1874 = (1 : Int32) := Int32.toInt_inj.mp k_1875
        refine Go.callS (pc' := 211) (argsL := [(.ref a_1810), (.int (1 : Int32))]) (rest := []) (W := 0) (hw _ (List.mem_of_getElem? (i := 3) rfl)) (hw _ (List.mem_of_getElem? (i := 4) rfl)) (hw _ (List.mem_of_getElem? (i := 5) rfl)) (hw _ (List.mem_of_getElem? (i := 6) rfl)) (by decide) (m_mk1 l Z a0 hw a_1810 d0 d1 d2 d3 d4 d5 cs h1 n0 z1 O1 hSCS hcs hT hd0 hdd0 hd1 hdd1 hd2 hdd2 hd3 hdd3 hd4 hdd4 hd5 hdd5) at_208 rfl pd9 rfl rfl (Nat.le_of_eq rfl) (by decide) (by decide) (by decide) (by decide) rfl ?_
        rintro _ h_2091 ⟨s, o, W, rfl, K_2092, hW6, sx, sv, sc, sy⟩
        have z_2093 : n0 ≤ h_2091.size := Nat.le_trans z1 K_2092.1
        have O_2094 : Old Z n0 h_2091 := O1.keep K_2092 all0
        refine Go.less (P2 := fun vm => IB Z vm [""]) (hPE2 := ibE own_s1) (fun _ k => k.mono (fun _ q => nomatch q)) ?_
        exact J2 h_2091 s o W _ z_2093 O_2094 hW6 sx sv sc sy
      · obtain rfl : n_1874 = (2 : Int32) := Int32.toInt_inj.mp k_1875
        refine Go.callS (pc' := 211) (argsL := [(.ref a_1810), (.int (2 : Int32))]) (rest := []) (W := 0) (hw _ (List.mem_of_getElem? (i := 3) rfl)) (hw _ (List.mem_of_getElem? (i := 4) rfl)) (hw _ (List.mem_of_getElem? (i := 5) rfl)) (hw _ (List.mem_of_getElem? (i := 6) rfl)) (by decide) (m_mk2 l Z a0 hw a_1810 d0 d1 d2 d3 d4 d5 cs h1 n0 z1 O1 hSCS hcs hT hd0 hdd0 hd1 hdd1 hd2 hdd2 hd3 hdd3 hd4 hdd4 hd5 hdd5) at_208 rfl pd9 rfl rfl (Nat.le_of_eq rfl) (by decide) (by decide) (by decide) (by decide) rfl ?_
        rintro _ h_2095 ⟨s, o, W, rfl, K_2096, hW6, sx, sv, sc, sy⟩
        have z_2097 : n0 ≤ h_2095.size := Nat.le_trans z1 K_2096.1
        have O_2098 : Old Z n0 h_2095 := O1.keep K_2096 all0
        refine Go.less (P2 := fun vm => IB Z vm [""]) (hPE2 := ibE own_s1) (fun _ k => k.mono (fun _ q => nomatch q)) ?_
        exact J2 h_2095 s o W _ z_2097 O_2098 hW6 sx sv sc sy
      · obtain rfl : n_1874 = (3 : Int32) := Int32.toInt_inj.mp k_1875
        refine Go.callS (pc' := 211) (argsL := [(.ref a_1810), (.int (3 : Int32))]) (rest := []) (W := 0) (hw _ (List.mem_of_getElem? (i := 3) rfl)) (hw _ (List.mem_of_getElem? (i := 4) rfl)) (hw _ (List.mem_of_getElem? (i := 5) rfl)) (hw _ (List.mem_of_getElem? (i := 6) rfl)) (by decide) (m_mk3 l Z a0 hw a_1810 d0 d1 d2 d3 d4 d5 cs h1 n0 z1 O1 hSCS hcs hT hd0 hdd0 hd1 hdd1 hd2 hdd2 hd3 hdd3 hd4 hdd4 hd5 hdd5) at_208 rfl pd9 rfl rfl (Nat.le_of_eq rfl) (by decide) (by decide) (by decide) (by decide) rfl ?_
        rintro _ h_2099 ⟨s, o, W, rfl, K_2100, hW6, sx, sv, sc, sy⟩
        have z_2101 : n0 ≤ h_2099.size := Nat.le_trans z1 K_2100.1
        have O_2102 : Old Z n0 h_2099 := O1.keep K_2100 all0
        refine Go.less (P2 := fun vm => IB Z vm [""]) (hPE2 := ibE own_s1) (fun _ k => k.mono (fun _ q => nomatch q)) ?_
        exact J2 h_2099 s o W _ z_2101 O_2102 hW6 sx sv sc sy
      · obtain rfl : n_1874 = (4 : Int32) := Int32.toInt_inj.mp k_1875
        refine Go.callS (pc' := 211) (argsL := [(.ref a_1810), (.int (4 : Int32))]) (rest := []) (W := 0) (hw _ (List.mem_of_getElem? (i := 3) rfl)) (hw _ (List.mem_of_getElem? (i := 4) rfl)) (hw _ (List.mem_of_getElem? (i := 5) rfl)) (hw _ (List.mem_of_getElem? (i := 6) rfl)) (by decide) (m_mk4 l Z a0 hw a_1810 d0 d1 d2 d3 d4 d5 cs h1 n0 z1 O1 hSCS hcs hT hd0 hdd0 hd1 hdd1 hd2 hdd2 hd3 hdd3 hd4 hdd4 hd5 hdd5) at_208 rfl pd9 rfl rfl (Nat.le_of_eq rfl) (by decide) (by decide) (by decide) (by decide) rfl ?_
        rintro _ h_2103 ⟨s, o, W, rfl, K_2104, hW6, sx, sv, sc, sy⟩
        have z_2105 : n0 ≤ h_2103.size := Nat.le_trans z1 K_2104.1
        have O_2106 : Old Z n0 h_2103 := O1.keep K_2104 all0
        refine Go.less (P2 := fun vm => IB Z vm [""]) (hPE2 := ibE own_s1) (fun _ k => k.mono (fun _ q => nomatch q)) ?_
        exact J2 h_2103 s o W _ z_2105 O_2106 hW6 sx sv sc sy
      · obtain rfl : n_1874 = (5 : Int32) := Int32.toInt_inj.mp k_1875
        refine Go.callS (pc' := 211) (argsL := [(.ref a_1810), (.int (5 : Int32))]) (rest := []) (W := 0) (hw _ (List.mem_of_getElem? (i := 3) rfl)) (hw _ (List.mem_of_getElem? (i := 4) rfl)) (hw _ (List.mem_of_getElem? (i := 5) rfl)) (hw _ (List.mem_of_getElem? (i := 6) rfl)) (by decide) (m_mk5 l Z a0 hw a_1810 d0 d1 d2 d3 d4 d5 cs h1 n0 z1 O1 hSCS hcs hT hd0 hdd0 hd1 hdd1 hd2 hdd2 hd3 hdd3 hd4 hdd4 hd5 hdd5) at_208 rfl pd9 rfl rfl (Nat.le_of_eq rfl) (by decide) (by decide) (by decide) (by decide) rfl ?_
        rintro _ h_2107 ⟨s, o, W, rfl, K_2108, hW6, sx, sv, sc, sy⟩
        have z_2109 : n0 ≤ h_2107.size := Nat.le_trans z1 K_2108.1
        have O_2110 : Old Z n0 h_2107 := O1.keep K_2108 all0
        refine Go.less (P2 := fun vm => IB Z vm [""]) (hPE2 := ibE own_s1) (fun _ k => k.mono (fun _ q => nomatch q)) ?_
        exact J2 h_2107 s o W _ z_2109 O_2110 hW6 sx sv sc sy
      · obtain rfl : n_1874 = (6 : Int32) := Int32.toInt_inj.mp k_1875
        refine Go.callS (pc' := 211) (argsL := [(.ref a_1810), (.int (6 : Int32))]) (rest := []) (W := 0) (hw _ (List.mem_of_getElem? (i := 3) rfl)) (hw _ (List.mem_of_getElem? (i := 4) rfl)) (hw _ (List.mem_of_getElem? (i := 5) rfl)) (hw _ (List.mem_of_getElem? (i := 6) rfl)) (by decide) (m_mk6 l Z a0 hw a_1810 d0 d1 d2 d3 d4 d5 cs h1 n0 z1 O1 hSCS hcs hT hd0 hdd0 hd1 hdd1 hd2 hdd2 hd3 hdd3 hd4 hdd4 hd5 hdd5) at_208 rfl pd9 rfl rfl (Nat.le_of_eq rfl) (by decide) (by decide) (by decide) (by decide) rfl ?_
        rintro _ h_2111 ⟨s, o, W, rfl, K_2112, hW6, sx, sv, sc, sy⟩
        have z_2113 : n0 ≤ h_2111.size := Nat.le_trans z1 K_2112.1
        have O_2114 : Old Z n0 h_2111 := O1.keep K_2112 all0
        refine Go.less (P2 := fun vm => IB Z vm [""]) (hPE2 := ibE own_s1) (fun _ k => k.mono (fun _ q => nomatch q)) ?_
        exact J2 h_2111 s o W _ z_2113 O_2114 hW6 sx sv sc sy
    · refine Go.aconstNull (pc' := 201) at_200 rfl ?_
      refine Go.goto (pc' := 211) at_201 (by decide) (by decide) ?_
      have B_2115 : Ary Z h1 b (.object "com/example/consentry/consentry/authorization/CodeChallengeMethod") [(.ref u0), (.ref u1)] := hAV.sm (Sm.ext O1.2)
      have B_2116 : Exa Z h1 b "[Lcom/example/consentry/consentry/authorization/CodeChallengeMethod;" := hEV.sm (Sm.ext O1.2)
      have B_2117 : Exa Z h1 u0 "com/example/consentry/consentry/authorization/CodeChallengeMethod" := hU0.sm (Sm.ext O1.2)
      have B_2118 : Fld Z h1 u0 "com/example/consentry/consentry/authorization/CodeChallengeMethod" "spelling" "Ljava/lang/String;" (.ref p0) := hF0.sm (Sm.ext O1.2)
      have B_2119 : Exa Z h1 p0 "java/lang/String" := hXp0.sm (Sm.ext O1.2)
      have B_2120 : Fld Z h1 p0 "java/lang/String" "value" "[B" (.ref y0) := hVp0.sm (Sm.ext O1.2)
      have B_2121 : Fld Z h1 p0 "java/lang/String" "coder" "B" (.int (0 : Int32)) := hCp0.sm (Sm.ext O1.2)
      have B_2122 : Ary Z h1 y0 .byte (own_pl.map Value.int) := hYp0.sm (Sm.ext O1.2)
      have B_2123 : Exa Z h1 u1 "com/example/consentry/consentry/authorization/CodeChallengeMethod" := hU1.sm (Sm.ext O1.2)
      have B_2124 : Fld Z h1 u1 "com/example/consentry/consentry/authorization/CodeChallengeMethod" "spelling" "Ljava/lang/String;" (.ref p1) := hF1.sm (Sm.ext O1.2)
      have B_2125 : Exa Z h1 p1 "java/lang/String" := hXp1.sm (Sm.ext O1.2)
      have B_2126 : Fld Z h1 p1 "java/lang/String" "value" "[B" (.ref y1) := hVp1.sm (Sm.ext O1.2)
      have B_2127 : Fld Z h1 p1 "java/lang/String" "coder" "B" (.int (0 : Int32)) := hCp1.sm (Sm.ext O1.2)
      have B_2128 : Ary Z h1 y1 .byte (own_sb.map Value.int) := hYp1.sm (Sm.ext O1.2)
      refine Go.astore (pc' := 213) (Ls' := #[.val (.int k0), .val (.int k1), .val (.int k2), .val (.long k3), .second, .val (.int k4), .val (.int m_1807), .val (.ref a_1810), .val (.int n_1874), .val .null, .unset, .unset]) at_211 rfl rfl rfl ?_
      refine Go.aload (pc' := 215) at_213 rfl rfl rfl ?_
      refine Go.callS (pc' := 218) (argsL := [.null]) (rest := []) (W := 0) (hw _ (List.mem_of_getElem? (i := 28) rfl)) (hw _ (List.mem_of_getElem? (i := 29) rfl)) (hw _ (List.mem_of_getElem? (i := 30) rfl)) (hw _ (List.mem_of_getElem? (i := 31) rfl)) (by decide) (m_ps0 l Z a0 hw b u0 u1 p0 p1 y0 y1 cs h1 n0 z1 O1 hSCS hcs (Sta.ext O1.2 hSV) B_2115 B_2116 B_2117 B_2118 B_2119 B_2120 B_2121 B_2122 B_2123 B_2124 B_2125 B_2126 B_2127 B_2128) at_215 rfl pd8 rfl rfl (Nat.le_of_eq rfl) (by decide) (by decide) (by decide) (by decide) rfl ?_
      rintro _ h_2129 ⟨v1, rfl, K_2130, rfl⟩
      have t_2131 : a_1810 < h_2129.size := Nat.lt_of_lt_of_le hT.lt K_2130.1
      have z_2132 : n0 ≤ h_2129.size := Nat.le_trans z1 K_2130.1
      have O_2133 : Old Z n0 h_2129 := O1.keep K_2130 all0
      show (Go _ l room_1 Z x code maxLocals ret n0 24 3200 (fun v h => v = some (.int 1))) h_2129 (0 + 1 + 1) (0 + 6 + 2) 218 #[.val (.int k0), .val (.int k1), .val (.int k2), .val (.long k3), .second, .val (.int k4), .val (.int m_1807), .val (.ref a_1810), .val (.int n_1874), .val .null, .unset, .unset] [.null]
      refine Go.astore (pc' := 220) (Ls' := #[.val (.int k0), .val (.int k1), .val (.int k2), .val (.long k3), .second, .val (.int k4), .val (.int m_1807), .val (.ref a_1810), .val (.int n_1874), .val .null, .val .null, .unset]) at_218 rfl rfl rfl ?_
      refine Go.aconstNull (pc' := 221) at_220 rfl ?_
      refine Go.astore (pc' := 223) (Ls' := #[.val (.int k0), .val (.int k1), .val (.int k2), .val (.long k3), .second, .val (.int k4), .val (.int m_1807), .val (.ref a_1810), .val (.int n_1874), .val .null, .val .null, .val .null]) at_221 rfl rfl rfl ?_
      refine Go.aload (pc' := 225) at_223 rfl rfl rfl ?_
      refine Go.nullYes (pc' := 261) at_225 (by decide) (by decide) ?_
      refine Go.aload (pc' := 263) at_261 rfl rfl rfl ?_
      refine Go.aload (pc' := 265) at_263 rfl rfl rfl ?_
      refine Go.acmp (pc1 := 268) (pc2 := 272) at_265 rfl rfl (by decide) (by decide) (by decide) (fun c_2134 => ?_) (fun c_2134 => absurd rfl c_2134)
      refine Go.iconst (pc' := 269) (v := (1 : Int32)) at_268 rfl rfl ?_
      refine Go.goto (pc' := 273) at_269 (by decide) (by decide) ?_
      exact Go.retN (t := .boolean) at_273 rfl (by simp) rfl rfl (by decide) (by decide)
  refine Go.iload (pc' := 94) at_92 rfl rfl ?_
  refine Go.ifc (pc1 := 130) (pc2 := 97) at_94 (by decide) (by decide) rfl (fun (c_2135 : m_1807.toInt ≠ 0) => ?_) (fun (c_2135 : m_1807.toInt = 0) => ?_)
  · refine Go.iload (pc' := 132) at_130 rfl rfl ?_
    refine Go.iconst (pc' := 133) (v := (1 : Int32)) at_132 rfl rfl ?_
    refine Go.icmp (pc1 := 160) (pc2 := 136) at_133 (by decide) (by decide) rfl (fun (c_2136 : m_1807.toInt ≠ (1 : Int)) => ?_) (fun (c_2136 : m_1807.toInt = (1 : Int)) => ?_)
    · refine Go.iloadN (pc' := 161) at_160 rfl rfl ?_
      refine Go.iconst (pc' := 162) (v := (2 : Int32)) at_161 rfl rfl ?_
      refine Go.iushr (pc' := 163) at_162 rfl ?_
      refine Go.iconst (pc' := 164) (v := (1 : Int32)) at_163 rfl rfl ?_
      refine Go.iand (pc' := 165) at_164 rfl ?_
      refine Go.ifc (pc1 := 184) (pc2 := 168) at_165 (by decide) (by decide) rfl (fun (c_2137 : (((k0.toUInt32 >>> ((2 : Int32) &&& 31).toUInt32).toInt32) &&& (1 : Int32)).toInt = 0) => ?_) (fun (c_2137 : (((k0.toUInt32 >>> ((2 : Int32) &&& 31).toUInt32).toInt32) &&& (1 : Int32)).toInt ≠ 0) => ?_)
      · exact J1 h_1867 d_1820 d_1829 d_1838 d_1847 d_1856 d_1865 z_1872 O_1873 A_1869 k_1821 k_1830 k_1839 k_1848 k_1857 k_1866
      · refine Go.aload (pc' := 170) at_168 rfl rfl rfl ?_
        refine Go.iloadN (pc' := 171) at_170 rfl rfl ?_
        refine Go.ldcI (pc' := 173) (hw _ (List.mem_of_getElem? (i := 2) rfl)) at_171 rfl ?_
        refine Go.iand (pc' := 174) at_173 rfl ?_
        refine Go.bipush (pc' := 176) (v := (6 : Int32)) at_174 rfl rfl ?_
        refine Go.irem (pc' := 177) at_176 (by decide) rfl ?_
        generalize ei_2138 : (k1 &&& (2147483647 : Int32)) % (6 : Int32) = i_2138
        have k_2139 : i_2138.toInt = 0 ∨ i_2138.toInt = 1 ∨ i_2138.toInt = 2 ∨ i_2138.toInt = 3 ∨ i_2138.toInt = 4 ∨ i_2138.toInt = 5 := by
          rw [← ei_2138]
          have : (2147483647 : Int32).toInt = 2147483647 := by decide
          have := c_mask k1 (2147483647 : Int32) 31 (by decide) (by decide)
          have := rng32 (k1 &&& (2147483647 : Int32))
          have := rng32 k1
          have : (6 : Int32).toInt = 6 := by decide
          have := c_irem (k1 &&& (2147483647 : Int32)) (6 : Int32) 6 (by decide)
          have := rng32 ((k1 &&& (2147483647 : Int32)) % (6 : Int32))
          omega
        refine Go.iloadN (pc' := 178) at_177 rfl rfl ?_
        refine Go.sipush (pc' := 181) (v := (255 : Int32)) at_178 rfl rfl ?_
        refine Go.iand (pc' := 182) at_181 rfl ?_
        refine Go.i2c (pc' := 183) at_182 rfl ?_
        generalize ec_2140 : (k2 &&& (255 : Int32)).toUInt32.toUInt16.toUInt32.toInt32 = c_2140
        have k_2141 : (0 ≤ c_2140.toInt ∧ c_2140.toInt < 65536) ∧ c_2140.toInt < 256 := by
          rw [← ec_2140]
          have : (255 : Int32).toInt = 255 := by decide
          have := c_mask k2 (255 : Int32) 8 (by decide) (by decide)
          have := rng32 (k2 &&& (255 : Int32))
          have := rng32 k2
          have := c_i2c (k2 &&& (255 : Int32))
          have := rng32 ((k2 &&& (255 : Int32)).toUInt32.toUInt16.toUInt32.toInt32)
          omega
        have nc : nar .char c_2140 = c_2140 := own_nc k_2141.1
        clear ei_2138
        rcases k_2139 with k_2139 | k_2139 | k_2139 | k_2139 | k_2139 | k_2139
        · obtain rfl : i_2138 = (0 : Int32) := Int32.toInt_inj.mp k_2139
          refine Go.stC (pc' := 184) (k := 0) A_1869 rfl (by show 0 < 6; decide) at_183 g_1815 rfl ?_
          intro h_2142 W_2143 A_2144
          rw [nc] at W_2143 A_2144
          have t_2146 : a_1810 < h_2142.size := Nat.lt_of_lt_of_le t_1871 (Nat.le_of_eq W_2143.size.symm)
          have z_2147 : n0 ≤ h_2142.size := Nat.le_trans z_1872 (Nat.le_of_eq W_2143.size.symm)
          have O_2148 : Old Z n0 h_2142 := O_1873.wr W_2143 g_1815
          have f_2145 : Sta Z h_2142 "java/lang/String" "COMPACT_STRINGS" "Z" (.int cs) := Sta.ext O_2148.2 hSCS
          change Ary Z h_2142 a_1810 .char [(.int c_2140), (.int d_1829), (.int d_1838), (.int d_1847), (.int d_1856), (.int d_1865)] at A_2144
          exact J1 h_2142 c_2140 d_1829 d_1838 d_1847 d_1856 d_1865 z_2147 O_2148 A_2144 k_2141 k_1830 k_1839 k_1848 k_1857 k_1866
        · obtain rfl : i_2138 = (1 : Int32) := Int32.toInt_inj.mp k_2139
          refine Go.stC (pc' := 184) (k := 1) A_1869 rfl (by show 1 < 6; decide) at_183 g_1815 rfl ?_
          intro h_2149 W_2150 A_2151
          rw [nc] at W_2150 A_2151
          have t_2153 : a_1810 < h_2149.size := Nat.lt_of_lt_of_le t_1871 (Nat.le_of_eq W_2150.size.symm)
          have z_2154 : n0 ≤ h_2149.size := Nat.le_trans z_1872 (Nat.le_of_eq W_2150.size.symm)
          have O_2155 : Old Z n0 h_2149 := O_1873.wr W_2150 g_1815
          have f_2152 : Sta Z h_2149 "java/lang/String" "COMPACT_STRINGS" "Z" (.int cs) := Sta.ext O_2155.2 hSCS
          change Ary Z h_2149 a_1810 .char [(.int d_1820), (.int c_2140), (.int d_1838), (.int d_1847), (.int d_1856), (.int d_1865)] at A_2151
          exact J1 h_2149 d_1820 c_2140 d_1838 d_1847 d_1856 d_1865 z_2154 O_2155 A_2151 k_1821 k_2141 k_1839 k_1848 k_1857 k_1866
        · obtain rfl : i_2138 = (2 : Int32) := Int32.toInt_inj.mp k_2139
          refine Go.stC (pc' := 184) (k := 2) A_1869 rfl (by show 2 < 6; decide) at_183 g_1815 rfl ?_
          intro h_2156 W_2157 A_2158
          rw [nc] at W_2157 A_2158
          have t_2160 : a_1810 < h_2156.size := Nat.lt_of_lt_of_le t_1871 (Nat.le_of_eq W_2157.size.symm)
          have z_2161 : n0 ≤ h_2156.size := Nat.le_trans z_1872 (Nat.le_of_eq W_2157.size.symm)
          have O_2162 : Old Z n0 h_2156 := O_1873.wr W_2157 g_1815
          have f_2159 : Sta Z h_2156 "java/lang/String" "COMPACT_STRINGS" "Z" (.int cs) := Sta.ext O_2162.2 hSCS
          change Ary Z h_2156 a_1810 .char [(.int d_1820), (.int d_1829), (.int c_2140), (.int d_1847), (.int d_1856), (.int d_1865)] at A_2158
          exact J1 h_2156 d_1820 d_1829 c_2140 d_1847 d_1856 d_1865 z_2161 O_2162 A_2158 k_1821 k_1830 k_2141 k_1848 k_1857 k_1866
        · obtain rfl : i_2138 = (3 : Int32) := Int32.toInt_inj.mp k_2139
          refine Go.stC (pc' := 184) (k := 3) A_1869 rfl (by show 3 < 6; decide) at_183 g_1815 rfl ?_
          intro h_2163 W_2164 A_2165
          rw [nc] at W_2164 A_2165
          have t_2167 : a_1810 < h_2163.size := Nat.lt_of_lt_of_le t_1871 (Nat.le_of_eq W_2164.size.symm)
          have z_2168 : n0 ≤ h_2163.size := Nat.le_trans z_1872 (Nat.le_of_eq W_2164.size.symm)
          have O_2169 : Old Z n0 h_2163 := O_1873.wr W_2164 g_1815
          have f_2166 : Sta Z h_2163 "java/lang/String" "COMPACT_STRINGS" "Z" (.int cs) := Sta.ext O_2169.2 hSCS
          change Ary Z h_2163 a_1810 .char [(.int d_1820), (.int d_1829), (.int d_1838), (.int c_2140), (.int d_1856), (.int d_1865)] at A_2165
          exact J1 h_2163 d_1820 d_1829 d_1838 c_2140 d_1856 d_1865 z_2168 O_2169 A_2165 k_1821 k_1830 k_1839 k_2141 k_1857 k_1866
        · obtain rfl : i_2138 = (4 : Int32) := Int32.toInt_inj.mp k_2139
          refine Go.stC (pc' := 184) (k := 4) A_1869 rfl (by show 4 < 6; decide) at_183 g_1815 rfl ?_
          intro h_2170 W_2171 A_2172
          rw [nc] at W_2171 A_2172
          have t_2174 : a_1810 < h_2170.size := Nat.lt_of_lt_of_le t_1871 (Nat.le_of_eq W_2171.size.symm)
          have z_2175 : n0 ≤ h_2170.size := Nat.le_trans z_1872 (Nat.le_of_eq W_2171.size.symm)
          have O_2176 : Old Z n0 h_2170 := O_1873.wr W_2171 g_1815
          have f_2173 : Sta Z h_2170 "java/lang/String" "COMPACT_STRINGS" "Z" (.int cs) := Sta.ext O_2176.2 hSCS
          change Ary Z h_2170 a_1810 .char [(.int d_1820), (.int d_1829), (.int d_1838), (.int d_1847), (.int c_2140), (.int d_1865)] at A_2172
          exact J1 h_2170 d_1820 d_1829 d_1838 d_1847 c_2140 d_1865 z_2175 O_2176 A_2172 k_1821 k_1830 k_1839 k_1848 k_2141 k_1866
        · obtain rfl : i_2138 = (5 : Int32) := Int32.toInt_inj.mp k_2139
          refine Go.stC (pc' := 184) (k := 5) A_1869 rfl (by show 5 < 6; decide) at_183 g_1815 rfl ?_
          intro h_2177 W_2178 A_2179
          rw [nc] at W_2178 A_2179
          have t_2181 : a_1810 < h_2177.size := Nat.lt_of_lt_of_le t_1871 (Nat.le_of_eq W_2178.size.symm)
          have z_2182 : n0 ≤ h_2177.size := Nat.le_trans z_1872 (Nat.le_of_eq W_2178.size.symm)
          have O_2183 : Old Z n0 h_2177 := O_1873.wr W_2178 g_1815
          have f_2180 : Sta Z h_2177 "java/lang/String" "COMPACT_STRINGS" "Z" (.int cs) := Sta.ext O_2183.2 hSCS
          change Ary Z h_2177 a_1810 .char [(.int d_1820), (.int d_1829), (.int d_1838), (.int d_1847), (.int d_1856), (.int c_2140)] at A_2179
          exact J1 h_2177 d_1820 d_1829 d_1838 d_1847 d_1856 c_2140 z_2182 O_2183 A_2179 k_1821 k_1830 k_1839 k_1848 k_1857 k_2141
    · refine Go.aload (pc' := 138) at_136 rfl rfl rfl ?_
      refine Go.iconst (pc' := 139) (v := (0 : Int32)) at_138 rfl rfl ?_
      refine Go.bipush (pc' := 141) (v := (83 : Int32)) at_139 rfl rfl ?_
      have nl_2184 : nar .char (83 : Int32) = (83 : Int32) := by decide
      refine Go.stC (pc' := 142) (k := 0) A_1869 rfl (by show 0 < 6; decide) at_141 g_1815 rfl ?_
      intro h_2185 W_2186 A_2187
      rw [nl_2184] at W_2186 A_2187
      have t_2189 : a_1810 < h_2185.size := Nat.lt_of_lt_of_le t_1871 (Nat.le_of_eq W_2186.size.symm)
      have z_2190 : n0 ≤ h_2185.size := Nat.le_trans z_1872 (Nat.le_of_eq W_2186.size.symm)
      have O_2191 : Old Z n0 h_2185 := O_1873.wr W_2186 g_1815
      have f_2188 : Sta Z h_2185 "java/lang/String" "COMPACT_STRINGS" "Z" (.int cs) := Sta.ext O_2191.2 hSCS
      change Ary Z h_2185 a_1810 .char [(.int (83 : Int32)), (.int d_1829), (.int d_1838), (.int d_1847), (.int d_1856), (.int d_1865)] at A_2187
      refine Go.aload (pc' := 144) at_142 rfl rfl rfl ?_
      refine Go.iconst (pc' := 145) (v := (1 : Int32)) at_144 rfl rfl ?_
      refine Go.bipush (pc' := 147) (v := (50 : Int32)) at_145 rfl rfl ?_
      have nl_2192 : nar .char (50 : Int32) = (50 : Int32) := by decide
      refine Go.stC (pc' := 148) (k := 1) A_2187 rfl (by show 1 < 6; decide) at_147 g_1815 rfl ?_
      intro h_2193 W_2194 A_2195
      rw [nl_2192] at W_2194 A_2195
      have t_2197 : a_1810 < h_2193.size := Nat.lt_of_lt_of_le t_2189 (Nat.le_of_eq W_2194.size.symm)
      have z_2198 : n0 ≤ h_2193.size := Nat.le_trans z_2190 (Nat.le_of_eq W_2194.size.symm)
      have O_2199 : Old Z n0 h_2193 := O_2191.wr W_2194 g_1815
      have f_2196 : Sta Z h_2193 "java/lang/String" "COMPACT_STRINGS" "Z" (.int cs) := Sta.ext O_2199.2 hSCS
      change Ary Z h_2193 a_1810 .char [(.int (83 : Int32)), (.int (50 : Int32)), (.int d_1838), (.int d_1847), (.int d_1856), (.int d_1865)] at A_2195
      refine Go.aload (pc' := 150) at_148 rfl rfl rfl ?_
      refine Go.iconst (pc' := 151) (v := (2 : Int32)) at_150 rfl rfl ?_
      refine Go.bipush (pc' := 153) (v := (53 : Int32)) at_151 rfl rfl ?_
      have nl_2200 : nar .char (53 : Int32) = (53 : Int32) := by decide
      refine Go.stC (pc' := 154) (k := 2) A_2195 rfl (by show 2 < 6; decide) at_153 g_1815 rfl ?_
      intro h_2201 W_2202 A_2203
      rw [nl_2200] at W_2202 A_2203
      have t_2205 : a_1810 < h_2201.size := Nat.lt_of_lt_of_le t_2197 (Nat.le_of_eq W_2202.size.symm)
      have z_2206 : n0 ≤ h_2201.size := Nat.le_trans z_2198 (Nat.le_of_eq W_2202.size.symm)
      have O_2207 : Old Z n0 h_2201 := O_2199.wr W_2202 g_1815
      have f_2204 : Sta Z h_2201 "java/lang/String" "COMPACT_STRINGS" "Z" (.int cs) := Sta.ext O_2207.2 hSCS
      change Ary Z h_2201 a_1810 .char [(.int (83 : Int32)), (.int (50 : Int32)), (.int (53 : Int32)), (.int d_1847), (.int d_1856), (.int d_1865)] at A_2203
      refine Go.aload (pc' := 156) at_154 rfl rfl rfl ?_
      refine Go.iconst (pc' := 157) (v := (3 : Int32)) at_156 rfl rfl ?_
      refine Go.bipush (pc' := 159) (v := (54 : Int32)) at_157 rfl rfl ?_
      have nl_2208 : nar .char (54 : Int32) = (54 : Int32) := by decide
      refine Go.stC (pc' := 160) (k := 3) A_2203 rfl (by show 3 < 6; decide) at_159 g_1815 rfl ?_
      intro h_2209 W_2210 A_2211
      rw [nl_2208] at W_2210 A_2211
      have t_2213 : a_1810 < h_2209.size := Nat.lt_of_lt_of_le t_2205 (Nat.le_of_eq W_2210.size.symm)
      have z_2214 : n0 ≤ h_2209.size := Nat.le_trans z_2206 (Nat.le_of_eq W_2210.size.symm)
      have O_2215 : Old Z n0 h_2209 := O_2207.wr W_2210 g_1815
      have f_2212 : Sta Z h_2209 "java/lang/String" "COMPACT_STRINGS" "Z" (.int cs) := Sta.ext O_2215.2 hSCS
      change Ary Z h_2209 a_1810 .char [(.int (83 : Int32)), (.int (50 : Int32)), (.int (53 : Int32)), (.int (54 : Int32)), (.int d_1856), (.int d_1865)] at A_2211
      refine Go.iloadN (pc' := 161) at_160 rfl rfl ?_
      refine Go.iconst (pc' := 162) (v := (2 : Int32)) at_161 rfl rfl ?_
      refine Go.iushr (pc' := 163) at_162 rfl ?_
      refine Go.iconst (pc' := 164) (v := (1 : Int32)) at_163 rfl rfl ?_
      refine Go.iand (pc' := 165) at_164 rfl ?_
      refine Go.ifc (pc1 := 184) (pc2 := 168) at_165 (by decide) (by decide) rfl (fun (c_2216 : (((k0.toUInt32 >>> ((2 : Int32) &&& 31).toUInt32).toInt32) &&& (1 : Int32)).toInt = 0) => ?_) (fun (c_2216 : (((k0.toUInt32 >>> ((2 : Int32) &&& 31).toUInt32).toInt32) &&& (1 : Int32)).toInt ≠ 0) => ?_)
      · exact J1 h_2209 (83 : Int32) (50 : Int32) (53 : Int32) (54 : Int32) d_1856 d_1865 z_2214 O_2215 A_2211 (by decide) (by decide) (by decide) (by decide) k_1857 k_1866
      · refine Go.aload (pc' := 170) at_168 rfl rfl rfl ?_
        refine Go.iloadN (pc' := 171) at_170 rfl rfl ?_
        refine Go.ldcI (pc' := 173) (hw _ (List.mem_of_getElem? (i := 2) rfl)) at_171 rfl ?_
        refine Go.iand (pc' := 174) at_173 rfl ?_
        refine Go.bipush (pc' := 176) (v := (6 : Int32)) at_174 rfl rfl ?_
        refine Go.irem (pc' := 177) at_176 (by decide) rfl ?_
        generalize ei_2217 : (k1 &&& (2147483647 : Int32)) % (6 : Int32) = i_2217
        have k_2218 : i_2217.toInt = 0 ∨ i_2217.toInt = 1 ∨ i_2217.toInt = 2 ∨ i_2217.toInt = 3 ∨ i_2217.toInt = 4 ∨ i_2217.toInt = 5 := by
          rw [← ei_2217]
          have : (2147483647 : Int32).toInt = 2147483647 := by decide
          have := c_mask k1 (2147483647 : Int32) 31 (by decide) (by decide)
          have := rng32 (k1 &&& (2147483647 : Int32))
          have := rng32 k1
          have : (6 : Int32).toInt = 6 := by decide
          have := c_irem (k1 &&& (2147483647 : Int32)) (6 : Int32) 6 (by decide)
          have := rng32 ((k1 &&& (2147483647 : Int32)) % (6 : Int32))
          omega
        refine Go.iloadN (pc' := 178) at_177 rfl rfl ?_
        refine Go.sipush (pc' := 181) (v := (255 : Int32)) at_178 rfl rfl ?_
        refine Go.iand (pc' := 182) at_181 rfl ?_
        refine Go.i2c (pc' := 183) at_182 rfl ?_
        generalize ec_2219 : (k2 &&& (255 : Int32)).toUInt32.toUInt16.toUInt32.toInt32 = c_2219
        have k_2220 : (0 ≤ c_2219.toInt ∧ c_2219.toInt < 65536) ∧ c_2219.toInt < 256 := by
          rw [← ec_2219]
          have : (255 : Int32).toInt = 255 := by decide
          have := c_mask k2 (255 : Int32) 8 (by decide) (by decide)
          have := rng32 (k2 &&& (255 : Int32))
          have := rng32 k2
          have := c_i2c (k2 &&& (255 : Int32))
          have := rng32 ((k2 &&& (255 : Int32)).toUInt32.toUInt16.toUInt32.toInt32)
          omega
        have nc : nar .char c_2219 = c_2219 := own_nc k_2220.1
        clear ei_2217
        rcases k_2218 with k_2218 | k_2218 | k_2218 | k_2218 | k_2218 | k_2218
        · obtain rfl : i_2217 = (0 : Int32) := Int32.toInt_inj.mp k_2218
          refine Go.stC (pc' := 184) (k := 0) A_2211 rfl (by show 0 < 6; decide) at_183 g_1815 rfl ?_
          intro h_2221 W_2222 A_2223
          rw [nc] at W_2222 A_2223
          have t_2225 : a_1810 < h_2221.size := Nat.lt_of_lt_of_le t_2213 (Nat.le_of_eq W_2222.size.symm)
          have z_2226 : n0 ≤ h_2221.size := Nat.le_trans z_2214 (Nat.le_of_eq W_2222.size.symm)
          have O_2227 : Old Z n0 h_2221 := O_2215.wr W_2222 g_1815
          have f_2224 : Sta Z h_2221 "java/lang/String" "COMPACT_STRINGS" "Z" (.int cs) := Sta.ext O_2227.2 hSCS
          change Ary Z h_2221 a_1810 .char [(.int c_2219), (.int (50 : Int32)), (.int (53 : Int32)), (.int (54 : Int32)), (.int d_1856), (.int d_1865)] at A_2223
          exact J1 h_2221 c_2219 (50 : Int32) (53 : Int32) (54 : Int32) d_1856 d_1865 z_2226 O_2227 A_2223 k_2220 (by decide) (by decide) (by decide) k_1857 k_1866
        · obtain rfl : i_2217 = (1 : Int32) := Int32.toInt_inj.mp k_2218
          refine Go.stC (pc' := 184) (k := 1) A_2211 rfl (by show 1 < 6; decide) at_183 g_1815 rfl ?_
          intro h_2228 W_2229 A_2230
          rw [nc] at W_2229 A_2230
          have t_2232 : a_1810 < h_2228.size := Nat.lt_of_lt_of_le t_2213 (Nat.le_of_eq W_2229.size.symm)
          have z_2233 : n0 ≤ h_2228.size := Nat.le_trans z_2214 (Nat.le_of_eq W_2229.size.symm)
          have O_2234 : Old Z n0 h_2228 := O_2215.wr W_2229 g_1815
          have f_2231 : Sta Z h_2228 "java/lang/String" "COMPACT_STRINGS" "Z" (.int cs) := Sta.ext O_2234.2 hSCS
          change Ary Z h_2228 a_1810 .char [(.int (83 : Int32)), (.int c_2219), (.int (53 : Int32)), (.int (54 : Int32)), (.int d_1856), (.int d_1865)] at A_2230
          exact J1 h_2228 (83 : Int32) c_2219 (53 : Int32) (54 : Int32) d_1856 d_1865 z_2233 O_2234 A_2230 (by decide) k_2220 (by decide) (by decide) k_1857 k_1866
        · obtain rfl : i_2217 = (2 : Int32) := Int32.toInt_inj.mp k_2218
          refine Go.stC (pc' := 184) (k := 2) A_2211 rfl (by show 2 < 6; decide) at_183 g_1815 rfl ?_
          intro h_2235 W_2236 A_2237
          rw [nc] at W_2236 A_2237
          have t_2239 : a_1810 < h_2235.size := Nat.lt_of_lt_of_le t_2213 (Nat.le_of_eq W_2236.size.symm)
          have z_2240 : n0 ≤ h_2235.size := Nat.le_trans z_2214 (Nat.le_of_eq W_2236.size.symm)
          have O_2241 : Old Z n0 h_2235 := O_2215.wr W_2236 g_1815
          have f_2238 : Sta Z h_2235 "java/lang/String" "COMPACT_STRINGS" "Z" (.int cs) := Sta.ext O_2241.2 hSCS
          change Ary Z h_2235 a_1810 .char [(.int (83 : Int32)), (.int (50 : Int32)), (.int c_2219), (.int (54 : Int32)), (.int d_1856), (.int d_1865)] at A_2237
          exact J1 h_2235 (83 : Int32) (50 : Int32) c_2219 (54 : Int32) d_1856 d_1865 z_2240 O_2241 A_2237 (by decide) (by decide) k_2220 (by decide) k_1857 k_1866
        · obtain rfl : i_2217 = (3 : Int32) := Int32.toInt_inj.mp k_2218
          refine Go.stC (pc' := 184) (k := 3) A_2211 rfl (by show 3 < 6; decide) at_183 g_1815 rfl ?_
          intro h_2242 W_2243 A_2244
          rw [nc] at W_2243 A_2244
          have t_2246 : a_1810 < h_2242.size := Nat.lt_of_lt_of_le t_2213 (Nat.le_of_eq W_2243.size.symm)
          have z_2247 : n0 ≤ h_2242.size := Nat.le_trans z_2214 (Nat.le_of_eq W_2243.size.symm)
          have O_2248 : Old Z n0 h_2242 := O_2215.wr W_2243 g_1815
          have f_2245 : Sta Z h_2242 "java/lang/String" "COMPACT_STRINGS" "Z" (.int cs) := Sta.ext O_2248.2 hSCS
          change Ary Z h_2242 a_1810 .char [(.int (83 : Int32)), (.int (50 : Int32)), (.int (53 : Int32)), (.int c_2219), (.int d_1856), (.int d_1865)] at A_2244
          exact J1 h_2242 (83 : Int32) (50 : Int32) (53 : Int32) c_2219 d_1856 d_1865 z_2247 O_2248 A_2244 (by decide) (by decide) (by decide) k_2220 k_1857 k_1866
        · obtain rfl : i_2217 = (4 : Int32) := Int32.toInt_inj.mp k_2218
          refine Go.stC (pc' := 184) (k := 4) A_2211 rfl (by show 4 < 6; decide) at_183 g_1815 rfl ?_
          intro h_2249 W_2250 A_2251
          rw [nc] at W_2250 A_2251
          have t_2253 : a_1810 < h_2249.size := Nat.lt_of_lt_of_le t_2213 (Nat.le_of_eq W_2250.size.symm)
          have z_2254 : n0 ≤ h_2249.size := Nat.le_trans z_2214 (Nat.le_of_eq W_2250.size.symm)
          have O_2255 : Old Z n0 h_2249 := O_2215.wr W_2250 g_1815
          have f_2252 : Sta Z h_2249 "java/lang/String" "COMPACT_STRINGS" "Z" (.int cs) := Sta.ext O_2255.2 hSCS
          change Ary Z h_2249 a_1810 .char [(.int (83 : Int32)), (.int (50 : Int32)), (.int (53 : Int32)), (.int (54 : Int32)), (.int c_2219), (.int d_1865)] at A_2251
          exact J1 h_2249 (83 : Int32) (50 : Int32) (53 : Int32) (54 : Int32) c_2219 d_1865 z_2254 O_2255 A_2251 (by decide) (by decide) (by decide) (by decide) k_2220 k_1866
        · obtain rfl : i_2217 = (5 : Int32) := Int32.toInt_inj.mp k_2218
          refine Go.stC (pc' := 184) (k := 5) A_2211 rfl (by show 5 < 6; decide) at_183 g_1815 rfl ?_
          intro h_2256 W_2257 A_2258
          rw [nc] at W_2257 A_2258
          have t_2260 : a_1810 < h_2256.size := Nat.lt_of_lt_of_le t_2213 (Nat.le_of_eq W_2257.size.symm)
          have z_2261 : n0 ≤ h_2256.size := Nat.le_trans z_2214 (Nat.le_of_eq W_2257.size.symm)
          have O_2262 : Old Z n0 h_2256 := O_2215.wr W_2257 g_1815
          have f_2259 : Sta Z h_2256 "java/lang/String" "COMPACT_STRINGS" "Z" (.int cs) := Sta.ext O_2262.2 hSCS
          change Ary Z h_2256 a_1810 .char [(.int (83 : Int32)), (.int (50 : Int32)), (.int (53 : Int32)), (.int (54 : Int32)), (.int d_1856), (.int c_2219)] at A_2258
          exact J1 h_2256 (83 : Int32) (50 : Int32) (53 : Int32) (54 : Int32) d_1856 c_2219 z_2261 O_2262 A_2258 (by decide) (by decide) (by decide) (by decide) k_1857 k_2220
  · refine Go.aload (pc' := 99) at_97 rfl rfl rfl ?_
    refine Go.iconst (pc' := 100) (v := (0 : Int32)) at_99 rfl rfl ?_
    refine Go.bipush (pc' := 102) (v := (112 : Int32)) at_100 rfl rfl ?_
    have nl_2263 : nar .char (112 : Int32) = (112 : Int32) := by decide
    refine Go.stC (pc' := 103) (k := 0) A_1869 rfl (by show 0 < 6; decide) at_102 g_1815 rfl ?_
    intro h_2264 W_2265 A_2266
    rw [nl_2263] at W_2265 A_2266
    have t_2268 : a_1810 < h_2264.size := Nat.lt_of_lt_of_le t_1871 (Nat.le_of_eq W_2265.size.symm)
    have z_2269 : n0 ≤ h_2264.size := Nat.le_trans z_1872 (Nat.le_of_eq W_2265.size.symm)
    have O_2270 : Old Z n0 h_2264 := O_1873.wr W_2265 g_1815
    have f_2267 : Sta Z h_2264 "java/lang/String" "COMPACT_STRINGS" "Z" (.int cs) := Sta.ext O_2270.2 hSCS
    change Ary Z h_2264 a_1810 .char [(.int (112 : Int32)), (.int d_1829), (.int d_1838), (.int d_1847), (.int d_1856), (.int d_1865)] at A_2266
    refine Go.aload (pc' := 105) at_103 rfl rfl rfl ?_
    refine Go.iconst (pc' := 106) (v := (1 : Int32)) at_105 rfl rfl ?_
    refine Go.bipush (pc' := 108) (v := (108 : Int32)) at_106 rfl rfl ?_
    have nl_2271 : nar .char (108 : Int32) = (108 : Int32) := by decide
    refine Go.stC (pc' := 109) (k := 1) A_2266 rfl (by show 1 < 6; decide) at_108 g_1815 rfl ?_
    intro h_2272 W_2273 A_2274
    rw [nl_2271] at W_2273 A_2274
    have t_2276 : a_1810 < h_2272.size := Nat.lt_of_lt_of_le t_2268 (Nat.le_of_eq W_2273.size.symm)
    have z_2277 : n0 ≤ h_2272.size := Nat.le_trans z_2269 (Nat.le_of_eq W_2273.size.symm)
    have O_2278 : Old Z n0 h_2272 := O_2270.wr W_2273 g_1815
    have f_2275 : Sta Z h_2272 "java/lang/String" "COMPACT_STRINGS" "Z" (.int cs) := Sta.ext O_2278.2 hSCS
    change Ary Z h_2272 a_1810 .char [(.int (112 : Int32)), (.int (108 : Int32)), (.int d_1838), (.int d_1847), (.int d_1856), (.int d_1865)] at A_2274
    refine Go.aload (pc' := 111) at_109 rfl rfl rfl ?_
    refine Go.iconst (pc' := 112) (v := (2 : Int32)) at_111 rfl rfl ?_
    refine Go.bipush (pc' := 114) (v := (97 : Int32)) at_112 rfl rfl ?_
    have nl_2279 : nar .char (97 : Int32) = (97 : Int32) := by decide
    refine Go.stC (pc' := 115) (k := 2) A_2274 rfl (by show 2 < 6; decide) at_114 g_1815 rfl ?_
    intro h_2280 W_2281 A_2282
    rw [nl_2279] at W_2281 A_2282
    have t_2284 : a_1810 < h_2280.size := Nat.lt_of_lt_of_le t_2276 (Nat.le_of_eq W_2281.size.symm)
    have z_2285 : n0 ≤ h_2280.size := Nat.le_trans z_2277 (Nat.le_of_eq W_2281.size.symm)
    have O_2286 : Old Z n0 h_2280 := O_2278.wr W_2281 g_1815
    have f_2283 : Sta Z h_2280 "java/lang/String" "COMPACT_STRINGS" "Z" (.int cs) := Sta.ext O_2286.2 hSCS
    change Ary Z h_2280 a_1810 .char [(.int (112 : Int32)), (.int (108 : Int32)), (.int (97 : Int32)), (.int d_1847), (.int d_1856), (.int d_1865)] at A_2282
    refine Go.aload (pc' := 117) at_115 rfl rfl rfl ?_
    refine Go.iconst (pc' := 118) (v := (3 : Int32)) at_117 rfl rfl ?_
    refine Go.bipush (pc' := 120) (v := (105 : Int32)) at_118 rfl rfl ?_
    have nl_2287 : nar .char (105 : Int32) = (105 : Int32) := by decide
    refine Go.stC (pc' := 121) (k := 3) A_2282 rfl (by show 3 < 6; decide) at_120 g_1815 rfl ?_
    intro h_2288 W_2289 A_2290
    rw [nl_2287] at W_2289 A_2290
    have t_2292 : a_1810 < h_2288.size := Nat.lt_of_lt_of_le t_2284 (Nat.le_of_eq W_2289.size.symm)
    have z_2293 : n0 ≤ h_2288.size := Nat.le_trans z_2285 (Nat.le_of_eq W_2289.size.symm)
    have O_2294 : Old Z n0 h_2288 := O_2286.wr W_2289 g_1815
    have f_2291 : Sta Z h_2288 "java/lang/String" "COMPACT_STRINGS" "Z" (.int cs) := Sta.ext O_2294.2 hSCS
    change Ary Z h_2288 a_1810 .char [(.int (112 : Int32)), (.int (108 : Int32)), (.int (97 : Int32)), (.int (105 : Int32)), (.int d_1856), (.int d_1865)] at A_2290
    refine Go.aload (pc' := 123) at_121 rfl rfl rfl ?_
    refine Go.iconst (pc' := 124) (v := (4 : Int32)) at_123 rfl rfl ?_
    refine Go.bipush (pc' := 126) (v := (110 : Int32)) at_124 rfl rfl ?_
    have nl_2295 : nar .char (110 : Int32) = (110 : Int32) := by decide
    refine Go.stC (pc' := 127) (k := 4) A_2290 rfl (by show 4 < 6; decide) at_126 g_1815 rfl ?_
    intro h_2296 W_2297 A_2298
    rw [nl_2295] at W_2297 A_2298
    have t_2300 : a_1810 < h_2296.size := Nat.lt_of_lt_of_le t_2292 (Nat.le_of_eq W_2297.size.symm)
    have z_2301 : n0 ≤ h_2296.size := Nat.le_trans z_2293 (Nat.le_of_eq W_2297.size.symm)
    have O_2302 : Old Z n0 h_2296 := O_2294.wr W_2297 g_1815
    have f_2299 : Sta Z h_2296 "java/lang/String" "COMPACT_STRINGS" "Z" (.int cs) := Sta.ext O_2302.2 hSCS
    change Ary Z h_2296 a_1810 .char [(.int (112 : Int32)), (.int (108 : Int32)), (.int (97 : Int32)), (.int (105 : Int32)), (.int (110 : Int32)), (.int d_1865)] at A_2298
    refine Go.goto (pc' := 160) at_127 (by decide) (by decide) ?_
    refine Go.iloadN (pc' := 161) at_160 rfl rfl ?_
    refine Go.iconst (pc' := 162) (v := (2 : Int32)) at_161 rfl rfl ?_
    refine Go.iushr (pc' := 163) at_162 rfl ?_
    refine Go.iconst (pc' := 164) (v := (1 : Int32)) at_163 rfl rfl ?_
    refine Go.iand (pc' := 165) at_164 rfl ?_
    refine Go.ifc (pc1 := 184) (pc2 := 168) at_165 (by decide) (by decide) rfl (fun (c_2303 : (((k0.toUInt32 >>> ((2 : Int32) &&& 31).toUInt32).toInt32) &&& (1 : Int32)).toInt = 0) => ?_) (fun (c_2303 : (((k0.toUInt32 >>> ((2 : Int32) &&& 31).toUInt32).toInt32) &&& (1 : Int32)).toInt ≠ 0) => ?_)
    · exact J1 h_2296 (112 : Int32) (108 : Int32) (97 : Int32) (105 : Int32) (110 : Int32) d_1865 z_2301 O_2302 A_2298 (by decide) (by decide) (by decide) (by decide) (by decide) k_1866
    · refine Go.aload (pc' := 170) at_168 rfl rfl rfl ?_
      refine Go.iloadN (pc' := 171) at_170 rfl rfl ?_
      refine Go.ldcI (pc' := 173) (hw _ (List.mem_of_getElem? (i := 2) rfl)) at_171 rfl ?_
      refine Go.iand (pc' := 174) at_173 rfl ?_
      refine Go.bipush (pc' := 176) (v := (6 : Int32)) at_174 rfl rfl ?_
      refine Go.irem (pc' := 177) at_176 (by decide) rfl ?_
      generalize ei_2304 : (k1 &&& (2147483647 : Int32)) % (6 : Int32) = i_2304
      have k_2305 : i_2304.toInt = 0 ∨ i_2304.toInt = 1 ∨ i_2304.toInt = 2 ∨ i_2304.toInt = 3 ∨ i_2304.toInt = 4 ∨ i_2304.toInt = 5 := by
        rw [← ei_2304]
        have : (2147483647 : Int32).toInt = 2147483647 := by decide
        have := c_mask k1 (2147483647 : Int32) 31 (by decide) (by decide)
        have := rng32 (k1 &&& (2147483647 : Int32))
        have := rng32 k1
        have : (6 : Int32).toInt = 6 := by decide
        have := c_irem (k1 &&& (2147483647 : Int32)) (6 : Int32) 6 (by decide)
        have := rng32 ((k1 &&& (2147483647 : Int32)) % (6 : Int32))
        omega
      refine Go.iloadN (pc' := 178) at_177 rfl rfl ?_
      refine Go.sipush (pc' := 181) (v := (255 : Int32)) at_178 rfl rfl ?_
      refine Go.iand (pc' := 182) at_181 rfl ?_
      refine Go.i2c (pc' := 183) at_182 rfl ?_
      generalize ec_2306 : (k2 &&& (255 : Int32)).toUInt32.toUInt16.toUInt32.toInt32 = c_2306
      have k_2307 : (0 ≤ c_2306.toInt ∧ c_2306.toInt < 65536) ∧ c_2306.toInt < 256 := by
        rw [← ec_2306]
        have : (255 : Int32).toInt = 255 := by decide
        have := c_mask k2 (255 : Int32) 8 (by decide) (by decide)
        have := rng32 (k2 &&& (255 : Int32))
        have := rng32 k2
        have := c_i2c (k2 &&& (255 : Int32))
        have := rng32 ((k2 &&& (255 : Int32)).toUInt32.toUInt16.toUInt32.toInt32)
        omega
      have nc : nar .char c_2306 = c_2306 := own_nc k_2307.1
      clear ei_2304
      rcases k_2305 with k_2305 | k_2305 | k_2305 | k_2305 | k_2305 | k_2305
      · obtain rfl : i_2304 = (0 : Int32) := Int32.toInt_inj.mp k_2305
        refine Go.stC (pc' := 184) (k := 0) A_2298 rfl (by show 0 < 6; decide) at_183 g_1815 rfl ?_
        intro h_2308 W_2309 A_2310
        rw [nc] at W_2309 A_2310
        have t_2312 : a_1810 < h_2308.size := Nat.lt_of_lt_of_le t_2300 (Nat.le_of_eq W_2309.size.symm)
        have z_2313 : n0 ≤ h_2308.size := Nat.le_trans z_2301 (Nat.le_of_eq W_2309.size.symm)
        have O_2314 : Old Z n0 h_2308 := O_2302.wr W_2309 g_1815
        have f_2311 : Sta Z h_2308 "java/lang/String" "COMPACT_STRINGS" "Z" (.int cs) := Sta.ext O_2314.2 hSCS
        change Ary Z h_2308 a_1810 .char [(.int c_2306), (.int (108 : Int32)), (.int (97 : Int32)), (.int (105 : Int32)), (.int (110 : Int32)), (.int d_1865)] at A_2310
        exact J1 h_2308 c_2306 (108 : Int32) (97 : Int32) (105 : Int32) (110 : Int32) d_1865 z_2313 O_2314 A_2310 k_2307 (by decide) (by decide) (by decide) (by decide) k_1866
      · obtain rfl : i_2304 = (1 : Int32) := Int32.toInt_inj.mp k_2305
        refine Go.stC (pc' := 184) (k := 1) A_2298 rfl (by show 1 < 6; decide) at_183 g_1815 rfl ?_
        intro h_2315 W_2316 A_2317
        rw [nc] at W_2316 A_2317
        have t_2319 : a_1810 < h_2315.size := Nat.lt_of_lt_of_le t_2300 (Nat.le_of_eq W_2316.size.symm)
        have z_2320 : n0 ≤ h_2315.size := Nat.le_trans z_2301 (Nat.le_of_eq W_2316.size.symm)
        have O_2321 : Old Z n0 h_2315 := O_2302.wr W_2316 g_1815
        have f_2318 : Sta Z h_2315 "java/lang/String" "COMPACT_STRINGS" "Z" (.int cs) := Sta.ext O_2321.2 hSCS
        change Ary Z h_2315 a_1810 .char [(.int (112 : Int32)), (.int c_2306), (.int (97 : Int32)), (.int (105 : Int32)), (.int (110 : Int32)), (.int d_1865)] at A_2317
        exact J1 h_2315 (112 : Int32) c_2306 (97 : Int32) (105 : Int32) (110 : Int32) d_1865 z_2320 O_2321 A_2317 (by decide) k_2307 (by decide) (by decide) (by decide) k_1866
      · obtain rfl : i_2304 = (2 : Int32) := Int32.toInt_inj.mp k_2305
        refine Go.stC (pc' := 184) (k := 2) A_2298 rfl (by show 2 < 6; decide) at_183 g_1815 rfl ?_
        intro h_2322 W_2323 A_2324
        rw [nc] at W_2323 A_2324
        have t_2326 : a_1810 < h_2322.size := Nat.lt_of_lt_of_le t_2300 (Nat.le_of_eq W_2323.size.symm)
        have z_2327 : n0 ≤ h_2322.size := Nat.le_trans z_2301 (Nat.le_of_eq W_2323.size.symm)
        have O_2328 : Old Z n0 h_2322 := O_2302.wr W_2323 g_1815
        have f_2325 : Sta Z h_2322 "java/lang/String" "COMPACT_STRINGS" "Z" (.int cs) := Sta.ext O_2328.2 hSCS
        change Ary Z h_2322 a_1810 .char [(.int (112 : Int32)), (.int (108 : Int32)), (.int c_2306), (.int (105 : Int32)), (.int (110 : Int32)), (.int d_1865)] at A_2324
        exact J1 h_2322 (112 : Int32) (108 : Int32) c_2306 (105 : Int32) (110 : Int32) d_1865 z_2327 O_2328 A_2324 (by decide) (by decide) k_2307 (by decide) (by decide) k_1866
      · obtain rfl : i_2304 = (3 : Int32) := Int32.toInt_inj.mp k_2305
        refine Go.stC (pc' := 184) (k := 3) A_2298 rfl (by show 3 < 6; decide) at_183 g_1815 rfl ?_
        intro h_2329 W_2330 A_2331
        rw [nc] at W_2330 A_2331
        have t_2333 : a_1810 < h_2329.size := Nat.lt_of_lt_of_le t_2300 (Nat.le_of_eq W_2330.size.symm)
        have z_2334 : n0 ≤ h_2329.size := Nat.le_trans z_2301 (Nat.le_of_eq W_2330.size.symm)
        have O_2335 : Old Z n0 h_2329 := O_2302.wr W_2330 g_1815
        have f_2332 : Sta Z h_2329 "java/lang/String" "COMPACT_STRINGS" "Z" (.int cs) := Sta.ext O_2335.2 hSCS
        change Ary Z h_2329 a_1810 .char [(.int (112 : Int32)), (.int (108 : Int32)), (.int (97 : Int32)), (.int c_2306), (.int (110 : Int32)), (.int d_1865)] at A_2331
        exact J1 h_2329 (112 : Int32) (108 : Int32) (97 : Int32) c_2306 (110 : Int32) d_1865 z_2334 O_2335 A_2331 (by decide) (by decide) (by decide) k_2307 (by decide) k_1866
      · obtain rfl : i_2304 = (4 : Int32) := Int32.toInt_inj.mp k_2305
        refine Go.stC (pc' := 184) (k := 4) A_2298 rfl (by show 4 < 6; decide) at_183 g_1815 rfl ?_
        intro h_2336 W_2337 A_2338
        rw [nc] at W_2337 A_2338
        have t_2340 : a_1810 < h_2336.size := Nat.lt_of_lt_of_le t_2300 (Nat.le_of_eq W_2337.size.symm)
        have z_2341 : n0 ≤ h_2336.size := Nat.le_trans z_2301 (Nat.le_of_eq W_2337.size.symm)
        have O_2342 : Old Z n0 h_2336 := O_2302.wr W_2337 g_1815
        have f_2339 : Sta Z h_2336 "java/lang/String" "COMPACT_STRINGS" "Z" (.int cs) := Sta.ext O_2342.2 hSCS
        change Ary Z h_2336 a_1810 .char [(.int (112 : Int32)), (.int (108 : Int32)), (.int (97 : Int32)), (.int (105 : Int32)), (.int c_2306), (.int d_1865)] at A_2338
        exact J1 h_2336 (112 : Int32) (108 : Int32) (97 : Int32) (105 : Int32) c_2306 d_1865 z_2341 O_2342 A_2338 (by decide) (by decide) (by decide) (by decide) k_2307 k_1866
      · obtain rfl : i_2304 = (5 : Int32) := Int32.toInt_inj.mp k_2305
        refine Go.stC (pc' := 184) (k := 5) A_2298 rfl (by show 5 < 6; decide) at_183 g_1815 rfl ?_
        intro h_2343 W_2344 A_2345
        rw [nc] at W_2344 A_2345
        have t_2347 : a_1810 < h_2343.size := Nat.lt_of_lt_of_le t_2300 (Nat.le_of_eq W_2344.size.symm)
        have z_2348 : n0 ≤ h_2343.size := Nat.le_trans z_2301 (Nat.le_of_eq W_2344.size.symm)
        have O_2349 : Old Z n0 h_2343 := O_2302.wr W_2344 g_1815
        have f_2346 : Sta Z h_2343 "java/lang/String" "COMPACT_STRINGS" "Z" (.int cs) := Sta.ext O_2349.2 hSCS
        change Ary Z h_2343 a_1810 .char [(.int (112 : Int32)), (.int (108 : Int32)), (.int (97 : Int32)), (.int (105 : Int32)), (.int (110 : Int32)), (.int c_2306)] at A_2345
        exact J1 h_2343 (112 : Int32) (108 : Int32) (97 : Int32) (105 : Int32) (110 : Int32) c_2306 z_2348 O_2349 A_2345 (by decide) (by decide) (by decide) (by decide) (by decide) k_2307
set_option maxRecDepth 65536 in
set_option maxHeartbeats 40000000 in
theorem comes_1 {Post : Tables → Env → Array Value → State → Outcome → State → Prop} (hpost : ∀ tb e args s v u, (limb_1_1.after args s (.returned v) u = true ∧ limb_1_2.after args s (.returned v) u = true ∧ True) → Jvm.D.FramedW s (.returned v) u (Jvm.fieldLocs frame_1_writes args s ++ Jvm.arrayLocs frame_1_arrays args s ++ Jvm.staticLocs frame_1_statics s) 24 3200 → Post tb e args s (.returned v) u) :
    ArmFor flags0 classFile x code maxLocals ret World_1 tables_1 room_1 Calls_1 rest_1 Pre_1 Post := by
  intro l hfl _ _ p e ha hc hk s m args below hf hA hF happ hP
  obtain ⟨hcalls, hrest, hpre⟩ := hP
  obtain ⟨-, -, -, hnamed, -, -, -, hat⟩ := (Spec.applies_iff hf).mp happ
  obtain ⟨hg, hn⟩ := and_e (Cond.before_iff.mp (show (Jvm.Cond.and given_1 narrow_1).before args s = true from hpre))
  obtain ⟨h1, hg1⟩ := and_e hg
  obtain ⟨w0, w1, w2, w3, w4, rfl⟩ : ∃ w0 w1 w2 w3 w4 : Value, args = #[w0, w1, w2, w3, w4] := by
    have hs : args.size = 5 := by simpa [Cond.value, given_1] using h1
    obtain ⟨L⟩ := args
    match L, hs with
    | [w0, w1, w2, w3, w4], _ => exact ⟨w0, w1, w2, w3, w4, rfl⟩
  have hw := fun d (hd : d ∈ tables_1) => atoms_spec (ws := Jvm.Cond.code x code maxLocals ret :: tables_1) hat d (List.mem_cons_of_mem _ hd)
  have hfit : Fit s := fun {y c} hc i hi => by
    obtain ⟨ha, rfl⟩ := Array.getElem?_eq_some_iff.mp hc
    have q := List.all_eq_true.mp ((Array.all_eq_true_iff_forall_mem.mp hF) _ (Array.getElem_mem ha)) i (List.mem_range.mpr hi)
    simpa [Array.getElem?_eq_getElem hi] using q
  obtain ⟨b0, hg2⟩ := and_e hg1
  obtain ⟨i0, e0⟩ := is_v b0
  obtain rfl : w0 = (.int i0) := Option.some.inj e0
  obtain ⟨b1, hg3⟩ := and_e hg2
  obtain ⟨i1, e1⟩ := is_v b1
  obtain rfl : w1 = (.int i1) := Option.some.inj e1
  obtain ⟨b2, hg4⟩ := and_e hg3
  obtain ⟨i2, e2⟩ := is_v b2
  obtain rfl : w2 = (.int i2) := Option.some.inj e2
  obtain ⟨b3, hg5⟩ := and_e hg4
  obtain ⟨i3, e3⟩ := isL_v b3
  obtain rfl : w3 = (.long i3) := Option.some.inj e3
  obtain ⟨i4, e4⟩ := is_v hg5
  obtain rfl : w4 = (.int i4) := Option.some.inj e4
  have hr := Cond.before_iff.mp (show rest_1_c.before _ s = true from hrest)
  obtain ⟨q0, qr0⟩ := and_e hr
  obtain ⟨q1, qr1⟩ := and_e qr0
  obtain ⟨q2, qr2⟩ := and_e qr1
  obtain ⟨q3, qr3⟩ := and_e qr2
  obtain ⟨q4, qr4⟩ := and_e qr3
  obtain ⟨q5, qr5⟩ := and_e qr4
  obtain ⟨q6, qr6⟩ := and_e qr5
  obtain ⟨q7, qr7⟩ := and_e qr6
  obtain ⟨q8, qr8⟩ := and_e qr7
  have q9 := qr8
  obtain ⟨c0, cr0⟩ := and_e hn
  obtain ⟨c1, cr1⟩ := and_e cr0
  obtain ⟨c2, cr2⟩ := and_e cr1
  obtain ⟨c3, cr3⟩ := and_e cr2
  obtain ⟨c4, cr4⟩ := and_e cr3
  obtain ⟨c5, cr5⟩ := and_e cr4
  obtain ⟨c6, cr6⟩ := and_e cr5
  obtain ⟨c7, cr7⟩ := and_e cr6
  obtain ⟨c8, cr8⟩ := and_e cr7
  obtain ⟨c9, cr9⟩ := and_e cr8
  obtain ⟨c10, cr10⟩ := and_e cr9
  obtain ⟨c11, cr11⟩ := and_e cr10
  obtain ⟨c12, cr12⟩ := and_e cr11
  obtain ⟨c13, cr13⟩ := and_e cr12
  obtain ⟨c14, cr14⟩ := and_e cr13
  obtain ⟨c15, cr15⟩ := and_e cr14
  obtain ⟨c16, cr16⟩ := and_e cr15
  obtain ⟨c17, cr17⟩ := and_e cr16
  obtain ⟨c18, cr18⟩ := and_e cr17
  obtain ⟨c19, cr19⟩ := and_e cr18
  obtain ⟨c20, cr20⟩ := and_e cr19
  obtain ⟨c21, cr21⟩ := and_e cr20
  obtain ⟨c22, cr22⟩ := and_e cr21
  have c23 := cr22
  obtain ⟨cs, ecs, hcs⟩ := own_neI q1 q2
  have S1 := Sta.start ecs (Or.inl (Cond.before_iff.mpr q0))
  have hcw : Jvm.Lit.compactW.before _ s = true := Cond.before_iff.mpr q2
  have hH1 : Jvm.Lit.constHeld s "com/example/consentry/consentry/authorization/CodeChallengeMethodParsePinLaw" 22 := hcalls.1 _ (List.mem_of_getElem? (i := 0) rfl)
  have hH2 : Jvm.Lit.constHeld s "com/example/consentry/consentry/authorization/CodeChallengeMethodParsePinLaw" 34 := hcalls.1 _ (List.mem_of_getElem? (i := 1) rfl)
  have hH : Jvm.Lit.constHeld s "java/lang/String" 7 := hcalls.1 _ (List.mem_of_getElem? (i := 2) rfl)
  obtain ⟨b, vb⟩ := arr_v c0
  obtain ⟨cl, A⟩ := Arr.start vb c0
  obtain ⟨u0, v0⟩ := exa_v c3
  obtain ⟨u1, v1⟩ := exa_v c5
  have SV := Sta.start vb (Or.inr ⟨(hw _ (List.mem_of_getElem? (i := 30) rfl)), (hw _ (List.mem_of_getElem? (i := 36) rfl))⟩)
  have SP := Sta.start v0 (Or.inr ⟨(hw _ (List.mem_of_getElem? (i := 30) rfl)), (hw _ (List.mem_of_getElem? (i := 44) rfl))⟩)
  have SS := Sta.start v1 (Or.inr ⟨(hw _ (List.mem_of_getElem? (i := 30) rfl)), (hw _ (List.mem_of_getElem? (i := 45) rfl))⟩)
  have hl2 := own_len vb A (own_eqI c2) (k := 2) rfl
  have AA : Ary s s.heap b (.object "com/example/consentry/consentry/authorization/CodeChallengeMethod") [.ref u0, .ref u1] := own_ary A (by rw [hl2]; rfl) (by
    intro k hk
    rcases (by have : k < 2 := hk; omega : k = 0 ∨ k = 1) with rfl | rfl
    · exact own_elem vb A (own_eqR c4 v0) (k := 0) rfl
    · exact own_elem vb A (own_eqR c6 v1) (k := 1) rfl)
  obtain ⟨p0, vp0⟩ := exa_v c7
  obtain ⟨y0, vy0⟩ := arr_v c9
  obtain ⟨cl0, A0⟩ := Arr.start vy0 c9
  have F0 := Fld.start ((fld_at v0).symm.trans vp0)
  have V0 := Fld.start ((fld_at vp0).symm.trans vy0)
  have C0 := Fld.start ((fld_at vp0).symm.trans (own_eqI c8))
  have hl3 := own_len vy0 A0 (own_eqI c10) (k := 5) rfl
  have Y0 : Ary s s.heap y0 .byte (own_pl.map Value.int) := own_ary A0 (by rw [hl3]; rfl) (by
    intro k hk
    rcases (by have : k < 5 := hk; omega : k = 0 ∨ k = 1 ∨ k = 2 ∨ k = 3 ∨ k = 4) with rfl | rfl | rfl | rfl | rfl
    · exact own_elem vy0 A0 (own_eqI c19) (k := 0) rfl
    · exact own_elem vy0 A0 (own_eqI c20) (k := 1) rfl
    · exact own_elem vy0 A0 (own_eqI c21) (k := 2) rfl
    · exact own_elem vy0 A0 (own_eqI c22) (k := 3) rfl
    · exact own_elem vy0 A0 (own_eqI c23) (k := 4) rfl)
  obtain ⟨p1, vp1⟩ := exa_v c11
  obtain ⟨y1, vy1⟩ := arr_v c13
  obtain ⟨cl1, A1⟩ := Arr.start vy1 c13
  have F1 := Fld.start ((fld_at v1).symm.trans vp1)
  have V1 := Fld.start ((fld_at vp1).symm.trans vy1)
  have C1 := Fld.start ((fld_at vp1).symm.trans (own_eqI c12))
  have hl4 := own_len vy1 A1 (own_eqI c14) (k := 4) rfl
  have Y1 : Ary s s.heap y1 .byte (own_sb.map Value.int) := own_ary A1 (by rw [hl4]; rfl) (by
    intro k hk
    rcases (by have : k < 4 := hk; omega : k = 0 ∨ k = 1 ∨ k = 2 ∨ k = 3) with rfl | rfl | rfl | rfl
    · exact own_elem vy1 A1 (own_eqI c15) (k := 0) rfl
    · exact own_elem vy1 A1 (own_eqI c16) (k := 1) rfl
    · exact own_elem vy1 A1 (own_eqI c17) (k := 2) rfl
    · exact own_elem vy1 A1 (own_eqI c18) (k := 3) rfl)
  obtain ⟨n, o, h1, h2, h3, _, L, rfl, ⟨⟨rfl, -⟩, N⟩, hq, -⟩ := rm1 l s _ hw tables_1 i0 i1 i2 i3 i4 b u0 u1 p0 p1 y0 y1 cs s.heap s.heap.size (Nat.le_refl _) (Old.start s) S1 hcs hH hH1 hH2 hcw rfl SP SS SV AA (Exa.start vb c1) (Exa.start v0 c3) F0 (Exa.start vp0 c7) V0 C0 Y0 (Exa.start v1 c5) F1 (Exa.start vp1 c11) V1 C1 Y1 p e ha hc hk s m _ below hf ((Spec.applies_iff_loose hf).mp happ).1 ⟨rfl, State.Warmed39.refl s, rfl, IB.start⟩ trivial
  refine ⟨n, _, h1, h2, h3, hpost _ _ _ _ _ _ ⟨Cond.after_iff.mpr rfl, Cond.after_iff.mpr (eq_i res_at (Term.int_eval (1)) rfl), trivial⟩ ⟨hq.1, hq.2.1, hq.2.2.1, (hq.2.2.2.sift fun y hy => Or.inr (N y hy)).mono (by decide) (by decide)⟩⟩
theorem main_1_1 : Claimed_1_1 := comes_1 fun _ _ _ _ _ _ h hF => ⟨h.1, hF⟩
theorem main_1_2 : Claimed_1_2 := comes_1 fun _ _ _ _ _ _ h hF => ⟨h.2.1, hF⟩
end Jvm.Pilot.@@N@@
namespace Jvm.Pilot.@@N@@
open Jvm Jvm.ClassFile Sem Op Lib Jvm.Free Jvm.Stand Jvm.Pilot.@@N@@.Jvm.D
/-! MADE BY PROGRAM (witnessworld.py) out of the Statement's table words and the real class files: 22 classes; the members and pool entries that the words name. The judged class is class 1, her method 1. -/
namespace start1
open Jvm.ClassFile
def u (s : String) : CpInfo := .utf8 (stringToUtf16 s)
/-- a pool by its gaps: so many unusable entries, then the entry; so many at the end -/
def gap : Nat → List CpInfo → List CpInfo
  | 0, r => r
  | n + 1, r => .unusable :: gap n r
def poolList (es : List (Nat × CpInfo)) (last : Nat) : List CpInfo := es.foldr (fun e r => gap e.1 (e.2 :: r)) (gap last [])
def pool (es : List (Nat × CpInfo)) (last : Nat) : Array CpInfo := ⟨poolList es last⟩
def fileOf (pool : Array CpInfo) (this : Nat) (attrs : Array Attribute := #[]) (ms : Array MethodInfo := #[]) (fl : Nat := 33) (sup : Nat := 0) (ifs : Array Nat := #[]) (fds : Array FieldInfo := #[]) : ClassFile where
  minorVersion := 0
  majorVersion := 65
  constantPool := pool
  accessFlags := fl
  thisClass := this
  superClass := sup
  interfaces := ifs
  fields := fds
  methods := ms
  attributes := attrs
def plain (name : String) (sup : Option ClassId) : Class where
  name := name
  kind := .ordinary
  loader := none
  accessFlags := 33
  super := sup
  interfaces := #[]
  cf := none
  fields := #[]
  methods := #[]
  instanceTypes := #[]
  staticTypes := #[]
  resolved := #[]
  callSites := []
  init := .initialized
  statics := none
  mirror := none

def pool0 : Array CpInfo := pool [(5, u "<init>"), (0, u "()V"), (1, .class_ 10), (1, u "java/lang/Object"), (85, u "clone"), (0, u "()Ljava/lang/Object;")] 26

def k0c0 : Code := { maxStack := 0, maxLocals := 1, code := object_method_1_code, exceptionTable := #[], attributes := #[] }
def k0m0 : Method := { name := "<init>", desc := "()V", sig := { parameters := [], returnType := none }, accessFlags := 1, code := some k0c0 }
def k0m1 : Method := { name := "clone", desc := "()Ljava/lang/Object;", sig := { parameters := [], returnType := some (.object "java/lang/Object") }, accessFlags := 260, code := none }
/-- java/lang/Object -/
def k0 : Class := { plain "java/lang/Object" none with
  accessFlags := 33
  interfaces := #[]
  cf := some (fileOf pool0 8 #[] #[{ accessFlags := 1, nameIndex := 5, descriptorIndex := 6, attributes := #[] }, { accessFlags := 260, nameIndex := 96, descriptorIndex := 97, attributes := #[] }] 33 0 #[] #[])
  fields := #[]
  methods := #[k0m0, k0m1]
  instanceTypes := #[]
  staticTypes := #[]
  resolved := Array.replicate 124 none
  statics := none }

def pool1 : Array CpInfo := pool [(2, .class_ 4), (1, u "java/lang/Object"), (0, u "<init>"), (0, u "()V"), (0, .long 255), (1, .integer 2147483647), (0, .methodref 11 12), (0, .class_ 13), (0, .nameAndType 14 15), (0, u "com/example/consentry/consentry/authorization/CodeChallengeMethodParsePinLaw"), (0, u "make"), (0, u "([CI)Ljava/lang/String;"), (0, .methodref 17 18), (0, .class_ 19), (0, .nameAndType 20 21), (0, u "com/example/consentry/consentry/authorization/CodeChallengeMethod"), (0, u "parse"), (0, u "(Ljava/lang/String;)Lcom/example/consentry/consentry/authorization/CodeChallengeMethod;"), (0, .string 23), (0, u "plain"), (0, .methodref 25 26), (0, .class_ 27), (0, .nameAndType 28 29), (0, u "java/lang/String"), (0, u "equals"), (0, u "(Ljava/lang/Object;)Z"), (0, .fieldref 17 31), (0, .nameAndType 32 33), (0, u "PLAIN"), (0, u "Lcom/example/consentry/consentry/authorization/CodeChallengeMethod;"), (0, .string 35), (0, u "S256"), (0, .fieldref 17 37), (0, .nameAndType 35 33), (0, .methodref 25 39), (0, .nameAndType 5 40), (0, u "([C)V"), (2, u "law"), (0, u "(IIIJI)Z")] 5

def k1m0 : Method := { name := "<init>", desc := "()V", sig := { parameters := [], returnType := none }, accessFlags := 2, code := none }
def k1c1 : Code := { maxStack := 6, maxLocals := 12, code := code, exceptionTable := #[], attributes := #[] }
def k1m1 : Method := { name := "law", desc := "(IIIJI)Z", sig := { parameters := [.int, .int, .int, .long, .int], returnType := some .boolean }, accessFlags := 9, code := some k1c1 }
def k1c2 : Code := { maxStack := 7, maxLocals := 2, code := method_3_code, exceptionTable := #[], attributes := #[] }
def k1m2 : Method := { name := "make", desc := "([CI)Ljava/lang/String;", sig := { parameters := [(.array .char), .int], returnType := some (.object "java/lang/String") }, accessFlags := 10, code := some k1c2 }
/-- com/example/consentry/consentry/authorization/CodeChallengeMethodParsePinLaw -/
def k1 : Class := { plain "com/example/consentry/consentry/authorization/CodeChallengeMethodParsePinLaw" (some 0) with
  accessFlags := 49
  interfaces := #[]
  cf := some (fileOf pool1 11 #[] #[{ accessFlags := 2, nameIndex := 5, descriptorIndex := 6, attributes := #[] }, { accessFlags := 9, nameIndex := 43, descriptorIndex := 44, attributes := #[] }, { accessFlags := 10, nameIndex := 14, descriptorIndex := 15, attributes := #[] }] 49 2 #[] #[])
  fields := #[]
  methods := #[k1m0, k1m1, k1m2]
  instanceTypes := #[]
  staticTypes := #[]
  resolved := Array.replicate 50 none
  statics := none }

def pool2 : Array CpInfo := pool [(1, .class_ 2), (0, u "java/io/Serializable"), (0, .class_ 4), (0, u "java/lang/Object")] 2

/-- java/io/Serializable -/
def k2 : Class := { plain "java/io/Serializable" (some 0) with
  accessFlags := 1537
  interfaces := #[]
  cf := some (fileOf pool2 1 #[] #[] 1537 3 #[] #[])
  fields := #[]
  methods := #[]
  instanceTypes := #[]
  staticTypes := #[]
  resolved := Array.replicate 7 none
  statics := none }

def pool3 : Array CpInfo := pool [(1, .class_ 2), (0, u "java/lang/Comparable"), (0, .class_ 4), (0, u "java/lang/Object")] 7

/-- java/lang/Comparable -/
def k3 : Class := { plain "java/lang/Comparable" (some 0) with
  accessFlags := 1537
  interfaces := #[]
  cf := some (fileOf pool3 1 #[] #[] 1537 3 #[] #[])
  fields := #[]
  methods := #[]
  instanceTypes := #[]
  staticTypes := #[]
  resolved := Array.replicate 12 none
  statics := none }

def pool4 : Array CpInfo := pool [(2, .class_ 4), (1, u "java/lang/CharSequence"), (42, .class_ 48), (0, u "java/lang/CharSequence$1CodePointIterator"), (10, .class_ 60), (0, u "java/lang/CharSequence$1CharIterator"), (5, .class_ 67), (0, u "java/lang/Object")] 63

/-- java/lang/CharSequence -/
def k4 : Class := { plain "java/lang/CharSequence" (some 0) with
  accessFlags := 1537
  interfaces := #[]
  cf := some (fileOf pool4 2 #[.nestMembers #[47, 59]] #[] 1537 66 #[] #[])
  fields := #[]
  methods := #[]
  instanceTypes := #[]
  staticTypes := #[]
  resolved := Array.replicate 131 none
  statics := none }

def pool5 : Array CpInfo := pool [(1, .class_ 2), (0, u "java/lang/constant/Constable"), (0, .class_ 4), (0, u "java/lang/Object")] 6

/-- java/lang/constant/Constable -/
def k5 : Class := { plain "java/lang/constant/Constable" (some 0) with
  accessFlags := 1537
  interfaces := #[]
  cf := some (fileOf pool5 1 #[] #[] 1537 3 #[] #[])
  fields := #[]
  methods := #[]
  instanceTypes := #[]
  staticTypes := #[]
  resolved := Array.replicate 11 none
  statics := none }

def pool6 : Array CpInfo := pool [(1, .class_ 2), (0, u "java/lang/constant/ConstantDesc"), (0, .class_ 4), (0, u "java/lang/Object")] 32

/-- java/lang/constant/ConstantDesc -/
def k6 : Class := { plain "java/lang/constant/ConstantDesc" (some 0) with
  accessFlags := 1537
  interfaces := #[]
  cf := some (fileOf pool6 1 #[] #[] 1537 3 #[] #[])
  fields := #[]
  methods := #[]
  instanceTypes := #[]
  staticTypes := #[]
  resolved := Array.replicate 37 none
  statics := none }

def pool7 : Array CpInfo := pool [(1, .methodref 2 3), (0, .class_ 4), (0, .nameAndType 5 6), (0, u "java/lang/Object"), (0, u "<init>"), (0, u "()V"), (0, .string 8), (0, u ""), (0, .fieldref 10 11), (0, .class_ 12), (0, .nameAndType 13 14), (0, u "java/lang/String"), (0, u "value"), (0, u "[B"), (0, .fieldref 10 16), (0, .nameAndType 17 18), (0, u "coder"), (0, u "B"), (2, u "hash"), (0, u "I"), (2, u "hashIsZero"), (0, u "Z"), (0, .methodref 10 28), (0, .nameAndType 5 29), (0, u "([CIILjava/lang/Void;)V"), (8, .fieldref 10 39), (0, .nameAndType 40 26), (0, u "COMPACT_STRINGS"), (1, .class_ 44), (1, u "java/lang/StringUTF16"), (0, u "compress"), (1, .methodref 42 48), (0, .nameAndType 49 50), (0, u "coderFromArrayLen"), (0, u "([BI)B"), (56, .class_ 109), (1, u "java/lang/StringLatin1"), (67, .methodref 42 178), (0, .nameAndType 45 179), (0, u "([CII)[B"), (361, .methodref 107 542), (0, .nameAndType 543 544), (0, u "equals"), (0, u "([B[B)Z"), (28, u "(Ljava/lang/Object;)Z"), (1, .class_ 576), (0, u "java/lang/CharSequence"), (22, u "CASE_INSENSITIVE_ORDER"), (0, u "Ljava/util/Comparator;"), (409, u "([C)V"), (90, u "serialPersistentFields"), (0, u "[Ljava/io/ObjectStreamField;"), (0, .class_ 1104), (0, u "java/lang/String$CaseInsensitiveComparator"), (1, .class_ 1107), (0, u "java/io/Serializable"), (0, .class_ 1109), (0, u "java/lang/Comparable"), (0, .class_ 1111), (0, u "java/lang/constant/Constable"), (0, .class_ 1113), (0, u "java/lang/constant/ConstantDesc"), (2, u "serialVersionUID"), (0, u "J"), (3, u "REPL"), (0, u "C"), (2, u "LATIN1"), (1, u "UTF16")] 323

def k7m0 : Method := { name := "<init>", desc := "()V", sig := { parameters := [], returnType := none }, accessFlags := 1, code := none }
def k7c1 : Code := { maxStack := 5, maxLocals := 2, code := jdk_42_method_3_code, exceptionTable := #[], attributes := #[] }
def k7m1 : Method := { name := "<init>", desc := "([C)V", sig := { parameters := [(.array .char)], returnType := none }, accessFlags := 1, code := some k7c1 }
def k7c2 : Code := { maxStack := 2, maxLocals := 3, code := jdk_42_method_66_code, exceptionTable := #[], attributes := #[] }
def k7m2 : Method := { name := "equals", desc := "(Ljava/lang/Object;)Z", sig := { parameters := [(.object "java/lang/Object")], returnType := some .boolean }, accessFlags := 1, code := some k7c2 }
def k7c3 : Code := { maxStack := 4, maxLocals := 6, code := jdk_42_method_149_code, exceptionTable := #[], attributes := #[] }
def k7m3 : Method := { name := "<init>", desc := "([CIILjava/lang/Void;)V", sig := { parameters := [(.array .char), .int, .int, (.object "java/lang/Void")], returnType := none }, accessFlags := 2, code := some k7c3 }
/-- java/lang/String -/
def k7 : Class := { plain "java/lang/String" (some 0) with
  accessFlags := 49
  interfaces := #[2, 3, 4, 5, 6]
  cf := some (fileOf pool7 10 #[.nestMembers #[1103]] #[{ accessFlags := 1, nameIndex := 5, descriptorIndex := 6, attributes := #[] }, { accessFlags := 1, nameIndex := 5, descriptorIndex := 1010, attributes := #[] }, { accessFlags := 1, nameIndex := 543, descriptorIndex := 573, attributes := #[] }, { accessFlags := 2, nameIndex := 5, descriptorIndex := 29, attributes := #[] }] 49 2 #[1106, 1108, 575, 1110, 1112] #[{ accessFlags := 18, nameIndex := 13, descriptorIndex := 14, attributes := #[] }, { accessFlags := 18, nameIndex := 17, descriptorIndex := 18, attributes := #[] }, { accessFlags := 2, nameIndex := 21, descriptorIndex := 22, attributes := #[] }, { accessFlags := 2, nameIndex := 25, descriptorIndex := 26, attributes := #[] }, { accessFlags := 26, nameIndex := 1116, descriptorIndex := 1117, attributes := #[] }, { accessFlags := 24, nameIndex := 40, descriptorIndex := 26, attributes := #[] }, { accessFlags := 26, nameIndex := 1101, descriptorIndex := 1102, attributes := #[] }, { accessFlags := 26, nameIndex := 1121, descriptorIndex := 1122, attributes := #[] }, { accessFlags := 25, nameIndex := 599, descriptorIndex := 600, attributes := #[] }, { accessFlags := 24, nameIndex := 1125, descriptorIndex := 18, attributes := #[] }, { accessFlags := 24, nameIndex := 1127, descriptorIndex := 18, attributes := #[] }])
  fields := #[{ name := "value", type := (.array .byte), accessFlags := 18, slot := 0, constantValue := 0 }, { name := "coder", type := .byte, accessFlags := 18, slot := 1, constantValue := 0 }, { name := "hash", type := .int, accessFlags := 2, slot := 2, constantValue := 0 }, { name := "hashIsZero", type := .boolean, accessFlags := 2, slot := 3, constantValue := 0 }, { name := "serialVersionUID", type := .long, accessFlags := 26, slot := 0, constantValue := 0 }, { name := "COMPACT_STRINGS", type := .boolean, accessFlags := 24, slot := 1, constantValue := 0 }, { name := "serialPersistentFields", type := (.array (.object "java/io/ObjectStreamField")), accessFlags := 26, slot := 2, constantValue := 0 }, { name := "REPL", type := .char, accessFlags := 26, slot := 3, constantValue := 0 }, { name := "CASE_INSENSITIVE_ORDER", type := (.object "java/util/Comparator"), accessFlags := 25, slot := 4, constantValue := 0 }, { name := "LATIN1", type := .byte, accessFlags := 24, slot := 5, constantValue := 0 }, { name := "UTF16", type := .byte, accessFlags := 24, slot := 6, constantValue := 0 }]
  methods := #[k7m0, k7m1, k7m2, k7m3]
  instanceTypes := #[(.array .byte), .byte, .int, .boolean]
  staticTypes := #[.long, .boolean, (.array (.object "java/io/ObjectStreamField")), .char, (.object "java/util/Comparator"), .byte, .byte]
  resolved := Array.replicate 1451 none
  statics := some 0 }

def pool8 : Array CpInfo := pool [(2, .class_ 4), (1, u "java/lang/Enum"), (0, u "name"), (0, u "Ljava/lang/String;"), (2, u "ordinal"), (0, u "I"), (1, .class_ 14), (1, u "java/lang/Object"), (4, u "hash"), (86, .class_ 108), (1, u "java/lang/Enum$EnumDesc"), (2, .class_ 112), (0, u "java/lang/constant/Constable"), (0, .class_ 114), (0, u "java/lang/Comparable"), (0, .class_ 116), (0, u "java/io/Serializable")] 87

/-- java/lang/Enum -/
def k8 : Class := { plain "java/lang/Enum" (some 0) with
  accessFlags := 1057
  interfaces := #[5, 3, 2]
  cf := some (fileOf pool8 2 #[.nestMembers #[106]] #[] 1057 12 #[111, 113, 115] #[{ accessFlags := 18, nameIndex := 5, descriptorIndex := 6, attributes := #[] }, { accessFlags := 18, nameIndex := 9, descriptorIndex := 10, attributes := #[] }, { accessFlags := 2, nameIndex := 19, descriptorIndex := 10, attributes := #[] }])
  fields := #[{ name := "name", type := (.object "java/lang/String"), accessFlags := 18, slot := 0, constantValue := 0 }, { name := "ordinal", type := .int, accessFlags := 18, slot := 1, constantValue := 0 }, { name := "hash", type := .int, accessFlags := 2, slot := 2, constantValue := 0 }]
  methods := #[]
  instanceTypes := #[(.object "java/lang/String"), .int, .int]
  staticTypes := #[]
  resolved := Array.replicate 204 none
  statics := none }

def pool9 : Array CpInfo := pool [(1, .class_ 2), (0, u "com/example/consentry/consentry/authorization/CodeChallengeMethod"), (2, u "PLAIN"), (0, u "Lcom/example/consentry/consentry/authorization/CodeChallengeMethod;"), (2, u "S256"), (0, .fieldref 1 11), (0, .nameAndType 12 13), (0, u "$VALUES"), (0, u "[Lcom/example/consentry/consentry/authorization/CodeChallengeMethod;"), (0, .methodref 15 16), (0, .class_ 13), (0, .nameAndType 17 18), (0, u "clone"), (0, u "()Ljava/lang/Object;"), (1, .class_ 22), (1, u "java/lang/Enum"), (6, .fieldref 1 30), (0, .nameAndType 31 32), (0, u "spelling"), (0, u "Ljava/lang/String;"), (8, u "challenges"), (0, u "Ljava/util/regex/Pattern;"), (0, .methodref 1 44), (0, .nameAndType 45 46), (0, u "values"), (0, u "()[Lcom/example/consentry/consentry/authorization/CodeChallengeMethod;"), (0, .methodref 48 49), (0, .class_ 50), (0, .nameAndType 51 52), (0, u "java/lang/String"), (0, u "equals"), (0, u "(Ljava/lang/Object;)Z"), (15, u "BASE64URL"), (0, u "Ljava/util/Base64$Encoder;"), (57, u "(Ljava/lang/String;)Lcom/example/consentry/consentry/authorization/CodeChallengeMethod;"), (3, u "parse")] 12

def k9c0 : Code := { maxStack := 1, maxLocals := 0, code := prog_2_method_1_code, exceptionTable := #[], attributes := #[] }
def k9m0 : Method := { name := "values", desc := "()[Lcom/example/consentry/consentry/authorization/CodeChallengeMethod;", sig := { parameters := [], returnType := some (.array (.object "com/example/consentry/consentry/authorization/CodeChallengeMethod")) }, accessFlags := 9, code := some k9c0 }
def k9c1 : Code := { maxStack := 2, maxLocals := 5, code := prog_2_method_4_code, exceptionTable := #[], attributes := #[] }
def k9m1 : Method := { name := "parse", desc := "(Ljava/lang/String;)Lcom/example/consentry/consentry/authorization/CodeChallengeMethod;", sig := { parameters := [(.object "java/lang/String")], returnType := some (.object "com/example/consentry/consentry/authorization/CodeChallengeMethod") }, accessFlags := 8, code := some k9c1 }
/-- com/example/consentry/consentry/authorization/CodeChallengeMethod -/
def k9 : Class := { plain "com/example/consentry/consentry/authorization/CodeChallengeMethod" (some 8) with
  accessFlags := 16432
  interfaces := #[]
  cf := some (fileOf pool9 1 #[] #[{ accessFlags := 9, nameIndex := 45, descriptorIndex := 46, attributes := #[] }, { accessFlags := 8, nameIndex := 131, descriptorIndex := 127, attributes := #[] }] 16432 20 #[] #[{ accessFlags := 16409, nameIndex := 5, descriptorIndex := 6, attributes := #[] }, { accessFlags := 16409, nameIndex := 9, descriptorIndex := 6, attributes := #[] }, { accessFlags := 26, nameIndex := 68, descriptorIndex := 69, attributes := #[] }, { accessFlags := 18, nameIndex := 31, descriptorIndex := 32, attributes := #[] }, { accessFlags := 18, nameIndex := 41, descriptorIndex := 42, attributes := #[] }, { accessFlags := 4122, nameIndex := 12, descriptorIndex := 13, attributes := #[] }])
  fields := #[{ name := "PLAIN", type := (.object "com/example/consentry/consentry/authorization/CodeChallengeMethod"), accessFlags := 16409, slot := 0, constantValue := 0 }, { name := "S256", type := (.object "com/example/consentry/consentry/authorization/CodeChallengeMethod"), accessFlags := 16409, slot := 1, constantValue := 0 }, { name := "BASE64URL", type := (.object "java/util/Base64$Encoder"), accessFlags := 26, slot := 2, constantValue := 0 }, { name := "spelling", type := (.object "java/lang/String"), accessFlags := 18, slot := 3, constantValue := 0 }, { name := "challenges", type := (.object "java/util/regex/Pattern"), accessFlags := 18, slot := 4, constantValue := 0 }, { name := "$VALUES", type := (.array (.object "com/example/consentry/consentry/authorization/CodeChallengeMethod")), accessFlags := 4122, slot := 3, constantValue := 0 }]
  methods := #[k9m0, k9m1]
  instanceTypes := #[(.object "java/lang/String"), .int, .int, (.object "java/lang/String"), (.object "java/util/regex/Pattern")]
  staticTypes := #[(.object "com/example/consentry/consentry/authorization/CodeChallengeMethod"), (.object "com/example/consentry/consentry/authorization/CodeChallengeMethod"), (.object "java/util/Base64$Encoder"), (.array (.object "com/example/consentry/consentry/authorization/CodeChallengeMethod"))]
  resolved := Array.replicate 144 none
  statics := some 1 }

def pool10 : Array CpInfo := pool [(1, .class_ 2), (0, u "java/lang/Cloneable"), (0, .class_ 4), (0, u "java/lang/Object")] 2

/-- java/lang/Cloneable -/
def k10 : Class := { plain "java/lang/Cloneable" (some 0) with
  accessFlags := 1537
  interfaces := #[]
  cf := some (fileOf pool10 1 #[] #[] 1537 3 #[] #[])
  fields := #[]
  methods := #[]
  instanceTypes := #[]
  staticTypes := #[]
  resolved := Array.replicate 7 none
  statics := none }

def pool11 : Array CpInfo := pool [(4, .class_ 6), (1, u "java/lang/Object"), (0, u "<init>"), (0, u "()V"), (5, .class_ 16), (1, u "java/lang/StringLatin1"), (104, u "$assertionsDisabled"), (0, u "Z"), (98, .class_ 223), (1, u "java/lang/StringLatin1$LinesSpliterator"), (57, u "equals"), (0, u "([B[B)Z"), (107, .class_ 391), (0, u "java/lang/StringLatin1$CharsSpliterator")] 3

def k11m0 : Method := { name := "<init>", desc := "()V", sig := { parameters := [], returnType := none }, accessFlags := 0, code := none }
def k11c1 : Code := { maxStack := 3, maxLocals := 3, code := jdk_43_method_13_code, exceptionTable := #[], attributes := #[] }
def k11m1 : Method := { name := "equals", desc := "([B[B)Z", sig := { parameters := [(.array .byte), (.array .byte)], returnType := some .boolean }, accessFlags := 9, code := some k11c1 }
/-- java/lang/StringLatin1 -/
def k11 : Class := { plain "java/lang/StringLatin1" (some 0) with
  accessFlags := 48
  interfaces := #[]
  cf := some (fileOf pool11 14 #[.nestMembers #[390, 221]] #[{ accessFlags := 0, nameIndex := 7, descriptorIndex := 8, attributes := #[] }, { accessFlags := 9, nameIndex := 281, descriptorIndex := 282, attributes := #[] }] 48 4 #[] #[{ accessFlags := 4120, nameIndex := 121, descriptorIndex := 122, attributes := #[] }])
  fields := #[{ name := "$assertionsDisabled", type := .boolean, accessFlags := 4120, slot := 0, constantValue := 0 }]
  methods := #[k11m0, k11m1]
  instanceTypes := #[]
  staticTypes := #[.boolean]
  resolved := Array.replicate 395 none
  statics := none }

def pool12 : Array CpInfo := pool [(6, .class_ 8), (1, u "java/lang/Object"), (0, u "<init>"), (0, u "()V"), (1, .class_ 14), (1, u "java/lang/StringUTF16"), (31, u "$assertionsDisabled"), (0, u "Z"), (13, u "HI_BYTE_SHIFT"), (0, u "I"), (2, u "LO_BYTE_SHIFT"), (49, .methodref 12 116), (0, .nameAndType 117 118), (0, u "compress"), (0, u "([CI[BII)I"), (3, u "([CII)[B"), (138, u "coderFromArrayLen"), (0, u "([BI)B"), (106, .class_ 371), (1, u "java/lang/StringUTF16$LinesSpliterator"), (58, u "MAX_LENGTH"), (196, .class_ 628), (0, u "java/lang/StringUTF16$CodePointsSpliterator"), (0, .class_ 630), (0, u "java/lang/StringUTF16$CharsSpliterator")] 4

def k12m0 : Method := { name := "<init>", desc := "()V", sig := { parameters := [], returnType := none }, accessFlags := 0, code := none }
def k12c1 : Code := { maxStack := 2, maxLocals := 2, code := jdk_52_method_15_code, exceptionTable := #[], attributes := #[] }
def k12m1 : Method := { name := "coderFromArrayLen", desc := "([BI)B", sig := { parameters := [(.array .byte), .int], returnType := some .byte }, accessFlags := 8, code := some k12c1 }
def k12c2 : Code := { maxStack := 5, maxLocals := 6, code := jdk_52_method_16_code, exceptionTable := #[], attributes := #[] }
def k12m2 : Method := { name := "compress", desc := "([CII)[B", sig := { parameters := [(.array .char), .int, .int], returnType := some (.array .byte) }, accessFlags := 9, code := some k12c2 }
def k12c3 : Code := { maxStack := 3, maxLocals := 7, code := jdk_52_method_21_code, exceptionTable := #[], attributes := #[] }
def k12m3 : Method := { name := "compress", desc := "([CI[BII)I", sig := { parameters := [(.array .char), .int, (.array .byte), .int, .int], returnType := some .int }, accessFlags := 9, code := some k12c3 }
/-- java/lang/StringUTF16 -/
def k12 : Class := { plain "java/lang/StringUTF16" (some 0) with
  accessFlags := 48
  interfaces := #[]
  cf := some (fileOf pool12 12 #[.nestMembers #[627, 629, 369]] #[{ accessFlags := 0, nameIndex := 9, descriptorIndex := 10, attributes := #[] }, { accessFlags := 8, nameIndex := 261, descriptorIndex := 262, attributes := #[] }, { accessFlags := 9, nameIndex := 117, descriptorIndex := 122, attributes := #[] }, { accessFlags := 9, nameIndex := 117, descriptorIndex := 118, attributes := #[] }] 48 6 #[] #[{ accessFlags := 26, nameIndex := 61, descriptorIndex := 62, attributes := #[] }, { accessFlags := 26, nameIndex := 65, descriptorIndex := 62, attributes := #[] }, { accessFlags := 24, nameIndex := 430, descriptorIndex := 62, attributes := #[] }, { accessFlags := 4120, nameIndex := 46, descriptorIndex := 47, attributes := #[] }])
  fields := #[{ name := "HI_BYTE_SHIFT", type := .int, accessFlags := 26, slot := 0, constantValue := 0 }, { name := "LO_BYTE_SHIFT", type := .int, accessFlags := 26, slot := 1, constantValue := 0 }, { name := "MAX_LENGTH", type := .int, accessFlags := 24, slot := 2, constantValue := 0 }, { name := "$assertionsDisabled", type := .boolean, accessFlags := 4120, slot := 3, constantValue := 0 }]
  methods := #[k12m0, k12m1, k12m2, k12m3]
  instanceTypes := #[]
  staticTypes := #[.int, .int, .int, .boolean]
  resolved := Array.replicate 635 none
  statics := none }

def pool13 : Array CpInfo := pool [(2, .class_ 4), (1, u "java/lang/Object"), (0, u "<init>"), (0, u "()V"), (17, .class_ 26), (1, u "jdk/internal/util/Preconditions"), (28, .class_ 56), (0, u "jdk/internal/util/Preconditions$4"), (57, .class_ 115), (0, u "jdk/internal/util/Preconditions$1"), (7, u "SIOOBE_FORMATTER"), (0, u "Ljava/util/function/BiFunction;"), (0, .class_ 126), (0, u "jdk/internal/util/Preconditions$2"), (3, u "AIOOBE_FORMATTER"), (0, .class_ 132), (0, u "jdk/internal/util/Preconditions$3"), (3, u "IOOBE_FORMATTER")] 57

def k13m0 : Method := { name := "<init>", desc := "()V", sig := { parameters := [], returnType := none }, accessFlags := 1, code := none }
/-- jdk/internal/util/Preconditions -/
def k13 : Class := { plain "jdk/internal/util/Preconditions" (some 0) with
  accessFlags := 33
  interfaces := #[]
  cf := some (fileOf pool13 24 #[.nestMembers #[55, 131, 125, 114]] #[{ accessFlags := 1, nameIndex := 5, descriptorIndex := 6, attributes := #[] }] 33 2 #[] #[{ accessFlags := 25, nameIndex := 123, descriptorIndex := 124, attributes := #[] }, { accessFlags := 25, nameIndex := 130, descriptorIndex := 124, attributes := #[] }, { accessFlags := 25, nameIndex := 136, descriptorIndex := 124, attributes := #[] }])
  fields := #[{ name := "SIOOBE_FORMATTER", type := (.object "java/util/function/BiFunction"), accessFlags := 25, slot := 0, constantValue := 0 }, { name := "AIOOBE_FORMATTER", type := (.object "java/util/function/BiFunction"), accessFlags := 25, slot := 1, constantValue := 0 }, { name := "IOOBE_FORMATTER", type := (.object "java/util/function/BiFunction"), accessFlags := 25, slot := 2, constantValue := 0 }]
  methods := #[k13m0]
  instanceTypes := #[]
  staticTypes := #[(.object "java/util/function/BiFunction"), (.object "java/util/function/BiFunction"), (.object "java/util/function/BiFunction")]
  resolved := Array.replicate 194 none
  statics := some 2 }

def pool14 : Array CpInfo := pool [(9, u "<init>"), (6, .class_ 18), (1, u "java/lang/Object"), (0, u "()V"), (1, .class_ 23), (1, u "jdk/internal/util/ArraysSupport"), (0, u "LOG2_ARRAY_LONG_INDEX_SCALE"), (0, u "I"), (2, u "U"), (0, u "Ljdk/internal/misc/Unsafe;"), (8, u "BIG_ENDIAN"), (0, u "Z"), (8, u "LOG2_BYTE_BIT_SIZE"), (4, u "LOG2_ARRAY_INT_INDEX_SCALE"), (54, u "JLA"), (0, u "Ljdk/internal/access/JavaLangAccess;"), (11, u "LOG2_ARRAY_BOOLEAN_INDEX_SCALE"), (9, u "LOG2_ARRAY_BYTE_INDEX_SCALE"), (5, u "LOG2_ARRAY_CHAR_INDEX_SCALE"), (5, u "LOG2_ARRAY_SHORT_INDEX_SCALE"), (18, u "LOG2_ARRAY_FLOAT_INDEX_SCALE"), (24, u "LOG2_ARRAY_DOUBLE_INDEX_SCALE"), (89, u "T_BOOLEAN"), (2, u "T_CHAR"), (1, u "T_FLOAT"), (1, u "T_DOUBLE"), (1, u "T_BYTE"), (1, u "T_SHORT"), (1, u "T_INT"), (1, u "T_LONG"), (1, u "SOFT_MAX_ARRAY_LENGTH")] 83

def k14m0 : Method := { name := "<init>", desc := "()V", sig := { parameters := [], returnType := none }, accessFlags := 2, code := none }
/-- jdk/internal/util/ArraysSupport -/
def k14 : Class := { plain "jdk/internal/util/ArraysSupport" (some 0) with
  accessFlags := 33
  interfaces := #[]
  cf := some (fileOf pool14 21 #[] #[{ accessFlags := 2, nameIndex := 9, descriptorIndex := 19, attributes := #[] }] 33 16 #[] #[{ accessFlags := 24, nameIndex := 28, descriptorIndex := 29, attributes := #[] }, { accessFlags := 26, nameIndex := 38, descriptorIndex := 39, attributes := #[] }, { accessFlags := 25, nameIndex := 121, descriptorIndex := 25, attributes := #[] }, { accessFlags := 25, nameIndex := 131, descriptorIndex := 25, attributes := #[] }, { accessFlags := 25, nameIndex := 137, descriptorIndex := 25, attributes := #[] }, { accessFlags := 25, nameIndex := 143, descriptorIndex := 25, attributes := #[] }, { accessFlags := 25, nameIndex := 53, descriptorIndex := 25, attributes := #[] }, { accessFlags := 25, nameIndex := 24, descriptorIndex := 25, attributes := #[] }, { accessFlags := 25, nameIndex := 162, descriptorIndex := 25, attributes := #[] }, { accessFlags := 25, nameIndex := 187, descriptorIndex := 25, attributes := #[] }, { accessFlags := 26, nameIndex := 48, descriptorIndex := 25, attributes := #[] }, { accessFlags := 25, nameIndex := 277, descriptorIndex := 25, attributes := #[] }, { accessFlags := 25, nameIndex := 280, descriptorIndex := 25, attributes := #[] }, { accessFlags := 25, nameIndex := 282, descriptorIndex := 25, attributes := #[] }, { accessFlags := 25, nameIndex := 284, descriptorIndex := 25, attributes := #[] }, { accessFlags := 25, nameIndex := 286, descriptorIndex := 25, attributes := #[] }, { accessFlags := 25, nameIndex := 288, descriptorIndex := 25, attributes := #[] }, { accessFlags := 25, nameIndex := 290, descriptorIndex := 25, attributes := #[] }, { accessFlags := 25, nameIndex := 292, descriptorIndex := 25, attributes := #[] }, { accessFlags := 26, nameIndex := 108, descriptorIndex := 109, attributes := #[] }, { accessFlags := 25, nameIndex := 294, descriptorIndex := 25, attributes := #[] }])
  fields := #[{ name := "U", type := (.object "jdk/internal/misc/Unsafe"), accessFlags := 24, slot := 0, constantValue := 0 }, { name := "BIG_ENDIAN", type := .boolean, accessFlags := 26, slot := 1, constantValue := 0 }, { name := "LOG2_ARRAY_BOOLEAN_INDEX_SCALE", type := .int, accessFlags := 25, slot := 2, constantValue := 0 }, { name := "LOG2_ARRAY_BYTE_INDEX_SCALE", type := .int, accessFlags := 25, slot := 3, constantValue := 0 }, { name := "LOG2_ARRAY_CHAR_INDEX_SCALE", type := .int, accessFlags := 25, slot := 4, constantValue := 0 }, { name := "LOG2_ARRAY_SHORT_INDEX_SCALE", type := .int, accessFlags := 25, slot := 5, constantValue := 0 }, { name := "LOG2_ARRAY_INT_INDEX_SCALE", type := .int, accessFlags := 25, slot := 6, constantValue := 0 }, { name := "LOG2_ARRAY_LONG_INDEX_SCALE", type := .int, accessFlags := 25, slot := 7, constantValue := 0 }, { name := "LOG2_ARRAY_FLOAT_INDEX_SCALE", type := .int, accessFlags := 25, slot := 8, constantValue := 0 }, { name := "LOG2_ARRAY_DOUBLE_INDEX_SCALE", type := .int, accessFlags := 25, slot := 9, constantValue := 0 }, { name := "LOG2_BYTE_BIT_SIZE", type := .int, accessFlags := 26, slot := 10, constantValue := 0 }, { name := "T_BOOLEAN", type := .int, accessFlags := 25, slot := 11, constantValue := 0 }, { name := "T_CHAR", type := .int, accessFlags := 25, slot := 12, constantValue := 0 }, { name := "T_FLOAT", type := .int, accessFlags := 25, slot := 13, constantValue := 0 }, { name := "T_DOUBLE", type := .int, accessFlags := 25, slot := 14, constantValue := 0 }, { name := "T_BYTE", type := .int, accessFlags := 25, slot := 15, constantValue := 0 }, { name := "T_SHORT", type := .int, accessFlags := 25, slot := 16, constantValue := 0 }, { name := "T_INT", type := .int, accessFlags := 25, slot := 17, constantValue := 0 }, { name := "T_LONG", type := .int, accessFlags := 25, slot := 18, constantValue := 0 }, { name := "JLA", type := (.object "jdk/internal/access/JavaLangAccess"), accessFlags := 26, slot := 19, constantValue := 0 }, { name := "SOFT_MAX_ARRAY_LENGTH", type := .int, accessFlags := 25, slot := 20, constantValue := 0 }]
  methods := #[k14m0]
  instanceTypes := #[]
  staticTypes := #[(.object "jdk/internal/misc/Unsafe"), .boolean, .int, .int, .int, .int, .int, .int, .int, .int, .int, .int, .int, .int, .int, .int, .int, .int, .int, (.object "jdk/internal/access/JavaLangAccess"), .int]
  resolved := Array.replicate 378 none
  statics := none }

/-- the primitive byte -/
def k15 : Class := { plain "byte" none with kind := .primitive 'B', accessFlags := 0x411 }
/-- [B -/
def k16 : Class := { plain "[B" (some 0) with kind := .array 15 .byte, interfaces := #[10, 2], accessFlags := 1041 }

/-- the primitive char -/
def k17 : Class := { plain "char" none with kind := .primitive 'C', accessFlags := 0x411 }
/-- [C -/
def k18 : Class := { plain "[C" (some 0) with kind := .array 17 .char, interfaces := #[10, 2], accessFlags := 1041 }

/-- the primitive int -/
def k19 : Class := { plain "int" none with kind := .primitive 'I', accessFlags := 0x411 }
/-- [I -/
def k20 : Class := { plain "[I" (some 0) with kind := .array 19 .int, interfaces := #[10, 2], accessFlags := 1041 }

/-- [Lcom/example/consentry/consentry/authorization/CodeChallengeMethod; -/
def k21 : Class := { plain "[Lcom/example/consentry/consentry/authorization/CodeChallengeMethod;" (some 0) with kind := .array 9 (.object "com/example/consentry/consentry/authorization/CodeChallengeMethod"), interfaces := #[10, 2], accessFlags := 1041 }

def heap : Heap := #[{ cls := 7, slots := #[.long 0, .int 1, .null, .int 0, .null, .int 0, .int 0], vm := .statics 7 },
  { cls := 9, slots := #[.ref 4, .ref 5, .null, .ref 3], vm := .statics 9 },
  { cls := 13, slots := #[.null, .null, .null], vm := .statics 13 },
  { cls := 21, slots := #[.ref 4, .ref 5], vm := .none },
  { cls := 9, slots := #[.null, .int 0, .int 0, .ref 6, .null], vm := .none },
  { cls := 9, slots := #[.null, .int 1, .int 0, .ref 7, .null], vm := .none },
  { cls := 7, slots := #[.ref 8, .int 0, .int 0, .int 0], vm := .none },
  { cls := 7, slots := #[.ref 9, .int 0, .int 0, .int 0], vm := .none },
  { cls := 16, slots := #[.int 112, .int 108, .int 97, .int 105, .int 110], vm := .none },
  { cls := 16, slots := #[.int 83, .int 50, .int 53, .int 54], vm := .none }]
def classes : Array Class := #[k0, k1, k2, k3, k4, k5, k6, k7, k8, k9, k10, k11, k12, k13, k14, k15, k16, k17, k18, k19, k20, k21]
def interned : List (Array UInt16 × Addr) := []
def slotsUsed : Nat := 43
def theMethod : MethodId := ⟨1, 1⟩
def args0 : Array Value := #[.int 5, .int 6, .int 7, .long 8, .int 9]
def aboutOver (below : List Frame) : State where
  vm := { classes := classes, interned := interned.toArray }
  heap := heap
  slotsUsed := slotsUsed
  threads := #[{ frames := .invoking theMethod args0 :: below }]
def below0 : List Frame := [.native { method := ⟨0, 0⟩, args := #[] }]
def about1 : State := aboutOver below0
def p0 : Program := .bare "" "" ""
def e0 : Env := launch0.env 0 0 0
theorem w_frames : about1.frames = Frame.invoking theMethod args0 :: below0 := rfl
set_option maxRecDepth 65536 in
theorem w_args : argsFit about1.vm theMethod args0 = true := by decide +kernel
set_option maxRecDepth 65536 in
theorem w_heap : heapFits about1 = true := by decide +kernel
set_option maxRecDepth 65536 in
theorem w_runnable : about1.curStatus? = some .runnable := by decide +kernel
set_option maxRecDepth 65536 in
theorem w_alone : about1.alone = true := by decide +kernel
set_option maxRecDepth 65536 in
theorem w_named : about1.methodNamed? x = some theMethod := by decide +kernel
set_option maxRecDepth 65536 in
theorem w_hears : about1.hears theMethod below0 = true := by decide +kernel
set_option maxRecDepth 65536 in
theorem w_ripe : about1.ripe theMethod args0 below0 = true := by decide +kernel
theorem w_running : about1.status = .running := rfl
set_option maxRecDepth 65536 in
theorem w_room : about1.hasRoom e0.platform room_1 = true :=
  launch0.hasRoom_least _ room_1 (by decide +kernel) (by decide +kernel) (by decide +kernel) (by decide +kernel) (by decide +kernel) (by decide +kernel)
theorem allAtoms_all (ts : List Jvm.Cond) (a : Array Jvm.Value) (st : Jvm.State) : (allAtoms ts).before a st = ts.all (fun c => c.before a st) := by
  induction ts with
  | nil => rfl
  | cons c t ih =>
    show (Jvm.Cond.and c (allAtoms t)).before a st = _
    rw [Jvm.Cond.before_and, ih, List.all_cons]
def words1 : List Jvm.Cond := Jvm.Cond.code x code maxLocals ret :: tables_1
/-- a 'code' word, met by the world's own term for the bytes: nothing is compared byte by byte -/
theorem code_word {y : MethodName} {bytes : ByteArray} {mx : Nat} {rt : Option FieldType} {a : Array Value} {s : State} {m : MethodId} {meth : Method} {c : Code} (h1 : s.methodNamed? y = some m) (h2 : s.vm.method? m = some meth) (h3 : meth.code = some c) (h4 : c.code = bytes)
    (h5 : (c.maxLocals == mx && c.exceptionTable.isEmpty && decide (c.maxStack ≤ mostOperands) && decide (meth.sig.returnType = rt) && !meth.locks && decide (parseMethodDescriptor y.desc = some meth.sig)) = true) : (Jvm.Cond.code y bytes mx rt).before a s = true := by
  simp only [Bool.and_eq_true, beq_iff_eq, Bool.not_eq_true', decide_eq_true_eq] at h5
  obtain ⟨⟨⟨⟨⟨g1, g2⟩, g3⟩, g4⟩, g5⟩, g6⟩ := h5
  simp [Cond.before, Cond.holds, Cond.value, h1, h2, h3, h4, g1, g2, g3, g4, g5, g6]
def isCode : Jvm.Cond → Bool
  | .code _ _ _ _ => true
  | _ => false
theorem all_split {L : List Jvm.Cond} {P : Jvm.Cond → Bool} (h1 : L.all (fun c => isCode c || P c) = true) (h2 : ∀ c ∈ L.filter isCode, P c = true) : L.all P = true := by
  refine List.all_eq_true.mpr fun c hc => ?_
  have h := List.all_eq_true.mp h1 c hc
  rcases Bool.eq_false_or_eq_true (isCode c) with hi | hi
  · exact h2 c (List.mem_filter.mpr ⟨hc, hi⟩)
  · simpa [hi] using h
set_option maxRecDepth 65536 in
theorem w_c0 : (Jvm.Cond.code x code maxLocals ret).before args0 about1 = true := code_word (m := ⟨1, 1⟩) (meth := k1m1) (c := k1c1) (by decide +kernel) rfl rfl rfl (by decide +kernel)
set_option maxRecDepth 65536 in
theorem w_c1 : (Jvm.Cond.code ({ cls := "com/example/consentry/consentry/authorization/CodeChallengeMethodParsePinLaw", name := "make", desc := "([CI)Ljava/lang/String;" } : Jvm.MethodName) method_3_code (2 : Nat) (Option.some (Jvm.ClassFile.FieldType.object "java/lang/String"))).before args0 about1 = true := code_word (m := ⟨1, 2⟩) (meth := k1m2) (c := k1c2) (by decide +kernel) rfl rfl rfl (by decide +kernel)
set_option maxRecDepth 65536 in
theorem w_c2 : (Jvm.Cond.code ({ cls := "java/lang/String", name := "<init>", desc := "([C)V" } : Jvm.MethodName) jdk_42_method_3_code (2 : Nat) (Option.none : Option Jvm.ClassFile.FieldType)).before args0 about1 = true := code_word (m := ⟨7, 1⟩) (meth := k7m1) (c := k7c1) (by decide +kernel) rfl rfl rfl (by decide +kernel)
set_option maxRecDepth 65536 in
theorem w_c3 : (Jvm.Cond.code ({ cls := "java/lang/String", name := "<init>", desc := "([CIILjava/lang/Void;)V" } : Jvm.MethodName) jdk_42_method_149_code (6 : Nat) (Option.none : Option Jvm.ClassFile.FieldType)).before args0 about1 = true := code_word (m := ⟨7, 3⟩) (meth := k7m3) (c := k7c3) (by decide +kernel) rfl rfl rfl (by decide +kernel)
set_option maxRecDepth 65536 in
theorem w_c4 : (Jvm.Cond.code ({ cls := "java/lang/Object", name := "<init>", desc := "()V" } : Jvm.MethodName) object_method_1_code (1 : Nat) (Option.none : Option Jvm.ClassFile.FieldType)).before args0 about1 = true := code_word (m := ⟨0, 0⟩) (meth := k0m0) (c := k0c0) (by decide +kernel) rfl rfl rfl (by decide +kernel)
set_option maxRecDepth 65536 in
theorem w_c5 : (Jvm.Cond.code ({ cls := "com/example/consentry/consentry/authorization/CodeChallengeMethod", name := "parse", desc := "(Ljava/lang/String;)Lcom/example/consentry/consentry/authorization/CodeChallengeMethod;" } : Jvm.MethodName) prog_2_method_4_code (5 : Nat) (Option.some (Jvm.ClassFile.FieldType.object "com/example/consentry/consentry/authorization/CodeChallengeMethod"))).before args0 about1 = true := code_word (m := ⟨9, 1⟩) (meth := k9m1) (c := k9c1) (by decide +kernel) rfl rfl rfl (by decide +kernel)
set_option maxRecDepth 65536 in
theorem w_c6 : (Jvm.Cond.code ({ cls := "com/example/consentry/consentry/authorization/CodeChallengeMethod", name := "values", desc := "()[Lcom/example/consentry/consentry/authorization/CodeChallengeMethod;" } : Jvm.MethodName) prog_2_method_1_code (0 : Nat) (Option.some (Jvm.ClassFile.FieldType.array (Jvm.ClassFile.FieldType.object "com/example/consentry/consentry/authorization/CodeChallengeMethod")))).before args0 about1 = true := code_word (m := ⟨9, 0⟩) (meth := k9m0) (c := k9c0) (by decide +kernel) rfl rfl rfl (by decide +kernel)
set_option maxRecDepth 65536 in
theorem w_c7 : (Jvm.Cond.code ({ cls := "java/lang/String", name := "equals", desc := "(Ljava/lang/Object;)Z" } : Jvm.MethodName) jdk_42_method_66_code (3 : Nat) (Option.some Jvm.ClassFile.FieldType.boolean)).before args0 about1 = true := code_word (m := ⟨7, 2⟩) (meth := k7m2) (c := k7c2) (by decide +kernel) rfl rfl rfl (by decide +kernel)
set_option maxRecDepth 65536 in
theorem w_c8 : (Jvm.Cond.code ({ cls := "java/lang/StringLatin1", name := "equals", desc := "([B[B)Z" } : Jvm.MethodName) jdk_43_method_13_code (3 : Nat) (Option.some Jvm.ClassFile.FieldType.boolean)).before args0 about1 = true := code_word (m := ⟨11, 1⟩) (meth := k11m1) (c := k11c1) (by decide +kernel) rfl rfl rfl (by decide +kernel)
set_option maxRecDepth 65536 in
theorem w_c9 : (Jvm.Cond.code ({ cls := "java/lang/StringUTF16", name := "compress", desc := "([CII)[B" } : Jvm.MethodName) jdk_52_method_16_code (6 : Nat) (Option.some (Jvm.ClassFile.FieldType.array Jvm.ClassFile.FieldType.byte))).before args0 about1 = true := code_word (m := ⟨12, 2⟩) (meth := k12m2) (c := k12c2) (by decide +kernel) rfl rfl rfl (by decide +kernel)
set_option maxRecDepth 65536 in
theorem w_c10 : (Jvm.Cond.code ({ cls := "java/lang/StringUTF16", name := "compress", desc := "([CI[BII)I" } : Jvm.MethodName) jdk_52_method_21_code (7 : Nat) (Option.some Jvm.ClassFile.FieldType.int)).before args0 about1 = true := code_word (m := ⟨12, 3⟩) (meth := k12m3) (c := k12c3) (by decide +kernel) rfl rfl rfl (by decide +kernel)
set_option maxRecDepth 65536 in
theorem w_c11 : (Jvm.Cond.code ({ cls := "java/lang/StringUTF16", name := "coderFromArrayLen", desc := "([BI)B" } : Jvm.MethodName) jdk_52_method_15_code (2 : Nat) (Option.some Jvm.ClassFile.FieldType.byte)).before args0 about1 = true := code_word (m := ⟨12, 1⟩) (meth := k12m1) (c := k12c1) (by decide +kernel) rfl rfl rfl (by decide +kernel)
def codes1 : List Jvm.Cond := [Jvm.Cond.code x code maxLocals ret, Jvm.Cond.code ({ cls := "com/example/consentry/consentry/authorization/CodeChallengeMethodParsePinLaw", name := "make", desc := "([CI)Ljava/lang/String;" } : Jvm.MethodName) method_3_code (2 : Nat) (Option.some (Jvm.ClassFile.FieldType.object "java/lang/String")), Jvm.Cond.code ({ cls := "java/lang/String", name := "<init>", desc := "([C)V" } : Jvm.MethodName) jdk_42_method_3_code (2 : Nat) (Option.none : Option Jvm.ClassFile.FieldType), Jvm.Cond.code ({ cls := "java/lang/String", name := "<init>", desc := "([CIILjava/lang/Void;)V" } : Jvm.MethodName) jdk_42_method_149_code (6 : Nat) (Option.none : Option Jvm.ClassFile.FieldType), Jvm.Cond.code ({ cls := "java/lang/Object", name := "<init>", desc := "()V" } : Jvm.MethodName) object_method_1_code (1 : Nat) (Option.none : Option Jvm.ClassFile.FieldType), Jvm.Cond.code ({ cls := "com/example/consentry/consentry/authorization/CodeChallengeMethod", name := "parse", desc := "(Ljava/lang/String;)Lcom/example/consentry/consentry/authorization/CodeChallengeMethod;" } : Jvm.MethodName) prog_2_method_4_code (5 : Nat) (Option.some (Jvm.ClassFile.FieldType.object "com/example/consentry/consentry/authorization/CodeChallengeMethod")), Jvm.Cond.code ({ cls := "com/example/consentry/consentry/authorization/CodeChallengeMethod", name := "values", desc := "()[Lcom/example/consentry/consentry/authorization/CodeChallengeMethod;" } : Jvm.MethodName) prog_2_method_1_code (0 : Nat) (Option.some (Jvm.ClassFile.FieldType.array (Jvm.ClassFile.FieldType.object "com/example/consentry/consentry/authorization/CodeChallengeMethod"))), Jvm.Cond.code ({ cls := "java/lang/String", name := "equals", desc := "(Ljava/lang/Object;)Z" } : Jvm.MethodName) jdk_42_method_66_code (3 : Nat) (Option.some Jvm.ClassFile.FieldType.boolean), Jvm.Cond.code ({ cls := "java/lang/StringLatin1", name := "equals", desc := "([B[B)Z" } : Jvm.MethodName) jdk_43_method_13_code (3 : Nat) (Option.some Jvm.ClassFile.FieldType.boolean), Jvm.Cond.code ({ cls := "java/lang/StringUTF16", name := "compress", desc := "([CII)[B" } : Jvm.MethodName) jdk_52_method_16_code (6 : Nat) (Option.some (Jvm.ClassFile.FieldType.array Jvm.ClassFile.FieldType.byte)), Jvm.Cond.code ({ cls := "java/lang/StringUTF16", name := "compress", desc := "([CI[BII)I" } : Jvm.MethodName) jdk_52_method_21_code (7 : Nat) (Option.some Jvm.ClassFile.FieldType.int), Jvm.Cond.code ({ cls := "java/lang/StringUTF16", name := "coderFromArrayLen", desc := "([BI)B" } : Jvm.MethodName) jdk_52_method_15_code (2 : Nat) (Option.some Jvm.ClassFile.FieldType.byte)]
set_option maxRecDepth 65536 in
theorem codes_eq : words1.filter isCode = codes1 := rfl
theorem w_codes : ∀ c ∈ words1.filter isCode, c.before args0 about1 = true := by
  rw [codes_eq]
  intro c hc
  simp only [codes1, List.mem_cons, List.not_mem_nil, or_false] at hc
  rcases hc with rfl | rfl | rfl | rfl | rfl | rfl | rfl | rfl | rfl | rfl | rfl | rfl
  · exact w_c0
  · exact w_c1
  · exact w_c2
  · exact w_c3
  · exact w_c4
  · exact w_c5
  · exact w_c6
  · exact w_c7
  · exact w_c8
  · exact w_c9
  · exact w_c10
  · exact w_c11
set_option maxRecDepth 65536 in
theorem w_t1 : (words1.take 24).all (fun c => isCode c || c.before args0 about1) = true := by decide +kernel
set_option maxRecDepth 65536 in
theorem w_t2 : ((words1.drop 24).take 24).all (fun c => isCode c || c.before args0 about1) = true := by decide +kernel
set_option maxRecDepth 65536 in
theorem w_t3 : (((words1.drop 24).drop 24).take 24).all (fun c => isCode c || c.before args0 about1) = true := by decide +kernel
set_option maxRecDepth 65536 in
theorem w_t4 : (((words1.drop 24).drop 24).drop 24).all (fun c => isCode c || c.before args0 about1) = true := by decide +kernel
theorem w_tables : (allAtoms (Jvm.Cond.code x code maxLocals ret :: tables_1)).before args0 about1 = true := by
  rw [allAtoms_all]
  show words1.all (fun c => c.before args0 about1) = true
  refine all_split ?_ w_codes
  rw [← List.take_append_drop 24 words1, List.all_append, w_t1, ← List.take_append_drop 24 (words1.drop 24), List.all_append, w_t2, ← List.take_append_drop 24 ((words1.drop 24).drop 24), List.all_append, w_t3, w_t4]
  rfl
set_option maxRecDepth 65536 in
theorem w_rest : rest_1_c.before args0 about1 = true := by decide +kernel
set_option maxRecDepth 65536 in
theorem w_case : (Jvm.Cond.and given_1 narrow_1).before args0 about1 = true := by decide +kernel
set_option maxRecDepth 65536 in
theorem w_consts : constsHeld consts_1 about1 := Jvm.Lit.constsHeldB_iff.mp (by decide +kernel)
theorem w_applies : (headSpec (Jvm.Cond.code x code maxLocals ret :: tables_1) room_1).applies x e0.platform about1 = true :=
  (Spec.applies_iff w_frames).mpr ⟨w_running, w_runnable, w_alone, w_named, w_hears, w_ripe, w_room, w_tables⟩
theorem atStart : AtStart classFile x code maxLocals ret World_1 tables_1 room_1 Calls_1 rest_1 Pre_1 launch0 p0 e0 about1 theMethod args0 below0 :=
  ⟨lists_1, trivial, launch0.admits_env _ _ _, launch0.least_env, fairChoices_fair.cas, fairChoices_fair.clock, w_frames, w_args, w_heap, w_applies, ⟨w_consts, trivial⟩, w_rest, w_case⟩
end start1
theorem witness_1 : WitnessClaimed_1 := ⟨start1.p0, start1.e0, start1.about1, start1.theMethod, start1.args0, start1.below0, start1.atStart⟩
end Jvm.Pilot.@@N@@
