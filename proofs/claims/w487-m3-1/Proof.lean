import JvmDerived
import JvmDerived.Pilot.@@N@@Statement
import JvmDerived.Pilot.@@N@@Code
set_option linter.unusedVariables false
set_option linter.unusedSimpArgs false
namespace Jvm.RoadKit
open Sem ClassFile Op Lib Jvm.Stand Jvm.Free Jvm.LawKit
/-- what a walk knows of the method that it walks -/
def Own (Z : State) (y : MethodName) (bytes : ByteArray) (maxL : Nat) (ret : Option FieldType) (p : Program) (s : State) (m : MethodId) (meth : Method) (c : Code) : Prop :=
  p.tables.exec = Jvm.exec ∧ c.code = bytes ∧ c.maxLocals = maxL ∧ s.vm.findClass y.cls = some m.cls ∧ meth.name = y.name ∧ Z.Warmed39 s.vm ∧ meth.sig.returnType = ret ∧ meth.locks = false
/-- n: nothing is interned; w: strings may have been interned since; h: so too, and P is known of the tables at the start, E of those at the end; hp the heap at the start; nE what the end's written places lie above -/
def Wd : Type := Bool ⊕ {x : (Vm → Prop) × (Vm → Prop) × Heap × Nat // ∀ a b : Vm, b.interned = a.interned → x.1 a → x.2.1 b}
def Wd.n : Wd := Sum.inl false
def Wd.w : Wd := Sum.inl true
def Wd.h (P E : Vm → Prop) (hPE : ∀ a b : Vm, b.interned = a.interned → P a → E b) (hp : Heap) (nE : Nat) : Wd := Sum.inr ⟨(P, E, hp, nE), hPE⟩
def Wd.bound (wd : Wd) (n0 : Nat) : Nat := match wd with
  | .inl _ => n0
  | .inr x => min x.1.2.2.2 n0
theorem Wd.bound_le (wd : Wd) (n0 : Nat) : wd.bound n0 ≤ n0 := by
  rcases wd with b | x
  · exact Nat.le_refl _
  · exact Nat.min_le_right _ _
def GoRel (wd : Wd) (s0 s : State) (k : Nat) : Prop := match wd with
  | .inl false => s0 = s
  | .inl true => ∃ (vm0 : Vm) (k0 : Nat), s = s0.setVm vm0 ∧ s0.Since vm0 k0 ∧ k0 ≤ k
  | .inr x => (∃ (vm0 : Vm) (k0 : Nat), s = s0.setVm vm0 ∧ s0.Since vm0 k0 ∧ k0 ≤ k) ∧ x.1.1 s.vm ∧ s.heap = x.1.2.2.1
/-- the frame of the end -/
def GoEnd (wd : Wd) (s0 : State) (o : Outcome) (t : State) (L : List Loc) (K N : Nat) : Prop := match wd with
  | .inl false => FrameEnd s0 o t L K N
  | .inl true => ReturnedEndW s0 o t L K N
  | .inr x => ReturnedEndW s0 o t L K N ∧ x.1.2.1 t.vm
theorem GoRel.mono {wd : Wd} {s0 s : State} {k k' : Nat} (h : GoRel wd s0 s k) (q : k ≤ k') : GoRel wd s0 s k' := by
  rcases wd with (_ | _) | x
  · exact h
  · obtain ⟨vm0, k0, h1, h2, h3⟩ := h; exact ⟨vm0, k0, h1, h2, Nat.le_trans h3 q⟩
  · obtain ⟨⟨vm0, k0, h1, h2, h3⟩, h4⟩ := h; exact ⟨⟨vm0, k0, h1, h2, Nat.le_trans h3 q⟩, h4⟩
def Plain (wd : Wd) : Prop := (∀ (s : State) (k : Nat), GoRel wd s s k) ∧ ∀ n0, wd.bound n0 = n0
theorem plain_n : Plain .n := ⟨fun _ _ => rfl, fun _ => rfl⟩
theorem plain_w : Plain .w := ⟨fun s _ => ⟨s.vm, 0, rfl, (State.WarmedH.refl s).since 0, Nat.zero_le _⟩, fun _ => rfl⟩
theorem GoEnd.grow {wd : Wd} {s0 t : State} {o : Outcome} {L : List Loc} {K N : Nat} (h : GoEnd wd s0 o t L K N) : s0.heap.size ≤ t.heap.size := by
  rcases wd with (_ | _) | x
  · exact h.2.2.2.1
  · exact h.2.2.2.2.1
  · exact h.1.2.2.2.2.1
theorem GoRel.ended {wd : Wd} {s0 s : State} {v : Option Value} {U : State} {locs : List Loc} {c k c' k' : Nat} (h : GoRel wd s0 s U.heap.size) (hW : s.WarmedH U.vm) (hs : s.sameButNew ({ U with vm := s.vm } : State) locs c k) (hc : c ≤ c') (hk : k ≤ k') : GoEnd wd s0 (.returned v) U locs c' k' := by
  rcases wd with (_ | _) | x
  · obtain rfl : s0 = s := h
    exact ⟨⟨_, rfl⟩, hW, hs.mono hc hk⟩
  · obtain ⟨vm0, k0, rfl, h2, h3⟩ := h
    obtain ⟨q1, q2, q3⟩ := h2.ended hW h3 hs
    exact ⟨⟨_, rfl⟩, q1, q2, q3.mono hc hk⟩
  · obtain ⟨⟨vm0, k0, rfl, h2, h3⟩, hP, -⟩ := h
    obtain ⟨q1, q2, q3⟩ := h2.ended hW h3 hs
    exact ⟨⟨⟨_, rfl⟩, q1, q2, q3.mono hc hk⟩, x.2 _ _ hW.interned_eq hP⟩
/-- from pc, Ls, st over the heap h (so many cells and slots made so far) the walk comes to its end, and Q holds of what it returns and of the heap there; what it wrote lies at or above n0 -/
def Go (wd : Wd) (l : Launch) (R : Room) (Z : State) (y : MethodName) (bytes : ByteArray) (maxL : Nat) (ret : Option FieldType) (n0 K N : Nat) (Q : Option Value → Heap → Prop) (h : Heap) (cells slots pc : Nat) (Ls : Array Slot) (st : List Value) : Prop :=
  ∀ (p : Program) (e : Env) (s0 s : State) (m : MethodId) (args : Array Value) (below : List Frame) (meth : Method) (c : Code) (T : State) (locs : List Loc),
    GoRel wd s0 s h.size → Own Z y bytes maxL ret p s m meth c → Stand p l e R s m args below meth c T locs cells slots → T.heap = h → Fr n0 locs →
    ∃ s₂ o, Steps p.tables e below (T.setTop (mkF m pc Ls st)) s₂ ∧ s₂.status = .running ∧ Ended s₂ below o ∧ ∃ v L, o = .returned v ∧ (Q v s₂.heap ∧ Fr (wd.bound n0) L) ∧ GoEnd wd s0 o s₂ L K N
section GoLaws
variable {wd : Wd} {l : Launch} {R : Room} {Z : State} {y : MethodName} {bytes : ByteArray} {maxL : Nat} {ret : Option FieldType} {n0 K N : Nat} {Q : Option Value → Heap → Prop} {h : Heap} {cells slots pc pc' : Nat} {Ls Ls' : Array Slot} {st st' : List Value} {a0 : Array Value}
theorem Go.of (k : Go wd l R Z y bytes maxL ret n0 K N Q h cells slots pc' Ls' st')
    (q : ∀ (p : Program) (e : Env) (s : State) (m : MethodId) (args : Array Value) (below : List Frame) (meth : Method) (c : Code) (T : State) (locs : List Loc), Own Z y bytes maxL ret p s m meth c → Stand p l e R s m args below meth c T locs cells slots → T.heap = h →
      ∀ target, Steps p.tables e below (T.setTop (mkF m pc' Ls' st')) target → Steps p.tables e below (T.setTop (mkF m pc Ls st)) target) : Go wd l R Z y bytes maxL ret n0 K N Q h cells slots pc Ls st := by
  intro p e s0 s m args below meth c T locs hR O X eT F
  obtain ⟨s₂, o, h1, r⟩ := k p e s0 s m args below meth c T locs hR O X eT F
  exact ⟨s₂, o, q p e s m args below meth c T locs O X eT _ h1, r⟩
theorem Go.weaken {Q' : Option Value → Heap → Prop} (hQ : ∀ v h, Q' v h → Q v h) (k : Go wd l R Z y bytes maxL ret n0 K N Q' h cells slots pc Ls st) : Go wd l R Z y bytes maxL ret n0 K N Q h cells slots pc Ls st := by
  intro p e s0 s m args below meth c T locs hR O X eT F
  obtain ⟨s₂, o, h1, h2, h3, v, L, h4, h5, h6⟩ := k p e s0 s m args below meth c T locs hR O X eT F
  exact ⟨s₂, o, h1, h2, h3, v, L, h4, ⟨hQ _ _ h5.1, h5.2⟩, h6⟩
/-! plain steps -/
theorem Go.iload {k : Nat} {v : Int32} (hd : decode bytes pc = .ok (.iload k, 2)) (hl : Ls[k]? = some (.val (.int v))) (hp : pc + 2 = pc') (q : Go wd l R Z y bytes maxL ret n0 K N Q h cells slots pc' Ls (.int v :: st)) : Go wd l R Z y bytes maxL ret n0 K N Q h cells slots pc Ls st := by
  subst hp; exact Go.of q fun p e s m args below meth c T locs O X eT t hr => XS.iload X.here O.1 rfl (hb O.2.1 hd) hl hr
theorem Go.iloadN {k : Fin 4} {v : Int32} (hd : decode bytes pc = .ok (.iload_n k, 1)) (hl : Ls[k.val]? = some (.val (.int v))) (hp : pc + 1 = pc') (q : Go wd l R Z y bytes maxL ret n0 K N Q h cells slots pc' Ls (.int v :: st)) : Go wd l R Z y bytes maxL ret n0 K N Q h cells slots pc Ls st := by
  subst hp; exact Go.of q fun p e s m args below meth c T locs O X eT t hr => XS.iloadN X.here O.1 rfl (hb O.2.1 hd) hl hr
theorem Go.lload {k : Nat} {v : Int64} (hd : decode bytes pc = .ok (.lload k, 2)) (hl : Ls[k]? = some (.val (.long v))) (hp : pc + 2 = pc') (q : Go wd l R Z y bytes maxL ret n0 K N Q h cells slots pc' Ls (.long v :: st)) : Go wd l R Z y bytes maxL ret n0 K N Q h cells slots pc Ls st := by
  subst hp; exact Go.of q fun p e s m args below meth c T locs O X eT t hr => XS.lload X.here O.1 rfl (hb O.2.1 hd) hl hr
theorem Go.lloadN {k : Fin 4} {v : Int64} (hd : decode bytes pc = .ok (.lload_n k, 1)) (hl : Ls[k.val]? = some (.val (.long v))) (hp : pc + 1 = pc') (q : Go wd l R Z y bytes maxL ret n0 K N Q h cells slots pc' Ls (.long v :: st)) : Go wd l R Z y bytes maxL ret n0 K N Q h cells slots pc Ls st := by
  subst hp; exact Go.of q fun p e s m args below meth c T locs O X eT t hr => XS.lloadN X.here O.1 rfl (hb O.2.1 hd) hl hr
theorem Go.aload {k : Nat} {v : Value} (hd : decode bytes pc = .ok (.aload k, 2)) (hl : Ls[k]? = some (.val v)) (hv : v.isRef = true) (hp : pc + 2 = pc') (q : Go wd l R Z y bytes maxL ret n0 K N Q h cells slots pc' Ls (v :: st)) : Go wd l R Z y bytes maxL ret n0 K N Q h cells slots pc Ls st := by
  subst hp; exact Go.of q fun p e s m args below meth c T locs O X eT t hr => XS.aload X.here O.1 rfl (hb O.2.1 hd) hl hv hr
theorem Go.aloadN {k : Fin 4} {v : Value} (hd : decode bytes pc = .ok (.aload_n k, 1)) (hl : Ls[k.val]? = some (.val v)) (hv : v.isRef = true) (hp : pc + 1 = pc') (q : Go wd l R Z y bytes maxL ret n0 K N Q h cells slots pc' Ls (v :: st)) : Go wd l R Z y bytes maxL ret n0 K N Q h cells slots pc Ls st := by
  subst hp; exact Go.of q fun p e s m args below meth c T locs O X eT t hr => XS.aloadN X.here O.1 rfl (hb O.2.1 hd) hl hv hr
theorem Go.istore {k : Nat} {v : Int32} (hd : decode bytes pc = .ok (.istore k, 2)) (hl : storeLocals Ls k (.int v) = some Ls') (hp : pc + 2 = pc') (q : Go wd l R Z y bytes maxL ret n0 K N Q h cells slots pc' Ls' st) : Go wd l R Z y bytes maxL ret n0 K N Q h cells slots pc Ls (.int v :: st) := by
  subst hp; exact Go.of q fun p e s m args below meth c T locs O X eT t hr => XS.istore X.here O.1 rfl (hb O.2.1 hd) rfl hl hr
theorem Go.istoreN {k : Fin 4} {v : Int32} (hd : decode bytes pc = .ok (.istore_n k, 1)) (hl : storeLocals Ls k.val (.int v) = some Ls') (hp : pc + 1 = pc') (q : Go wd l R Z y bytes maxL ret n0 K N Q h cells slots pc' Ls' st) : Go wd l R Z y bytes maxL ret n0 K N Q h cells slots pc Ls (.int v :: st) := by
  subst hp; exact Go.of q fun p e s m args below meth c T locs O X eT t hr => XS.istoreN X.here O.1 rfl (hb O.2.1 hd) rfl hl hr
theorem Go.lstore {k : Nat} {v : Int64} (hd : decode bytes pc = .ok (.lstore k, 2)) (hl : storeLocals Ls k (.long v) = some Ls') (hp : pc + 2 = pc') (q : Go wd l R Z y bytes maxL ret n0 K N Q h cells slots pc' Ls' st) : Go wd l R Z y bytes maxL ret n0 K N Q h cells slots pc Ls (.long v :: st) := by
  subst hp; exact Go.of q fun p e s m args below meth c T locs O X eT t hr => XS.lstore X.here O.1 rfl (hb O.2.1 hd) rfl hl hr
theorem Go.lstoreN {k : Fin 4} {v : Int64} (hd : decode bytes pc = .ok (.lstore_n k, 1)) (hl : storeLocals Ls k.val (.long v) = some Ls') (hp : pc + 1 = pc') (q : Go wd l R Z y bytes maxL ret n0 K N Q h cells slots pc' Ls' st) : Go wd l R Z y bytes maxL ret n0 K N Q h cells slots pc Ls (.long v :: st) := by
  subst hp; exact Go.of q fun p e s m args below meth c T locs O X eT t hr => XS.lstoreN X.here O.1 rfl (hb O.2.1 hd) rfl hl hr
theorem Go.astore {k : Nat} {v : Value} (hd : decode bytes pc = .ok (.astore k, 2)) (hv : v.isRef = true) (hl : storeLocals Ls k v = some Ls') (hp : pc + 2 = pc') (q : Go wd l R Z y bytes maxL ret n0 K N Q h cells slots pc' Ls' st) : Go wd l R Z y bytes maxL ret n0 K N Q h cells slots pc Ls (v :: st) := by
  subst hp; exact Go.of q fun p e s m args below meth c T locs O X eT t hr => XS.astore X.here O.1 rfl (hb O.2.1 hd) rfl hv hl hr
theorem Go.astoreN {k : Fin 4} {v : Value} (hd : decode bytes pc = .ok (.astore_n k, 1)) (hv : v.isRef = true) (hl : storeLocals Ls k.val v = some Ls') (hp : pc + 1 = pc') (q : Go wd l R Z y bytes maxL ret n0 K N Q h cells slots pc' Ls' st) : Go wd l R Z y bytes maxL ret n0 K N Q h cells slots pc Ls (v :: st) := by
  subst hp; exact Go.of q fun p e s m args below meth c T locs O X eT t hr => XS.astoreN X.here O.1 rfl (hb O.2.1 hd) rfl hv hl hr
theorem Go.iinc {k : Nat} {cst : Int} {v w : Int32} (hd : decode bytes pc = .ok (.iinc k cst, 3)) (hl : Ls[k]? = some (.val (.int v))) (hw : v + Int32.ofInt cst = w) (hl' : storeLocals Ls k (.int w) = some Ls') (hp : pc + 3 = pc') (q : Go wd l R Z y bytes maxL ret n0 K N Q h cells slots pc' Ls' st) : Go wd l R Z y bytes maxL ret n0 K N Q h cells slots pc Ls st := by
  subst hp hw; exact Go.of q fun p e s m args below meth c T locs O X eT t hr => XS.iinc X.here O.1 rfl (hb O.2.1 hd) hl hl' hr
theorem Go.iconst {i : Int} {v : Int32} (hd : decode bytes pc = .ok (.iconst i, 1)) (hv : Int32.ofInt i = v) (hp : pc + 1 = pc') (q : Go wd l R Z y bytes maxL ret n0 K N Q h cells slots pc' Ls (.int v :: st)) : Go wd l R Z y bytes maxL ret n0 K N Q h cells slots pc Ls st := by
  subst hp hv; exact Go.of q fun p e s m args below meth c T locs O X eT t hr => XS.iconst X.here O.1 rfl (hb O.2.1 hd) hr
theorem Go.bipush {i : Int} {v : Int32} (hd : decode bytes pc = .ok (.bipush i, 2)) (hv : (Int8.ofInt i).toInt32 = v) (hp : pc + 2 = pc') (q : Go wd l R Z y bytes maxL ret n0 K N Q h cells slots pc' Ls (.int v :: st)) : Go wd l R Z y bytes maxL ret n0 K N Q h cells slots pc Ls st := by
  subst hp hv; exact Go.of q fun p e s m args below meth c T locs O X eT t hr => XS.bipush X.here O.1 rfl (hb O.2.1 hd) hr
theorem Go.sipush {i : Int} {v : Int32} (hd : decode bytes pc = .ok (.sipush i, 3)) (hv : (Int16.ofInt i).toInt32 = v) (hp : pc + 3 = pc') (q : Go wd l R Z y bytes maxL ret n0 K N Q h cells slots pc' Ls (.int v :: st)) : Go wd l R Z y bytes maxL ret n0 K N Q h cells slots pc Ls st := by
  subst hp hv; exact Go.of q fun p e s m args below meth c T locs O X eT t hr => XS.sipush X.here O.1 rfl (hb O.2.1 hd) hr
theorem Go.lconst {k : Fin 2} {v : Int64} (hd : decode bytes pc = .ok (.lconst k, 1)) (hv : Int64.ofNat k = v) (hp : pc + 1 = pc') (q : Go wd l R Z y bytes maxL ret n0 K N Q h cells slots pc' Ls (.long v :: st)) : Go wd l R Z y bytes maxL ret n0 K N Q h cells slots pc Ls st := by
  subst hp hv; exact Go.of q fun p e s m args below meth c T locs O X eT t hr => XS.lconst X.here O.1 rfl (hb O.2.1 hd) hr
theorem Go.aconstNull (hd : decode bytes pc = .ok (.aconst_null, 1)) (hp : pc + 1 = pc') (q : Go wd l R Z y bytes maxL ret n0 K N Q h cells slots pc' Ls (.null :: st)) : Go wd l R Z y bytes maxL ret n0 K N Q h cells slots pc Ls st := by
  subst hp; exact Go.of q fun p e s m args below meth c T locs O X eT t hr => XS.aconstNull X.here O.1 rfl (hb O.2.1 hd) hr
theorem Go.dup {v : Value} (hd : decode bytes pc = .ok (.dup, 1)) (hv : v.category = 1) (hp : pc + 1 = pc') (q : Go wd l R Z y bytes maxL ret n0 K N Q h cells slots pc' Ls (v :: v :: st)) : Go wd l R Z y bytes maxL ret n0 K N Q h cells slots pc Ls (v :: st) := by
  subst hp; exact Go.of q fun p e s m args below meth c T locs O X eT t hr => XS.dup X.here O.1 rfl (hb O.2.1 hd) rfl hv hr
theorem Go.dupX1 {v w : Value} (hd : decode bytes pc = .ok (.dup_x1, 1)) (hv : v.category = 1) (hw : w.category = 1) (hp : pc + 1 = pc') (q : Go wd l R Z y bytes maxL ret n0 K N Q h cells slots pc' Ls (v :: w :: v :: st)) : Go wd l R Z y bytes maxL ret n0 K N Q h cells slots pc Ls (v :: w :: st) := by
  subst hp; exact Go.of q fun p e s m args below meth c T locs O X eT t hr => XS.dupX1 X.here O.1 rfl (hb O.2.1 hd) rfl hv hw hr
theorem Go.dup2 {v w : Value} (hd : decode bytes pc = .ok (.dup2, 1)) (hv : v.category = 1) (hw : w.category = 1) (hp : pc + 1 = pc') (q : Go wd l R Z y bytes maxL ret n0 K N Q h cells slots pc' Ls (v :: w :: v :: w :: st)) : Go wd l R Z y bytes maxL ret n0 K N Q h cells slots pc Ls (v :: w :: st) := by
  subst hp; exact Go.of q fun p e s m args below meth c T locs O X eT t hr => XT.dup2 X.here O.1 rfl (hb O.2.1 hd) rfl hv hw hr
theorem Go.pop {v : Value} (hd : decode bytes pc = .ok (.pop, 1)) (hv : v.category = 1) (hp : pc + 1 = pc') (q : Go wd l R Z y bytes maxL ret n0 K N Q h cells slots pc' Ls st) : Go wd l R Z y bytes maxL ret n0 K N Q h cells slots pc Ls (v :: st) := by
  subst hp; exact Go.of q fun p e s m args below meth c T locs O X eT t hr => XS.pop X.here O.1 rfl (hb O.2.1 hd) rfl hv hr
theorem Go.goto {o : Int} (hd : decode bytes pc = .ok (.goto o, 3)) (ho : 0 ≤ (pc : Int) + o) (hp : ((pc : Int) + o).toNat = pc') (q : Go wd l R Z y bytes maxL ret n0 K N Q h cells slots pc' Ls st) : Go wd l R Z y bytes maxL ret n0 K N Q h cells slots pc Ls st :=
  Go.of q fun p e s m args below meth c T locs O X eT t hr => XS.goto X.here O.1 rfl (pc0 := pc) rfl (hb O.2.1 hd) ho hp hr
theorem Go.iadd {a : Int32} {b : Int32} (hd : decode bytes pc = .ok (.iadd, 1)) (hp : pc + 1 = pc') (q : Go wd l R Z y bytes maxL ret n0 K N Q h cells slots pc' Ls (.int (a + b) :: st)) : Go wd l R Z y bytes maxL ret n0 K N Q h cells slots pc Ls (.int b :: .int a :: st) := by
  subst hp; exact Go.of q fun p e s m args below meth c T locs O X eT t hr => XS.iadd X.here O.1 rfl (hb O.2.1 hd) rfl hr
theorem Go.isub {a : Int32} {b : Int32} (hd : decode bytes pc = .ok (.isub, 1)) (hp : pc + 1 = pc') (q : Go wd l R Z y bytes maxL ret n0 K N Q h cells slots pc' Ls (.int (a - b) :: st)) : Go wd l R Z y bytes maxL ret n0 K N Q h cells slots pc Ls (.int b :: .int a :: st) := by
  subst hp; exact Go.of q fun p e s m args below meth c T locs O X eT t hr => XS.isub X.here O.1 rfl (hb O.2.1 hd) rfl hr
theorem Go.imul {a : Int32} {b : Int32} (hd : decode bytes pc = .ok (.imul, 1)) (hp : pc + 1 = pc') (q : Go wd l R Z y bytes maxL ret n0 K N Q h cells slots pc' Ls (.int (a * b) :: st)) : Go wd l R Z y bytes maxL ret n0 K N Q h cells slots pc Ls (.int b :: .int a :: st) := by
  subst hp; exact Go.of q fun p e s m args below meth c T locs O X eT t hr => XS.imul X.here O.1 rfl (hb O.2.1 hd) rfl hr
theorem Go.iand {a : Int32} {b : Int32} (hd : decode bytes pc = .ok (.iand, 1)) (hp : pc + 1 = pc') (q : Go wd l R Z y bytes maxL ret n0 K N Q h cells slots pc' Ls (.int (a &&& b) :: st)) : Go wd l R Z y bytes maxL ret n0 K N Q h cells slots pc Ls (.int b :: .int a :: st) := by
  subst hp; exact Go.of q fun p e s m args below meth c T locs O X eT t hr => XS.iand X.here O.1 rfl (hb O.2.1 hd) rfl hr
theorem Go.ior {a : Int32} {b : Int32} (hd : decode bytes pc = .ok (.ior, 1)) (hp : pc + 1 = pc') (q : Go wd l R Z y bytes maxL ret n0 K N Q h cells slots pc' Ls (.int (a ||| b) :: st)) : Go wd l R Z y bytes maxL ret n0 K N Q h cells slots pc Ls (.int b :: .int a :: st) := by
  subst hp; exact Go.of q fun p e s m args below meth c T locs O X eT t hr => XS.ior X.here O.1 rfl (hb O.2.1 hd) rfl hr
theorem Go.ixor {a : Int32} {b : Int32} (hd : decode bytes pc = .ok (.ixor, 1)) (hp : pc + 1 = pc') (q : Go wd l R Z y bytes maxL ret n0 K N Q h cells slots pc' Ls (.int (a ^^^ b) :: st)) : Go wd l R Z y bytes maxL ret n0 K N Q h cells slots pc Ls (.int b :: .int a :: st) := by
  subst hp; exact Go.of q fun p e s m args below meth c T locs O X eT t hr => XS.ixor X.here O.1 rfl (hb O.2.1 hd) rfl hr
theorem Go.ishl {a : Int32} {b : Int32} (hd : decode bytes pc = .ok (.ishl, 1)) (hp : pc + 1 = pc') (q : Go wd l R Z y bytes maxL ret n0 K N Q h cells slots pc' Ls (.int (a <<< (b &&& 31)) :: st)) : Go wd l R Z y bytes maxL ret n0 K N Q h cells slots pc Ls (.int b :: .int a :: st) := by
  subst hp; exact Go.of q fun p e s m args below meth c T locs O X eT t hr => XS.ishl X.here O.1 rfl (hb O.2.1 hd) rfl hr
theorem Go.ishr {a : Int32} {b : Int32} (hd : decode bytes pc = .ok (.ishr, 1)) (hp : pc + 1 = pc') (q : Go wd l R Z y bytes maxL ret n0 K N Q h cells slots pc' Ls (.int (a >>> (b &&& 31)) :: st)) : Go wd l R Z y bytes maxL ret n0 K N Q h cells slots pc Ls (.int b :: .int a :: st) := by
  subst hp; exact Go.of q fun p e s m args below meth c T locs O X eT t hr => XS.ishr X.here O.1 rfl (hb O.2.1 hd) rfl hr
theorem Go.iushr {a : Int32} {b : Int32} (hd : decode bytes pc = .ok (.iushr, 1)) (hp : pc + 1 = pc') (q : Go wd l R Z y bytes maxL ret n0 K N Q h cells slots pc' Ls (.int ((a.toUInt32 >>> (b &&& 31).toUInt32).toInt32) :: st)) : Go wd l R Z y bytes maxL ret n0 K N Q h cells slots pc Ls (.int b :: .int a :: st) := by
  subst hp; exact Go.of q fun p e s m args below meth c T locs O X eT t hr => XS.iushr X.here O.1 rfl (hb O.2.1 hd) rfl hr
theorem Go.idiv {a : Int32} {b : Int32} (hd : decode bytes pc = .ok (.idiv, 1)) (hy : b ≠ 0) (hp : pc + 1 = pc') (q : Go wd l R Z y bytes maxL ret n0 K N Q h cells slots pc' Ls (.int (a / b) :: st)) : Go wd l R Z y bytes maxL ret n0 K N Q h cells slots pc Ls (.int b :: .int a :: st) := by
  subst hp; exact Go.of q fun p e s m args below meth c T locs O X eT t hr => XS.idiv X.here O.1 rfl (hb O.2.1 hd) rfl hy hr
theorem Go.ladd {a : Int64} {b : Int64} (hd : decode bytes pc = .ok (.ladd, 1)) (hp : pc + 1 = pc') (q : Go wd l R Z y bytes maxL ret n0 K N Q h cells slots pc' Ls (.long (a + b) :: st)) : Go wd l R Z y bytes maxL ret n0 K N Q h cells slots pc Ls (.long b :: .long a :: st) := by
  subst hp; exact Go.of q fun p e s m args below meth c T locs O X eT t hr => XS.ladd X.here O.1 rfl (hb O.2.1 hd) rfl hr
theorem Go.lsub {a : Int64} {b : Int64} (hd : decode bytes pc = .ok (.lsub, 1)) (hp : pc + 1 = pc') (q : Go wd l R Z y bytes maxL ret n0 K N Q h cells slots pc' Ls (.long (a - b) :: st)) : Go wd l R Z y bytes maxL ret n0 K N Q h cells slots pc Ls (.long b :: .long a :: st) := by
  subst hp; exact Go.of q fun p e s m args below meth c T locs O X eT t hr => XS.lsub X.here O.1 rfl (hb O.2.1 hd) rfl hr
theorem Go.lmul {a : Int64} {b : Int64} (hd : decode bytes pc = .ok (.lmul, 1)) (hp : pc + 1 = pc') (q : Go wd l R Z y bytes maxL ret n0 K N Q h cells slots pc' Ls (.long (a * b) :: st)) : Go wd l R Z y bytes maxL ret n0 K N Q h cells slots pc Ls (.long b :: .long a :: st) := by
  subst hp; exact Go.of q fun p e s m args below meth c T locs O X eT t hr => XS.lmul X.here O.1 rfl (hb O.2.1 hd) rfl hr
theorem Go.land {a : Int64} {b : Int64} (hd : decode bytes pc = .ok (.land, 1)) (hp : pc + 1 = pc') (q : Go wd l R Z y bytes maxL ret n0 K N Q h cells slots pc' Ls (.long (a &&& b) :: st)) : Go wd l R Z y bytes maxL ret n0 K N Q h cells slots pc Ls (.long b :: .long a :: st) := by
  subst hp; exact Go.of q fun p e s m args below meth c T locs O X eT t hr => XS.land X.here O.1 rfl (hb O.2.1 hd) rfl hr
theorem Go.lor {a : Int64} {b : Int64} (hd : decode bytes pc = .ok (.lor, 1)) (hp : pc + 1 = pc') (q : Go wd l R Z y bytes maxL ret n0 K N Q h cells slots pc' Ls (.long (a ||| b) :: st)) : Go wd l R Z y bytes maxL ret n0 K N Q h cells slots pc Ls (.long b :: .long a :: st) := by
  subst hp; exact Go.of q fun p e s m args below meth c T locs O X eT t hr => XS.lor X.here O.1 rfl (hb O.2.1 hd) rfl hr
theorem Go.lxor {a : Int64} {b : Int64} (hd : decode bytes pc = .ok (.lxor, 1)) (hp : pc + 1 = pc') (q : Go wd l R Z y bytes maxL ret n0 K N Q h cells slots pc' Ls (.long (a ^^^ b) :: st)) : Go wd l R Z y bytes maxL ret n0 K N Q h cells slots pc Ls (.long b :: .long a :: st) := by
  subst hp; exact Go.of q fun p e s m args below meth c T locs O X eT t hr => XS.lxor X.here O.1 rfl (hb O.2.1 hd) rfl hr
theorem Go.lshl {a : Int64} {b : Int32} (hd : decode bytes pc = .ok (.lshl, 1)) (hp : pc + 1 = pc') (q : Go wd l R Z y bytes maxL ret n0 K N Q h cells slots pc' Ls (.long (a <<< (b &&& 0x3f).toInt64) :: st)) : Go wd l R Z y bytes maxL ret n0 K N Q h cells slots pc Ls (.int b :: .long a :: st) := by
  subst hp; exact Go.of q fun p e s m args below meth c T locs O X eT t hr => XS.lshl X.here O.1 rfl (hb O.2.1 hd) rfl hr
theorem Go.lshr {a : Int64} {b : Int32} (hd : decode bytes pc = .ok (.lshr, 1)) (hp : pc + 1 = pc') (q : Go wd l R Z y bytes maxL ret n0 K N Q h cells slots pc' Ls (.long (a >>> (b &&& 0x3f).toInt64) :: st)) : Go wd l R Z y bytes maxL ret n0 K N Q h cells slots pc Ls (.int b :: .long a :: st) := by
  subst hp; exact Go.of q fun p e s m args below meth c T locs O X eT t hr => XS.lshr X.here O.1 rfl (hb O.2.1 hd) rfl hr
theorem Go.lushr {a : Int64} {b : Int32} (hd : decode bytes pc = .ok (.lushr, 1)) (hp : pc + 1 = pc') (q : Go wd l R Z y bytes maxL ret n0 K N Q h cells slots pc' Ls (.long ((a.toUInt64 >>> (b &&& 0x3f).toInt64.toUInt64).toInt64) :: st)) : Go wd l R Z y bytes maxL ret n0 K N Q h cells slots pc Ls (.int b :: .long a :: st) := by
  subst hp; exact Go.of q fun p e s m args below meth c T locs O X eT t hr => XS.lushr X.here O.1 rfl (hb O.2.1 hd) rfl hr
theorem Go.ldiv {a : Int64} {b : Int64} (hd : decode bytes pc = .ok (.ldiv, 1)) (hy : b ≠ 0) (hp : pc + 1 = pc') (q : Go wd l R Z y bytes maxL ret n0 K N Q h cells slots pc' Ls (.long (a / b) :: st)) : Go wd l R Z y bytes maxL ret n0 K N Q h cells slots pc Ls (.long b :: .long a :: st) := by
  subst hp; exact Go.of q fun p e s m args below meth c T locs O X eT t hr => XS.ldiv X.here O.1 rfl (hb O.2.1 hd) rfl hy hr
theorem Go.i2b {a : Int32} (hd : decode bytes pc = .ok (.i2b, 1)) (hp : pc + 1 = pc') (q : Go wd l R Z y bytes maxL ret n0 K N Q h cells slots pc' Ls (.int (a.toInt8.toInt32) :: st)) : Go wd l R Z y bytes maxL ret n0 K N Q h cells slots pc Ls (.int a :: st) := by
  subst hp; exact Go.of q fun p e s m args below meth c T locs O X eT t hr => XS.i2b X.here O.1 rfl (hb O.2.1 hd) rfl hr
theorem Go.i2c {a : Int32} (hd : decode bytes pc = .ok (.i2c, 1)) (hp : pc + 1 = pc') (q : Go wd l R Z y bytes maxL ret n0 K N Q h cells slots pc' Ls (.int (a.toUInt32.toUInt16.toUInt32.toInt32) :: st)) : Go wd l R Z y bytes maxL ret n0 K N Q h cells slots pc Ls (.int a :: st) := by
  subst hp; exact Go.of q fun p e s m args below meth c T locs O X eT t hr => XS.i2c X.here O.1 rfl (hb O.2.1 hd) rfl hr
theorem Go.i2s {a : Int32} (hd : decode bytes pc = .ok (.i2s, 1)) (hp : pc + 1 = pc') (q : Go wd l R Z y bytes maxL ret n0 K N Q h cells slots pc' Ls (.int (a.toInt16.toInt32) :: st)) : Go wd l R Z y bytes maxL ret n0 K N Q h cells slots pc Ls (.int a :: st) := by
  subst hp; exact Go.of q fun p e s m args below meth c T locs O X eT t hr => XS.i2s X.here O.1 rfl (hb O.2.1 hd) rfl hr
theorem Go.i2l {a : Int32} (hd : decode bytes pc = .ok (.i2l, 1)) (hp : pc + 1 = pc') (q : Go wd l R Z y bytes maxL ret n0 K N Q h cells slots pc' Ls (.long (a.toInt64) :: st)) : Go wd l R Z y bytes maxL ret n0 K N Q h cells slots pc Ls (.int a :: st) := by
  subst hp; exact Go.of q fun p e s m args below meth c T locs O X eT t hr => XS.i2l X.here O.1 rfl (hb O.2.1 hd) rfl hr
theorem Go.l2i {a : Int64} (hd : decode bytes pc = .ok (.l2i, 1)) (hp : pc + 1 = pc') (q : Go wd l R Z y bytes maxL ret n0 K N Q h cells slots pc' Ls (.int (a.toInt32) :: st)) : Go wd l R Z y bytes maxL ret n0 K N Q h cells slots pc Ls (.long a :: st) := by
  subst hp; exact Go.of q fun p e s m args below meth c T locs O X eT t hr => XS.l2i X.here O.1 rfl (hb O.2.1 hd) rfl hr
theorem Go.lneg {a : Int64} (hd : decode bytes pc = .ok (.lneg, 1)) (hp : pc + 1 = pc') (q : Go wd l R Z y bytes maxL ret n0 K N Q h cells slots pc' Ls (.long (-a) :: st)) : Go wd l R Z y bytes maxL ret n0 K N Q h cells slots pc Ls (.long a :: st) := by
  subst hp; exact Go.of q fun p e s m args below meth c T locs O X eT t hr => XS.lneg X.here O.1 rfl (hb O.2.1 hd) rfl hr
theorem Go.ineg {a : Int32} (hd : decode bytes pc = .ok (.ineg, 1)) (hp : pc + 1 = pc') (q : Go wd l R Z y bytes maxL ret n0 K N Q h cells slots pc' Ls (.int (-a) :: st)) : Go wd l R Z y bytes maxL ret n0 K N Q h cells slots pc Ls (.int a :: st) := by
  subst hp; exact Go.of q fun p e s m args below meth c T locs O X eT t hr => XS.ineg X.here O.1 rfl (hb O.2.1 hd) rfl hr
theorem Go.irem {a b : Int32} (hd : decode bytes pc = .ok (.irem, 1)) (hy : b ≠ 0) (hp : pc + 1 = pc') (q : Go wd l R Z y bytes maxL ret n0 K N Q h cells slots pc' Ls (.int (a % b) :: st)) : Go wd l R Z y bytes maxL ret n0 K N Q h cells slots pc Ls (.int b :: .int a :: st) := by
  subst hp; exact Go.of q fun p e s m args below meth c T locs O X eT t hr => iremM X O.1 rfl (hb O.2.1 hd) rfl hy hr
theorem Go.lrem {a b : Int64} (hd : decode bytes pc = .ok (.lrem, 1)) (hy : b ≠ 0) (hp : pc + 1 = pc') (q : Go wd l R Z y bytes maxL ret n0 K N Q h cells slots pc' Ls (.long (a % b) :: st)) : Go wd l R Z y bytes maxL ret n0 K N Q h cells slots pc Ls (.long b :: .long a :: st) := by
  subst hp; rw [← lrem_mod] at q; exact Go.of q fun p e s m args below meth c T locs O X eT t hr => XS.lrem X.here O.1 rfl (hb O.2.1 hd) rfl hy hr
theorem c_lremM (x y : Int64) (d : Int) (hy : y.toInt = d) : (0 ≤ x.toInt → (x % y).toInt = x.toInt % d) ∧ (x.toInt < 0 → (x % y).toInt = -((-x.toInt) % d)) := by rw [Int64.toInt_mod, hy]; exact tr _ _
/-! branches -/
def jc : ClassFile.Cond → Int32 → Int32 → Prop
  | .eq, x, y => x.toInt = y.toInt
  | .ne, x, y => x.toInt ≠ y.toInt
  | .lt, x, y => x.toInt < y.toInt
  | .ge, x, y => y.toInt ≤ x.toInt
  | .gt, x, y => y.toInt < x.toInt
  | .le, x, y => x.toInt ≤ y.toInt
def jn : ClassFile.Cond → Int32 → Int32 → Prop
  | .eq, x, y => x.toInt ≠ y.toInt
  | .ne, x, y => x.toInt = y.toInt
  | .lt, x, y => y.toInt ≤ x.toInt
  | .ge, x, y => x.toInt < y.toInt
  | .gt, x, y => x.toInt ≤ y.toInt
  | .le, x, y => y.toInt < x.toInt
def zc : ClassFile.Cond → Int32 → Prop
  | .eq, x => x.toInt = 0
  | .ne, x => x.toInt ≠ 0
  | .lt, x => x.toInt < 0
  | .ge, x => 0 ≤ x.toInt
  | .gt, x => 0 < x.toInt
  | .le, x => x.toInt ≤ 0
def zn : ClassFile.Cond → Int32 → Prop
  | .eq, x => x.toInt ≠ 0
  | .ne, x => x.toInt = 0
  | .lt, x => 0 ≤ x.toInt
  | .ge, x => x.toInt < 0
  | .gt, x => x.toInt ≤ 0
  | .le, x => 0 < x.toInt
def wc : ClassFile.Cond → Int64 → Int64 → Prop
  | .eq, x, y => x.toInt = y.toInt
  | .ne, x, y => x.toInt ≠ y.toInt
  | .lt, x, y => x.toInt < y.toInt
  | .ge, x, y => y.toInt ≤ x.toInt
  | .gt, x, y => y.toInt < x.toInt
  | .le, x, y => x.toInt ≤ y.toInt
def wn : ClassFile.Cond → Int64 → Int64 → Prop
  | .eq, x, y => x.toInt ≠ y.toInt
  | .ne, x, y => x.toInt = y.toInt
  | .lt, x, y => y.toInt ≤ x.toInt
  | .ge, x, y => x.toInt < y.toInt
  | .gt, x, y => x.toInt ≤ y.toInt
  | .le, x, y => y.toInt < x.toInt
theorem jc_or (cd : ClassFile.Cond) (x y : Int32) : (if_icmp.holds cd x y = true ∧ jc cd x y) ∨ (if_icmp.holds cd x y = false ∧ jn cd x y) := by
  have i : x = y ↔ x.toInt = y.toInt := Int32.toInt_inj.symm
  cases cd <;> simp only [if_icmp.holds, jc, jn, beq_iff_eq, bne_iff_ne, beq_eq_false_iff_ne, bne_eq_false_iff_eq, decide_eq_true_eq, decide_eq_false_iff_not, Int32.lt_iff_toInt_lt, Int32.le_iff_toInt_le, ge_iff_le, gt_iff_lt, ne_eq, i] <;> omega
theorem zc_or (cd : ClassFile.Cond) (x : Int32) : (ifCond.holds cd x = true ∧ zc cd x) ∨ (ifCond.holds cd x = false ∧ zn cd x) := by
  have z : (0 : Int32).toInt = 0 := rfl
  rcases jc_or cd x 0 with ⟨q, r⟩ | ⟨q, r⟩
  · left; rw [if0]; refine ⟨q, ?_⟩; cases cd <;> simp only [jc, zc, z] at r ⊢ <;> exact r
  · right; rw [if0]; refine ⟨q, ?_⟩; cases cd <;> simp only [jn, zn, z] at r ⊢ <;> exact r
theorem wc_or (cd : ClassFile.Cond) (x y : Int64) : (ifCond.holds cd (lcmpW x y) = true ∧ wc cd x y) ∨ (ifCond.holds cd (lcmpW x y) = false ∧ wn cd x y) := by
  have e := c_lcmp x y
  rcases zc_or cd (lcmpW x y) with ⟨q, r⟩ | ⟨q, r⟩
  · left; refine ⟨q, ?_⟩; cases cd <;> simp only [zc, wc, ne_eq] at r ⊢ <;> omega
  · right; refine ⟨q, ?_⟩; cases cd <;> simp only [zn, wn, ne_eq] at r ⊢ <;> omega
theorem Go.icmp {cd : ClassFile.Cond} {o : Int} {x z : Int32} {pc1 pc2 : Nat} (hd : decode bytes pc = .ok (.if_icmp cd o, 3)) (ho : 0 ≤ (pc : Int) + o) (hp : ((pc : Int) + o).toNat = pc1) (hp2 : pc + 3 = pc2)
    (q1 : jc cd x z → Go wd l R Z y bytes maxL ret n0 K N Q h cells slots pc1 Ls st) (q2 : jn cd x z → Go wd l R Z y bytes maxL ret n0 K N Q h cells slots pc2 Ls st) : Go wd l R Z y bytes maxL ret n0 K N Q h cells slots pc Ls (.int z :: .int x :: st) := by
  rcases jc_or cd x z with ⟨hc, r⟩ | ⟨hc, r⟩
  · exact Go.of (q1 r) fun p e s m args below meth c T locs O X eT t hr => XS.icmpYes X.here O.1 rfl (pc0 := pc) rfl (hb O.2.1 hd) rfl hc ho hp hr
  · subst hp2; exact Go.of (q2 r) fun p e s m args below meth c T locs O X eT t hr => XS.icmpNo X.here O.1 rfl (hb O.2.1 hd) rfl hc hr
theorem Go.ifc {cd : ClassFile.Cond} {o : Int} {x : Int32} {pc1 pc2 : Nat} (hd : decode bytes pc = .ok (.ifCond cd o, 3)) (ho : 0 ≤ (pc : Int) + o) (hp : ((pc : Int) + o).toNat = pc1) (hp2 : pc + 3 = pc2)
    (q1 : zc cd x → Go wd l R Z y bytes maxL ret n0 K N Q h cells slots pc1 Ls st) (q2 : zn cd x → Go wd l R Z y bytes maxL ret n0 K N Q h cells slots pc2 Ls st) : Go wd l R Z y bytes maxL ret n0 K N Q h cells slots pc Ls (.int x :: st) := by
  rcases zc_or cd x with ⟨hc, r⟩ | ⟨hc, r⟩
  · exact Go.of (q1 r) fun p e s m args below meth c T locs O X eT t hr => XS.ifYes X.here O.1 rfl (pc0 := pc) rfl (hb O.2.1 hd) rfl hc ho hp hr
  · subst hp2; exact Go.of (q2 r) fun p e s m args below meth c T locs O X eT t hr => XS.ifNo X.here O.1 rfl (hb O.2.1 hd) rfl hc hr
theorem Go.lcmp {a b : Int64} (hd : decode bytes pc = .ok (.lcmp, 1)) (hp : pc + 1 = pc') (q : Go wd l R Z y bytes maxL ret n0 K N Q h cells slots pc' Ls (.int (lcmpW a b) :: st)) : Go wd l R Z y bytes maxL ret n0 K N Q h cells slots pc Ls (.long b :: .long a :: st) := by
  subst hp; exact Go.of q fun p e s m args below meth c T locs O X eT t hr => XS.lcmp X.here O.1 rfl (hb O.2.1 hd) rfl hr
theorem Go.ifw {cd : ClassFile.Cond} {o : Int} {a b : Int64} {pc1 pc2 : Nat} (hd : decode bytes pc = .ok (.ifCond cd o, 3)) (ho : 0 ≤ (pc : Int) + o) (hp : ((pc : Int) + o).toNat = pc1) (hp2 : pc + 3 = pc2)
    (q1 : wc cd a b → Go wd l R Z y bytes maxL ret n0 K N Q h cells slots pc1 Ls st) (q2 : wn cd a b → Go wd l R Z y bytes maxL ret n0 K N Q h cells slots pc2 Ls st) : Go wd l R Z y bytes maxL ret n0 K N Q h cells slots pc Ls (.int (lcmpW a b) :: st) := by
  rcases wc_or cd a b with ⟨hc, r⟩ | ⟨hc, r⟩
  · exact Go.of (q1 r) fun p e s m args below meth c T locs O X eT t hr => XS.ifYes X.here O.1 rfl (pc0 := pc) rfl (hb O.2.1 hd) rfl hc ho hp hr
  · subst hp2; exact Go.of (q2 r) fun p e s m args below meth c T locs O X eT t hr => XS.ifNo X.here O.1 rfl (hb O.2.1 hd) rfl hc hr
theorem Go.nonnullYes {o : Int} {a : Addr} (hd : decode bytes pc = .ok (.ifnonnull o, 3)) (ho : 0 ≤ (pc : Int) + o) (hp : ((pc : Int) + o).toNat = pc') (q : Go wd l R Z y bytes maxL ret n0 K N Q h cells slots pc' Ls st) : Go wd l R Z y bytes maxL ret n0 K N Q h cells slots pc Ls (.ref a :: st) :=
  Go.of q fun p e s m args below meth c T locs O X eT t hr => XS.ifnonnullYes X.here O.1 rfl (pc0 := pc) rfl (hb O.2.1 hd) rfl ho hp hr
theorem Go.nonnullNo {o : Int} (hd : decode bytes pc = .ok (.ifnonnull o, 3)) (hp : pc + 3 = pc') (q : Go wd l R Z y bytes maxL ret n0 K N Q h cells slots pc' Ls st) : Go wd l R Z y bytes maxL ret n0 K N Q h cells slots pc Ls (.null :: st) := by
  subst hp; exact Go.of q fun p e s m args below meth c T locs O X eT t hr => XS.ifnonnullNo X.here O.1 rfl (hb O.2.1 hd) rfl hr
theorem Go.nullYes {o : Int} (hd : decode bytes pc = .ok (.ifnull o, 3)) (ho : 0 ≤ (pc : Int) + o) (hp : ((pc : Int) + o).toNat = pc') (q : Go wd l R Z y bytes maxL ret n0 K N Q h cells slots pc' Ls st) : Go wd l R Z y bytes maxL ret n0 K N Q h cells slots pc Ls (.null :: st) :=
  Go.of q fun p e s m args below meth c T locs O X eT t hr => XS.ifnullYes X.here O.1 rfl (pc0 := pc) rfl (hb O.2.1 hd) rfl ho hp hr
theorem Go.nullNo {o : Int} {a : Addr} (hd : decode bytes pc = .ok (.ifnull o, 3)) (hp : pc + 3 = pc') (q : Go wd l R Z y bytes maxL ret n0 K N Q h cells slots pc' Ls st) : Go wd l R Z y bytes maxL ret n0 K N Q h cells slots pc Ls (.ref a :: st) := by
  subst hp; exact Go.of q fun p e s m args below meth c T locs O X eT t hr => XS.ifnullNo X.here O.1 rfl (hb O.2.1 hd) rfl hr
/-- if_acmp: q1 where they are the same, q2 where they aren't -/
theorem Go.acmp {cd : ACond} {o : Int} {u w : Value} {pc1 pc2 : Nat} (hd : decode bytes pc = .ok (.if_acmp cd o, 3)) (hu : u.isRef = true) (hw : w.isRef = true) (ho : 0 ≤ (pc : Int) + o) (hp : (if acV cd true = true then ((pc : Int) + o).toNat else pc + 3) = pc1) (hp2 : (if acV cd false = true then ((pc : Int) + o).toNat else pc + 3) = pc2)
    (q1 : u = w → Go wd l R Z y bytes maxL ret n0 K N Q h cells slots pc1 Ls st) (q2 : u ≠ w → Go wd l R Z y bytes maxL ret n0 K N Q h cells slots pc2 Ls st) : Go wd l R Z y bytes maxL ret n0 K N Q h cells slots pc Ls (w :: u :: st) := by
  by_cases r : u = w
  · exact Go.of (q1 r) fun p e s m args below meth c T locs O X eT t hr => RoadKit.acmp X O.1 rfl hu hw (pc0 := pc) (same := true) rfl (hb O.2.1 hd) rfl (decide_eq_true r) ho hp.symm hr
  · exact Go.of (q2 r) fun p e s m args below meth c T locs O X eT t hr => RoadKit.acmp X O.1 rfl hu hw (pc0 := pc) (same := false) rfl (hb O.2.1 hd) rfl (decide_eq_false r) ho hp2.symm hr
/-! constants of the pool -/
theorem Go.ldcI {i : Nat} {v : Int32} (w : (Cond.constant y.cls i v).before a0 Z = true) (hd : decode bytes pc = .ok (.ldc i, 2)) (hp : pc + 2 = pc') (q : Go wd l R Z y bytes maxL ret n0 K N Q h cells slots pc' Ls (.int v :: st)) : Go wd l R Z y bytes maxL ret n0 K N Q h cells slots pc Ls st := by
  subst hp; exact Go.of q fun p e s m args below meth c T locs O X eT t hr => X.ldcInt O.1 O.2.2.2.1 (mvT O.2.2.2.2.2.1 w) (g := mkF m pc Ls st) rfl (hb O.2.1 hd) t hr
theorem Go.ldcW {i : Nat} {v : Int32} (w : (Cond.constant y.cls i v).before a0 Z = true) (hd : decode bytes pc = .ok (.ldc_w i, 3)) (hp : pc + 3 = pc') (q : Go wd l R Z y bytes maxL ret n0 K N Q h cells slots pc' Ls (.int v :: st)) : Go wd l R Z y bytes maxL ret n0 K N Q h cells slots pc Ls st := by
  subst hp; exact Go.of q fun p e s m args below meth c T locs O X eT t hr => X.ldcwInt O.1 O.2.2.2.1 (mvT O.2.2.2.2.2.1 w) (g := mkF m pc Ls st) rfl (hb O.2.1 hd) t hr
theorem Go.ldcL {i : Nat} {v : Int64} (w : (Cond.constantLong y.cls i v).before a0 Z = true) (hd : decode bytes pc = .ok (.ldc2_w i, 3)) (hp : pc + 3 = pc') (q : Go wd l R Z y bytes maxL ret n0 K N Q h cells slots pc' Ls (.long v :: st)) : Go wd l R Z y bytes maxL ret n0 K N Q h cells slots pc Ls st := by
  subst hp; exact Go.of q fun p e s m args below meth c T locs O X eT t hr => X.ldc2Long O.1 O.2.2.2.1 (mvT O.2.2.2.2.2.1 w) (g := mkF m pc Ls st) rfl (hb O.2.1 hd) t hr
/-! the ends -/
theorem Go.leave {v : Option Value} (hv : ret = none → v = none) (hQ : Q v h) (hk : cells ≤ K) (hn : slots ≤ N)
    (q : ∀ (p : Program) (e : Env) (s : State) (m : MethodId) (args : Array Value) (below : List Frame) (meth : Method) (c : Code) (T : State) (locs : List Loc) (fs : List Frame), Own Z y bytes maxL ret p s m meth c → Stand p l e R s m args below meth c T locs cells slots →
      (∀ (f : JFrame) (acts : List Action), f.method = m → f.locked = none → f.entered = [] → (doReturn e (T.setTop f) acts v).1 = T.setFrames fs) → Steps p.tables e below (T.setTop (mkF m pc Ls st)) (T.setFrames fs)) : Go wd l R Z y bytes maxL ret n0 K N Q h cells slots pc Ls st := by
  intro p e s0 s m args below meth c T locs hR O X eT F
  obtain ⟨fs, hr, hrun, hended, hW, hsame⟩ := X.leave (v := v) (fun r => hv (by rw [← O.2.2.2.2.2.2.1]; exact r)) O.2.2.2.2.2.2.2
  have hE : GoEnd wd s0 (.returned v) (T.setFrames fs) locs K N := GoRel.ended (U := T.setFrames fs) (by show GoRel wd s0 s T.heap.size; rw [eT]; exact hR) hW hsame hk hn
  refine ⟨_, _, q p e s m args below meth c T locs fs O X hr, hrun, hended, v, locs, rfl, ⟨?_, fun y hy => Nat.le_trans (wd.bound_le n0) (F y hy)⟩, hE⟩
  show Q v T.heap
  rw [eT]; exact hQ
theorem Go.ret0 (hd : decode bytes pc = .ok (.return_, 1)) (hr : ret = none) (hQ : Q none h) (hk : cells ≤ K) (hn : slots ≤ N) : Go wd l R Z y bytes maxL ret n0 K N Q h cells slots pc Ls [] :=
  Go.leave (v := none) (fun _ => rfl) hQ hk hn fun p e s m args below meth c T locs fs O X hl => X.returnOut O.1 (O.2.2.2.2.2.2.1.trans hr) (hb O.2.1 hd) hl
theorem Go.retI {v : Int32} (hd : decode bytes pc = .ok (.ireturn, 1)) (hr : ret = some .int) (hQ : Q (some (.int v)) h) (hk : cells ≤ K) (hn : slots ≤ N) : Go wd l R Z y bytes maxL ret n0 K N Q h cells slots pc Ls (.int v :: st) :=
  Go.leave (v := some (.int v)) (fun r => by rw [hr] at r; cases r) hQ hk hn fun p e s m args below meth c T locs fs O X hl => retOut X O.1 (O.2.2.2.2.2.2.1.trans hr) rfl (Or.inl ⟨rfl, Or.inl rfl, _, rfl⟩) (hb O.2.1 hd) hl
theorem Go.retN {v : Int32} {t : FieldType} (hd : decode bytes pc = .ok (.ireturn, 1)) (hr : ret = some t) (ht : t = .boolean ∨ t = .byte ∨ t = .char ∨ t = .short) (hv : nar t v = v) (hQ : Q (some (.int v)) h) (hk : cells ≤ K) (hn : slots ≤ N) : Go wd l R Z y bytes maxL ret n0 K N Q h cells slots pc Ls (.int v :: st) :=
  Go.leave (v := some (.int v)) (fun r => by rw [hr] at r; cases r) hQ hk hn fun p e s m args below meth c T locs fs O X hl => RoadKit.retN X O.1 (O.2.2.2.2.2.2.1.trans hr) ht (hb O.2.1 hd) (by rw [hv]; exact hl)
theorem Go.retL {v : Int64} (hd : decode bytes pc = .ok (.lreturn, 1)) (hr : ret = some .long) (hQ : Q (some (.long v)) h) (hk : cells ≤ K) (hn : slots ≤ N) : Go wd l R Z y bytes maxL ret n0 K N Q h cells slots pc Ls (.long v :: st) :=
  Go.leave (v := some (.long v)) (fun r => by rw [hr] at r; cases r) hQ hk hn fun p e s m args below meth c T locs fs O X hl => retOut X O.1 (O.2.2.2.2.2.2.1.trans hr) rfl (Or.inr (Or.inl ⟨rfl, rfl, _, rfl⟩)) (hb O.2.1 hd) hl
theorem Go.retA {v : Value} {t : FieldType} (hd : decode bytes pc = .ok (.areturn, 1)) (hr : ret = some t) (ht : t.isReference = true) (hv : v.isRef = true) (hQ : Q (some v) h) (hk : cells ≤ K) (hn : slots ≤ N) : Go wd l R Z y bytes maxL ret n0 K N Q h cells slots pc Ls (v :: st) :=
  Go.leave (v := some v) (fun r => by rw [hr] at r; cases r) hQ hk hn fun p e s m args below meth c T locs fs O X hl => retOut X O.1 (O.2.2.2.2.2.2.1.trans hr) (by cases t <;> first | rfl | (cases ht; done)) (Or.inr (Or.inr (Or.inr (Or.inr ⟨rfl, ht, hv⟩)))) (hb O.2.1 hd) hl
/-! the heap -/
theorem Go.newO {C : String} {i n : Nat} (w1 : (Cond.classLink y.cls i C).before a0 Z = true) (w2 : (Cond.instantiable C n).before a0 Z = true) (w3 : (Cond.initialized C).before a0 Z = true) (hd : decode bytes pc = .ok (.new i, 3)) (hc : cells + 1 ≤ R.cells) (hs : slots + n ≤ R.slots) (hp : pc + 3 = pc')
    (q : ∀ (h' : Heap) (a : Addr), a = h.size → Ext h h' → Exa Z h' a C → (∀ {O nm d : String} {ty : FieldType}, Laid Z a0 C O nm d → parseFieldDescriptor d = some ty → Fld Z h' a O nm d (defaultValue ty)) → Go wd l R Z y bytes maxL ret n0 K N Q h' (cells + 1) (slots + n) pc' Ls (.ref a :: st)) : Go wd l R Z y bytes maxL ret n0 K N Q h cells slots pc Ls st := by
  subst hp
  intro p e s0 s m args below meth c T locs hR O X eT F
  obtain ⟨T2, h2, X2, e2, E2, A2, D2, -, st2⟩ := RoadKit.newO X O.1 O.2.2.2.2.2.1 O.2.2.2.1 w1 w2 w3 eT (g := mkF m pc Ls st) rfl (hb O.2.1 hd) hc hs
  obtain ⟨s₂, o, h1, r⟩ := q h2 _ rfl E2 A2 D2 p e s0 s m args below meth c T2 locs (hR.mono E2.1) O X2 e2 F
  exact ⟨s₂, o, st2 _ h1, r⟩
theorem Go.initO {i W : Nat} {a : Addr} (w1 : (Cond.methodLink y.cls i Lib.objectInit).before a0 Z = true) (w2 : (Cond.instanceMethod Lib.objectInit).before a0 Z = true) (w3 : (Cond.code Lib.objectInit ⟨#[0xb1]⟩ 1 none).before a0 Z = true) (hd : decode bytes pc = .ok (.invokespecial i, 3)) (hz : Ls.size = maxL)
    (hf : 1 ≤ R.frames) (hW : (st.map fun v => v.category).sum ≤ W) (hl : W + 12 ≤ R.locals) (hp : pc + 3 = pc') (q : Go wd l R Z y bytes maxL ret n0 K N Q h cells slots pc' Ls st) : Go wd l R Z y bytes maxL ret n0 K N Q h cells slots pc Ls (.ref a :: st) := by
  subst hp
  intro p e s0 s m args below meth c T locs hR O X eT F
  obtain ⟨T2, X2, e2, st2⟩ := RoadKit.initO X O.1 O.2.2.2.2.2.1 O.2.2.2.1 w1 w2 w3 eT (g := mkF m pc Ls (.ref a :: st)) rfl (hz.trans O.2.2.1.symm) rfl (hb O.2.1 hd) hf (W := W) (by show 2 * 0 + _ ≤ _; omega) hl
  obtain ⟨s₂, o, h1, r⟩ := q p e s0 s m args below meth c T2 locs hR O X2 e2 F
  exact ⟨s₂, o, st2 _ h1, r⟩
theorem Go.getF {C n d : String} {i : Nat} {a : Addr} {v : Value} (w : (Cond.fieldLink y.cls i C n d).before a0 Z = true) (hF : Fld Z h a C n d v) (hd : decode bytes pc = .ok (.getfield i, 3)) (hp : pc + 3 = pc') (q : Go wd l R Z y bytes maxL ret n0 K N Q h cells slots pc' Ls (v :: st)) : Go wd l R Z y bytes maxL ret n0 K N Q h cells slots pc Ls (.ref a :: st) := by
  subst hp
  intro p e s0 s m args below meth c T locs hR O X eT F
  obtain ⟨T2, X2, e2, st2⟩ := RoadKit.getF X O.1 O.2.2.2.2.2.1 O.2.2.2.1 (host := "") (Or.inl w) Via.refl eT hF (g := mkF m pc Ls (.ref a :: st)) rfl rfl (hb O.2.1 hd)
  obtain ⟨s₂, o, h1, r⟩ := q p e s0 s m args below meth c T2 locs hR O X2 e2 F
  exact ⟨s₂, o, st2 _ h1, r⟩
theorem Go.getS {C n d : String} {i : Nat} {v : Value} (w : (Cond.fieldLink y.cls i C n d).before a0 Z = true) (hF : Sta Z h C n d v) (hd : decode bytes pc = .ok (.getstatic i, 3)) (hp : pc + 3 = pc') (q : Go wd l R Z y bytes maxL ret n0 K N Q h cells slots pc' Ls (v :: st)) : Go wd l R Z y bytes maxL ret n0 K N Q h cells slots pc Ls st := by
  subst hp
  intro p e s0 s m args below meth c T locs hR O X eT F
  obtain ⟨T2, X2, e2, st2⟩ := RoadKit.getS2 X O.1 O.2.2.2.2.2.1 O.2.2.2.1 (host := "") (Or.inl w) Via.refl eT hF (g := mkF m pc Ls st) rfl (hb O.2.1 hd)
  obtain ⟨s₂, o, h1, r⟩ := q p e s0 s m args below meth c T2 locs hR O X2 e2 F
  exact ⟨s₂, o, st2 _ h1, r⟩
theorem Go.putF {C n d : String} {i kk : Nat} {ty : FieldType} {a : Addr} {v old : Value} (w : (Cond.fieldLink y.cls i C n d).before a0 Z = true) (hF : Fld Z h a C n d old) (hE : Exa Z h a C) (hL : (Cond.lays C C n d).before a0 Z = true ∨ ((Cond.laysFinal C C n d).before a0 Z = true ∧ y.cls = C ∧ y.name = "<init>")) (wi : (Cond.instantiable C kk).before a0 Z = true)
    (hty : parseFieldDescriptor d = some ty) (hn : narrow ty v = v) (hf : fits ty v = true) (hd : decode bytes pc = .ok (.putfield i, 3)) (ha : n0 ≤ a) (hp : pc + 3 = pc') (q : ∀ h', Wr h h' a (slotOf Z C n d) v → Go wd l R Z y bytes maxL ret n0 K N Q h' cells slots pc' Ls st) : Go wd l R Z y bytes maxL ret n0 K N Q h cells slots pc Ls (v :: .ref a :: st) := by
  subst hp
  intro p e s0 s m args below meth c T locs hR O X eT F
  obtain ⟨T2, h2, X2, e2, W2, st2⟩ := RoadKit.putF X O.1 O.2.2.2.2.2.1 O.2.2.2.1 (host := "") (Or.inl w) Via.refl eT hF hE (hL.imp_right fun r => ⟨r.1, r.2.1, O.2.2.2.2.1.trans r.2.2⟩) wi hty hn hf (g := mkF m pc Ls (v :: .ref a :: st)) rfl rfl (hb O.2.1 hd)
  obtain ⟨s₂, o, h1, r⟩ := q h2 W2 p e s0 s m args below meth c T2 _ (hR.mono (Nat.le_of_eq W2.size.symm)) O X2 e2 (Fr.snoc X2 F ha)
  exact ⟨s₂, o, st2 _ h1, r⟩
/-! facts carried from heap to heap -/
def Sm (h h' : Heap) (a : Addr) : Prop := ∀ c : Cell, h[a]? = some c → h'[a]? = some c
theorem Sm.ext {h h' : Heap} {a : Addr} (E : Ext h h') : Sm h h' a := fun c q => E.2 a c q
theorem Sm.keep {h h' : Heap} {a : Addr} {ws : List Addr} (E : Keep h h' ws) (q : a ∉ ws) : Sm h h' a := fun c r => E.2.1 a c r q
theorem Sm.wr {h h' : Heap} {a b : Addr} {sl : Nat} {v : Value} (W : Wr h h' b sl v) (q : a ≠ b) : Sm h h' a := Sm.keep (Keep.of_wr W) (by simpa using q)
theorem Sm.trans {h h' h'' : Heap} {a : Addr} (A : Sm h h' a) (B : Sm h' h'' a) : Sm h h'' a := fun c r => B c (A c r)
theorem Fld.sm {h h' : Heap} {a : Addr} {C n d : String} {v : Value} (F : Fld Z h a C n d v) (S : Sm h h' a) : Fld Z h' a C n d v := by
  obtain ⟨cell, cf, k, i, f, h1, r⟩ := F; exact ⟨cell, cf, k, i, f, S _ h1, r⟩
theorem Exa.sm {h h' : Heap} {a : Addr} {C : String} (F : Exa Z h a C) (S : Sm h h' a) : Exa Z h' a C := by
  obtain ⟨cell, k, h1, r⟩ := F; exact ⟨cell, k, S _ h1, r⟩
theorem Arr.sm {h h' : Heap} {a : Addr} {c : Cell} {ty : FieldType} (F : Arr Z h a c ty) (S : Sm h h' a) : Arr Z h' a c ty := ⟨S _ F.1, F.2⟩
/-- the array at a holds just these values -/
def Ary (Z : State) (h : Heap) (a : Addr) (ty : FieldType) (vs : List Value) : Prop := ∃ c : Cell, Arr Z h a c ty ∧ c.slots = vs.toArray
theorem Ary.sm {h h' : Heap} {a : Addr} {ty : FieldType} {vs : List Value} (F : Ary Z h a ty vs) (S : Sm h h' a) : Ary Z h' a ty vs := by
  obtain ⟨c, A, r⟩ := F; exact ⟨c, A.sm S, r⟩
theorem Ary.lt {h : Heap} {a : Addr} {ty : FieldType} {vs : List Value} (F : Ary Z h a ty vs) : a < h.size := by
  obtain ⟨c, A, r⟩ := F; exact A.lt
theorem Ary.eq {h : Heap} {a : Addr} {ty : FieldType} {vs vs' : List Value} (F : Ary Z h a ty vs) (q : vs = vs') : Ary Z h a ty vs' := q ▸ F
theorem Ary.set {h h' : Heap} {a : Addr} {ty : FieldType} {vs : List Value} {k : Nat} {v : Value} (F : Ary Z h a ty vs) (W : Wr h h' a k v) : Ary Z h' a ty (vs.set k v) := by
  obtain ⟨c, A, r⟩ := F
  refine ⟨_, A.same W, ?_⟩
  show c.slots.setIfInBounds k v = _
  rw [r]; simp
theorem clamp_of {j : Int32} {k : Nat} (hj : j.toInt = (k : Int)) : j.toNatClampNeg = k := by
  show j.toInt.toNat = k; omega
theorem inb {j : Int32} {k : Nat} {c : Cell} {vs : List Value} (hj : j.toInt = (k : Int)) (hc : c.slots = vs.toArray) (hk : k < vs.length) : ¬ (j < 0 ∨ c.slots.size ≤ j.toNatClampNeg) := by
  have z : (0 : Int32).toInt = 0 := rfl
  rw [clamp_of hj, hc, Int32.lt_iff_toInt_lt, z]; simp; omega
theorem lt_of_get {vs : List Value} {k : Nat} {v : Value} (h : vs[k]? = some v) : k < vs.length := (List.getElem?_eq_some_iff.mp h).1
theorem Go.newA {aty : ArrayType} {n : Int32} {k : Nat} {ty : FieldType} (w : (Cond.arrayClass ty).before a0 Z = true) (hty : newarray.typeOf aty = ty) (hn : n.toInt = (k : Int)) {cap : Nat} (hcap : k ≤ cap) (hb8 : cap * 8 ≤ 536870912) (hd : decode bytes pc = .ok (.newarray aty, 2)) (hc : cells + 1 ≤ R.cells) (hs : slots + cap ≤ R.slots) (hp : pc + 2 = pc')
    (q : ∀ (h' : Heap) (a : Addr), a = h.size → Ext h h' → Ary Z h' a ty (List.replicate k (defaultValue ty)) → Go wd l R Z y bytes maxL ret n0 K N Q h' (cells + 1) (slots + cap) pc' Ls (.ref a :: st)) : Go wd l R Z y bytes maxL ret n0 K N Q h cells slots pc Ls (.int n :: st) := by
  subst hp hty
  intro p e s0 s m args below meth c T locs hR O X eT F
  have z : (0 : Int32).toInt = 0 := rfl
  have hn0 : ¬ n < 0 := by rw [Int32.lt_iff_toInt_lt, z]; omega
  obtain ⟨T2, h2, cA, X2, e2, E2, A2, st2⟩ := RoadKit.newP X O.1 O.2.2.2.2.2.1 w eT (g := mkF m pc Ls (.int n :: st)) rfl (hb O.2.1 hd) rfl hn0 (cap := cap) (by rw [clamp_of hn]; exact hcap) hb8 hc hs
  obtain ⟨s₂, o, h1, r⟩ := q h2 _ rfl E2 ⟨_, A2, by simp [RoadKit.newA, clamp_of hn]⟩ p e s0 s m args below meth c T2 locs (hR.mono E2.1) O X2 e2 F
  exact ⟨s₂, o, st2 _ h1, r⟩
theorem Go.alen {a : Addr} {ty : FieldType} {vs : List Value} {z : Int32} (hA : Ary Z h a ty vs) (hz : z.toInt = (vs.length : Int)) (hd : decode bytes pc = .ok (.arraylength, 1)) (hp : pc + 1 = pc') (q : Go wd l R Z y bytes maxL ret n0 K N Q h cells slots pc' Ls (.int z :: st)) : Go wd l R Z y bytes maxL ret n0 K N Q h cells slots pc Ls (.ref a :: st) := by
  subst hp
  obtain ⟨cl, A, r⟩ := hA
  have e1 : cl.slots.size.toInt32 = z := by
    have := z.toInt_lt
    rw [r]; apply Int32.toInt_inj.mp
    rw [hz]
    have q1 : vs.toArray.size = vs.length := by simp
    rw [q1]; exact len_toInt (by omega)
  exact Go.of q fun p e s m args below meth c T locs O X eT t hr => X.arraylength O.1 (cell := cl) (by rw [eT]; exact A.1) (State.isArrayOf_alike O.2.2.2.2.2.1.alike A.2.1) (g := mkF m pc Ls (.ref a :: st)) rfl (rest := st) rfl (hb O.2.1 hd) _ (by rw [e1]; exact hr)
theorem Go.ldI {a : Addr} {vs : List Value} {j : Int32} {k : Nat} {v : Value} (hA : Ary Z h a .int vs) (hj : j.toInt = (k : Int)) (hv : vs[k]? = some v) (hd : decode bytes pc = .ok (.iaload, 1)) (hp : pc + 1 = pc') (q : Go wd l R Z y bytes maxL ret n0 K N Q h cells slots pc' Ls (v :: st)) : Go wd l R Z y bytes maxL ret n0 K N Q h cells slots pc Ls (.int j :: .ref a :: st) := by
  subst hp
  obtain ⟨cl, A, r⟩ := hA
  exact Go.of q fun p e s m args below meth c T locs O X eT t hr => X.iaload O.1 (j := j) (v := v) (by rw [eT]; exact A.1) (State.isArrayOf_alike O.2.2.2.2.2.1.alike A.2.1) A.2.2 (inb hj r (lt_of_get hv)) (by rw [clamp_of hj, r]; simpa using hv) (g := mkF m pc Ls (.int j :: .ref a :: st)) rfl rfl (hb O.2.1 hd) _ hr
theorem Go.ldJ {a : Addr} {vs : List Value} {j : Int32} {k : Nat} {v : Value} (hA : Ary Z h a .long vs) (hj : j.toInt = (k : Int)) (hv : vs[k]? = some v) (hd : decode bytes pc = .ok (.laload, 1)) (hp : pc + 1 = pc') (q : Go wd l R Z y bytes maxL ret n0 K N Q h cells slots pc' Ls (v :: st)) : Go wd l R Z y bytes maxL ret n0 K N Q h cells slots pc Ls (.int j :: .ref a :: st) := by
  subst hp
  obtain ⟨cl, A, r⟩ := hA
  exact Go.of q fun p e s m args below meth c T locs O X eT t hr => X.laload O.1 (j := j) (v := v) (by rw [eT]; exact A.1) (State.isArrayOf_alike O.2.2.2.2.2.1.alike A.2.1) A.2.2 (inb hj r (lt_of_get hv)) (by rw [clamp_of hj, r]; simpa using hv) (g := mkF m pc Ls (.int j :: .ref a :: st)) rfl rfl (hb O.2.1 hd) _ hr
theorem Go.ldC {a : Addr} {vs : List Value} {j : Int32} {k : Nat} {v : Value} (hA : Ary Z h a .char vs) (hj : j.toInt = (k : Int)) (hv : vs[k]? = some v) (hd : decode bytes pc = .ok (.caload, 1)) (hp : pc + 1 = pc') (q : Go wd l R Z y bytes maxL ret n0 K N Q h cells slots pc' Ls (v :: st)) : Go wd l R Z y bytes maxL ret n0 K N Q h cells slots pc Ls (.int j :: .ref a :: st) := by
  subst hp
  obtain ⟨cl, A, r⟩ := hA
  exact Go.of q fun p e s m args below meth c T locs O X eT t hr => X.caload O.1 (j := j) (v := v) (by rw [eT]; exact A.1) (State.isArrayOf_alike O.2.2.2.2.2.1.alike A.2.1) A.2.2 (inb hj r (lt_of_get hv)) (by rw [clamp_of hj, r]; simpa using hv) (g := mkF m pc Ls (.int j :: .ref a :: st)) rfl rfl (hb O.2.1 hd) _ hr
theorem Go.ldA {a : Addr} {ty : FieldType} {vs : List Value} {j : Int32} {k : Nat} {v : Value} (hA : Ary Z h a ty vs) (hty : ty.isReference = true) (hj : j.toInt = (k : Int)) (hv : vs[k]? = some v) (hd : decode bytes pc = .ok (.aaload, 1)) (hp : pc + 1 = pc') (q : Go wd l R Z y bytes maxL ret n0 K N Q h cells slots pc' Ls (v :: st)) : Go wd l R Z y bytes maxL ret n0 K N Q h cells slots pc Ls (.int j :: .ref a :: st) := by
  subst hp
  obtain ⟨cl, A, r⟩ := hA
  exact Go.of q fun p e s m args below meth c T locs O X eT t hr => X.aaload O.1 (j := j) (v := v) (by rw [eT]; exact A.1) (State.isArrayOf_alike O.2.2.2.2.2.1.alike A.2.1) hty A.2.2 (inb hj r (lt_of_get hv)) (by rw [clamp_of hj, r]; simpa using hv) (g := mkF m pc Ls (.int j :: .ref a :: st)) rfl rfl (hb O.2.1 hd) _ hr
theorem Go.stI {a : Addr} {vs : List Value} {j v : Int32} {k : Nat} (hA : Ary Z h a .int vs) (hj : j.toInt = (k : Int)) (hk : k < vs.length) (hd : decode bytes pc = .ok (.iastore, 1)) (ha : n0 ≤ a) (hp : pc + 1 = pc')
    (q : ∀ h', Wr h h' a k (.int v) → Ary Z h' a .int (vs.set k (.int v)) → Go wd l R Z y bytes maxL ret n0 K N Q h' cells slots pc' Ls st) : Go wd l R Z y bytes maxL ret n0 K N Q h cells slots pc Ls (.int v :: .int j :: .ref a :: st) := by
  subst hp
  have hA' := hA
  obtain ⟨cl, A, r⟩ := hA
  intro p e s0 s m args below meth c T locs hR O X eT F
  obtain ⟨T2, h2, X2, e2, W2, st2⟩ := RoadKit.stI X O.1 O.2.2.2.2.2.1 eT A (j := j) (x := v) (inb hj r hk) (g := mkF m pc Ls (.int v :: .int j :: .ref a :: st)) rfl rfl (hb O.2.1 hd)
  rw [clamp_of hj] at X2 W2
  obtain ⟨s₂, o, h1, r⟩ := q h2 W2 (hA'.set W2) p e s0 s m args below meth c T2 _ (hR.mono (Nat.le_of_eq W2.size.symm)) O X2 e2 (Fr.snoc X2 F ha)
  exact ⟨s₂, o, st2 _ h1, r⟩
theorem Go.stJ {a : Addr} {vs : List Value} {j : Int32} {v : Int64} {k : Nat} (hA : Ary Z h a .long vs) (hj : j.toInt = (k : Int)) (hk : k < vs.length) (hd : decode bytes pc = .ok (.lastore, 1)) (ha : n0 ≤ a) (hp : pc + 1 = pc')
    (q : ∀ h', Wr h h' a k (.long v) → Ary Z h' a .long (vs.set k (.long v)) → Go wd l R Z y bytes maxL ret n0 K N Q h' cells slots pc' Ls st) : Go wd l R Z y bytes maxL ret n0 K N Q h cells slots pc Ls (.long v :: .int j :: .ref a :: st) := by
  subst hp
  have hA' := hA
  obtain ⟨cl, A, r⟩ := hA
  intro p e s0 s m args below meth c T locs hR O X eT F
  obtain ⟨T2, h2, X2, e2, W2, st2⟩ := RoadKit.stJ X O.1 O.2.2.2.2.2.1 eT A (j := j) (x := v) (inb hj r hk) (g := mkF m pc Ls (.long v :: .int j :: .ref a :: st)) rfl rfl (hb O.2.1 hd)
  rw [clamp_of hj] at X2 W2
  obtain ⟨s₂, o, h1, r⟩ := q h2 W2 (hA'.set W2) p e s0 s m args below meth c T2 _ (hR.mono (Nat.le_of_eq W2.size.symm)) O X2 e2 (Fr.snoc X2 F ha)
  exact ⟨s₂, o, st2 _ h1, r⟩
theorem Go.stC {a : Addr} {vs : List Value} {j v : Int32} {k : Nat} (hA : Ary Z h a .char vs) (hj : j.toInt = (k : Int)) (hk : k < vs.length) (hd : decode bytes pc = .ok (.castore, 1)) (ha : n0 ≤ a) (hp : pc + 1 = pc')
    (q : ∀ h', Wr h h' a k (.int (nar .char v)) → Ary Z h' a .char (vs.set k (.int (nar .char v))) → Go wd l R Z y bytes maxL ret n0 K N Q h' cells slots pc' Ls st) : Go wd l R Z y bytes maxL ret n0 K N Q h cells slots pc Ls (.int v :: .int j :: .ref a :: st) := by
  subst hp
  have hA' := hA
  obtain ⟨cl, A, r⟩ := hA
  intro p e s0 s m args below meth c T locs hR O X eT F
  obtain ⟨T2, h2, X2, e2, W2, st2⟩ := RoadKit.stC X O.1 O.2.2.2.2.2.1 eT A (j := j) (x := v) (inb hj r hk) (g := mkF m pc Ls (.int v :: .int j :: .ref a :: st)) rfl rfl (hb O.2.1 hd)
  rw [clamp_of hj] at X2 W2
  obtain ⟨s₂, o, h1, r⟩ := q h2 W2 (hA'.set W2) p e s0 s m args below meth c T2 _ (hR.mono (Nat.le_of_eq W2.size.symm)) O X2 e2 (Fr.snoc X2 F ha)
  exact ⟨s₂, o, st2 _ h1, r⟩
/-! a method by its contract -/
def Mt (wd : Wd) (l : Launch) (Z : State) (y : MethodName) (bytes : ByteArray) (maxL : Nat) (ret : Option FieldType) (rm : Room) (n0 : Nat) (Q : Option Value → Heap → Prop) (h : Heap) (as' : Array Value) : Prop :=
  MetFree l y (head1 [Cond.code y bytes maxL ret] rm) (fun a U => a = as' ∧ Z.Warmed39 U.vm ∧ U.heap = h) (fun _ _ _ _ _ => True) (fun _ U o U' => ∃ v L, o = .returned v ∧ ((Q v U'.heap ∧ h.size ≤ U'.heap.size) ∧ Fr n0 L) ∧ GoEnd wd U o U' L rm.cells rm.slots)
theorem met_go {rm : Room} {ws : List Jvm.Cond} {as' : Array Value} (hp : plainFor y = true) (hef : ∀ m, entryFrame m as' maxL = mkF m 0 Ls []) (g : Go wd l rm Z y bytes maxL ret n0 K N Q h 0 0 0 Ls []) (hpw : Plain wd := by first | exact plain_n | exact plain_w) :
    MetFree l y (head1 (Jvm.Cond.code y bytes maxL ret :: ws) rm) (fun a U => a = as' ∧ Z.Warmed39 U.vm ∧ U.heap = h) (fun _ _ _ _ _ => True) (fun _ U o U' => ∃ v L, o = .returned v ∧ ((Q v U'.heap ∧ h.size ≤ U'.heap.size) ∧ Fr n0 L) ∧ GoEnd wd U o U' L K N) := by
  refine MetFree.of_bodySF hp hisR ?_
  intro p e s m args below meth c s₁ Bd hml0 hP hK
  obtain ⟨rfl, hZ, hh⟩ := hP
  have O : Own Z y bytes maxL ret p s m meth c := ⟨Bd.exec, Bd.bytes, hml0, findClass_of_methodNamed Bd.named, (name_of_methodNamed Bd.named Bd.method).1, hZ, Bd.returns, Bd.notSynchronized⟩
  have X0 : Stand p l e rm s m args below meth c s₁ [] 0 0 := Stand.of_body Bd
  have e0 : s₁.heap = h := by rw [← hh, Bd.state]; rfl
  obtain ⟨s₂, o, h1, h2, h3, v, L, h4, h5, h6⟩ := g p e s s m args below meth c s₁ [] (hpw.1 _ _) O X0 e0 (Fr.nil n0)
  exact ⟨s₂, o, castTop (hef m) h1, h2, h3, v, L, h4, ⟨⟨h5.1, hh ▸ h6.grow⟩, (hpw.2 n0) ▸ h5.2⟩, h6⟩
theorem Mt.go {rm : Room} {as' : Array Value} (hp : plainFor y = true) (hef : ∀ m, entryFrame m as' maxL = mkF m 0 Ls []) (g : Go wd l rm Z y bytes maxL ret n0 rm.cells rm.slots Q h 0 0 0 Ls []) (hpw : Plain wd := by first | exact plain_n | exact plain_w) : Mt wd l Z y bytes maxL ret rm n0 Q h as' := met_go (ws := []) hp hef g hpw
variable {y2 : MethodName} {bytes2 : ByteArray} {maxL2 : Nat} {ret2 : Option FieldType} {rm : Room} {i W : Nat} {as' : Array Value} {argsL rest : List Value} {Q2 : Option Value → Heap → Prop} {ps : List FieldType} {r2 : Option FieldType}
theorem Go.callS (w1 : (Cond.methodLink y.cls i y2).before a0 Z = true) (w2 : (Cond.static y2).before a0 Z = true) (w3 : (Cond.initialized y2.cls).before a0 Z = true) (w4 : (Cond.code y2 bytes2 maxL2 ret2).before a0 Z = true) (hy : y2.cls ≠ "java/lang/invoke/MethodHandle" ∧ y2.cls ≠ "java/lang/invoke/VarHandle")
    (hM : Mt .n l Z y2 bytes2 maxL2 ret2 rm n0 Q2 h argsL.toArray) (hd : decode bytes pc = .ok (.invokestatic i, 3)) (hz : Ls.size = maxL) (hpd : parseMethodDescriptor y2.desc = some ⟨ps, r2⟩) (hlen : argsL.length = ps.length) (hst : st = argsL.reverse ++ rest)
    (hW : (rest.map fun v => v.category).sum ≤ W) (hf : rm.frames + 1 ≤ R.frames) (hl : W + (maxL2 + 11) + rm.locals ≤ R.locals) (hc : cells + rm.cells ≤ R.cells) (hs : slots + rm.slots ≤ R.slots) (hp : pc + 3 = pc')
    (q : ∀ v h', Q2 v h' → Go wd l R Z y bytes maxL ret n0 K N Q h' (cells + rm.cells) (slots + rm.slots) pc' Ls (v.toList ++ rest)) : Go wd l R Z y bytes maxL ret n0 K N Q h cells slots pc Ls st := by
  subst hp hst
  intro p e s0 s m args below meth c T locs hR O X eT F
  obtain ⟨v, vm₁, ⟨T2, L2, k2, n2⟩, -, X2, ⟨Lc, hQ, l2, y2, z2⟩, st2⟩ := Jvm.LawKit.callS X O.1 (y := y2) O.2.2.2.1 (mvT O.2.2.2.2.2.1 w1) (mvT O.2.2.2.2.2.1 w2) (mvT O.2.2.2.2.2.1 w3) (mvT O.2.2.2.2.2.1 w4) hy
    (backOf (W := W) (Q := fun v h' L => (Q2 v h' ∧ h.size ≤ h'.size) ∧ Fr n0 L) hM O.2.2.2.2.2.1 w4 w3 hf hl) (g := mkF m pc Ls (argsL.reverse ++ rest)) rfl (hz.trans O.2.2.1.symm) (argsL := argsL) (rest := rest) (lenOf hpd hlen) rfl (by show 2 * 0 + _ ≤ _; omega) (hb O.2.1 hd) (fun _ _ => ⟨rfl, eT, hc, hs⟩)
  dsimp only [Pt.U, Pt.locs, Pt.cells, Pt.slots] at X2 l2 y2 z2 st2 hQ
  subst l2 y2 z2
  obtain ⟨s₂, o, h1, r⟩ := q v T2.heap hQ.1.1 p e s0 s m args below meth c T2 _ (hR.mono hQ.1.2) O X2 rfl (Fr.app F hQ.2)
  exact ⟨s₂, o, st2 _ h1, r⟩
theorem Go.callN {a : Addr} (hy1 : y2.name = "<init>") (w1 : (Cond.methodLink y.cls i y2).before a0 Z = true) (w2 : (Cond.instanceMethod y2).before a0 Z = true) (w3 : (Cond.initialized y2.cls).before a0 Z = true) (w4 : (Cond.code y2 bytes2 maxL2 none).before a0 Z = true) (hy : y2.cls ≠ "java/lang/invoke/MethodHandle" ∧ y2.cls ≠ "java/lang/invoke/VarHandle")
    (hM : Mt .n l Z y2 bytes2 maxL2 none rm n0 Q2 h (.ref a :: argsL).toArray) (hd : decode bytes pc = .ok (.invokespecial i, 3)) (hz : Ls.size = maxL) (hpd : parseMethodDescriptor y2.desc = some ⟨ps, r2⟩) (hlen : argsL.length = ps.length) (hst : st = argsL.reverse ++ .ref a :: rest)
    (hW : (rest.map fun v => v.category).sum ≤ W) (hf : rm.frames + 1 ≤ R.frames) (hl : W + (maxL2 + 11) + rm.locals ≤ R.locals) (hc : cells + rm.cells ≤ R.cells) (hs : slots + rm.slots ≤ R.slots) (hp : pc + 3 = pc')
    (q : ∀ v h', Q2 v h' → Go wd l R Z y bytes maxL ret n0 K N Q h' (cells + rm.cells) (slots + rm.slots) pc' Ls (v.toList ++ rest)) : Go wd l R Z y bytes maxL ret n0 K N Q h cells slots pc Ls st := by
  subst hp hst
  intro p e s0 s m args below meth c T locs hR O X eT F
  obtain ⟨v, vm₁, ⟨T2, L2, k2, n2⟩, -, X2, ⟨Lc, hQ, l2, y2, z2⟩, st2⟩ := X.specialBack O.1 (y := y2) hy1 O.2.2.2.1 (mvT O.2.2.2.2.2.1 w1) (mvT O.2.2.2.2.2.1 w2) (mvT O.2.2.2.2.2.1 w4) hy
    (backOf (W := W) (Q := fun v h' L => (Q2 v h' ∧ h.size ≤ h'.size) ∧ Fr n0 L) hM O.2.2.2.2.2.1 w4 w3 hf hl) (g := mkF m pc Ls (argsL.reverse ++ .ref a :: rest)) rfl (hz.trans O.2.2.1.symm) (Steps.refl _) (a := a) (argsL := argsL) (rest := rest) (lenOf hpd hlen) rfl (by show 2 * 0 + _ ≤ _; omega) (hb O.2.1 hd) (fun _ _ => ⟨rfl, eT, hc, hs⟩)
  dsimp only [Pt.U, Pt.locs, Pt.cells, Pt.slots] at X2 l2 y2 z2 st2 hQ
  subst l2 y2 z2
  obtain ⟨s₂, o, h1, r⟩ := q v T2.heap hQ.1.1 p e s0 s m args below meth c T2 _ (hR.mono hQ.1.2) O X2 rfl (Fr.app F hQ.2)
  exact ⟨s₂, o, st2.trans h1, r⟩
theorem Go.callV {a : Addr} {C : String} (w1 : (Cond.methodLink y.cls i y2).before a0 Z = true) (w2 : (Cond.declares y2).before a0 Z = true) (w5 : (Cond.selects C y2 y2).before a0 Z = true) (w6 : (Cond.instanceMethod y2).before a0 Z = true) (w3 : (Cond.initialized y2.cls).before a0 Z = true) (w4 : (Cond.code y2 bytes2 maxL2 ret2).before a0 Z = true)
    (hy : y2.cls ≠ "java/lang/invoke/MethodHandle" ∧ y2.cls ≠ "java/lang/invoke/VarHandle") (hE : Exa Z h a C)
    (hM : Mt .n l Z y2 bytes2 maxL2 ret2 rm n0 Q2 h (.ref a :: argsL).toArray) (hd : decode bytes pc = .ok (.invokevirtual i, 3)) (hz : Ls.size = maxL) (hpd : parseMethodDescriptor y2.desc = some ⟨ps, r2⟩) (hlen : argsL.length = ps.length) (hst : st = argsL.reverse ++ .ref a :: rest)
    (hW : (rest.map fun v => v.category).sum ≤ W) (hf : rm.frames + 1 ≤ R.frames) (hl : W + (maxL2 + 11) + rm.locals ≤ R.locals) (hc : cells + rm.cells ≤ R.cells) (hs : slots + rm.slots ≤ R.slots) (hp : pc + 3 = pc')
    (q : ∀ v h', Q2 v h' → Go wd l R Z y bytes maxL ret n0 K N Q h' (cells + rm.cells) (slots + rm.slots) pc' Ls (v.toList ++ rest)) : Go wd l R Z y bytes maxL ret n0 K N Q h cells slots pc Ls st := by
  subst hp hst
  intro p e s0 s m args below meth c T locs hR O X eT F
  obtain ⟨cq, kq, qa, qb, qc⟩ := isOf (T := T) O.2.2.2.2.2.1 eT hE
  obtain ⟨v, vm₁, ⟨T2, L2, k2, n2⟩, -, X2, ⟨Lc, hQ, l2, y2, z2⟩, st2⟩ := X.virtualBack O.1 (y := y2) (z := y2) O.2.2.2.1 (mvT O.2.2.2.2.2.1 w1) (mvT O.2.2.2.2.2.1 w2) (notFace_of_selects (args := #[]) (mvT O.2.2.2.2.2.1 w5)) (mvT O.2.2.2.2.2.1 w5) (mvT O.2.2.2.2.2.1 w6) hy
    (backOf (W := W) (Q := fun v h' L => (Q2 v h' ∧ h.size ≤ h'.size) ∧ Fr n0 L) hM O.2.2.2.2.2.1 w4 w3 hf hl) qa qc (g := mkF m pc Ls (argsL.reverse ++ .ref a :: rest)) rfl (hz.trans O.2.2.1.symm) (Steps.refl _) (argsL := argsL) (rest := rest) (lenOf hpd hlen) rfl (by show 2 * 0 + _ ≤ _; omega) (hb O.2.1 hd) (fun _ _ => ⟨rfl, eT, hc, hs⟩)
  dsimp only [Pt.U, Pt.locs, Pt.cells, Pt.slots] at X2 l2 y2 z2 st2 hQ
  subst l2 y2 z2
  obtain ⟨s₂, o, h1, r⟩ := q v T2.heap hQ.1.1 p e s0 s m args below meth c T2 _ (hR.mono hQ.1.2) O X2 rfl (Fr.app F hQ.2)
  exact ⟨s₂, o, st2.trans h1, r⟩
end GoLaws
end Jvm.RoadKit
namespace Jvm.RoadKit
open Sem ClassFile Op Lib Jvm.Stand Jvm.Free Jvm.LawKit
section GoPriv
variable {wd : Wd} {l : Launch} {R : Room} {Z : State} {y : MethodName} {bytes : ByteArray} {maxL : Nat} {ret : Option FieldType} {n0 K N : Nat} {Q : Option Value → Heap → Prop} {h : Heap} {cells slots pc pc' : Nat} {Ls Ls' : Array Slot} {st st' : List Value} {a0 : Array Value}
variable {y2 : MethodName} {bytes2 : ByteArray} {maxL2 : Nat} {ret2 : Option FieldType} {rm : Room} {i W : Nat} {as' : Array Value} {argsL rest : List Value} {Q2 : Option Value → Heap → Prop} {ps : List FieldType} {r2 : Option FieldType}
/-- invokevirtual of a private method; that its class is no interface comes out of another word on that class -/
theorem Go.callP {a : Addr} {C C3 : String} {y4 y5 : MethodName} (w1 : (Cond.methodLink y.cls i y2).before a0 Z = true) (w6 : (Cond.instanceMethod y2).before a0 Z = true) (w7 : (Cond.privateMethod y2).before a0 Z = true) (w3 : (Cond.initialized y2.cls).before a0 Z = true) (w4 : (Cond.code y2 bytes2 maxL2 ret2).before a0 Z = true) (w8 : (Cond.selects C3 y4 y5).before a0 Z = true) (h5 : y5.cls = y2.cls)
    (hy : y2.cls ≠ "java/lang/invoke/MethodHandle" ∧ y2.cls ≠ "java/lang/invoke/VarHandle") (hE : Exa Z h a C)
    (hM : Mt .n l Z y2 bytes2 maxL2 ret2 rm n0 Q2 h (.ref a :: argsL).toArray) (hd : decode bytes pc = .ok (.invokevirtual i, 3)) (hz : Ls.size = maxL) (hpd : parseMethodDescriptor y2.desc = some ⟨ps, r2⟩) (hlen : argsL.length = ps.length) (hst : st = argsL.reverse ++ .ref a :: rest)
    (hW : (rest.map fun v => v.category).sum ≤ W) (hf : rm.frames + 1 ≤ R.frames) (hl : W + (maxL2 + 11) + rm.locals ≤ R.locals) (hc : cells + rm.cells ≤ R.cells) (hs : slots + rm.slots ≤ R.slots) (hp : pc + 3 = pc')
    (q : ∀ v h', Q2 v h' → Go wd l R Z y bytes maxL ret n0 K N Q h' (cells + rm.cells) (slots + rm.slots) pc' Ls (v.toList ++ rest)) : Go wd l R Z y bytes maxL ret n0 K N Q h cells slots pc Ls st := by
  subst hp hst
  intro p e s0 s m args below meth c T locs hR O X eT F
  obtain ⟨cq, q1, q2⟩ := hE.cell
  have hsel0 : (Cond.selects C3 y4 y5).before args s = true := mvT O.2.2.2.2.2.1 w8
  obtain ⟨c2, rr, m2, -, -, q3, -, kP, hkP, hkPi⟩ := Cond.selects_spec hsel0
  have hcc := findClass_of_methodNamed q3
  rw [h5] at hcc
  have hpriv := Cond.privateMethod_at (mvP (args := #[]) O.2.2.2.2.2.1 w7)
  have hinst : (Cond.instanceMethod y2).before args s = true := mvT O.2.2.2.2.2.1 w6
  have hsel : (Cond.selects y2.cls y2 y2).before args s = true := selects_self_of_private hcc hkP hkPi hpriv hinst hy
  obtain ⟨v, vm₁, ⟨T2, L2, k2, n2⟩, -, X2, ⟨Lc, hQ, l2, y2, z2⟩, st2⟩ := X.privateBack O.1 (y := y2) O.2.2.2.1 (mvT O.2.2.2.2.2.1 w1) hinst hsel hpriv (mvT O.2.2.2.2.2.1 w4) hy
    (backOf (W := W) (Q := fun v h' L => (Q2 v h' ∧ h.size ≤ h'.size) ∧ Fr n0 L) hM O.2.2.2.2.2.1 w4 w3 hf hl) (g := mkF m pc Ls (argsL.reverse ++ .ref a :: rest)) rfl (hz.trans O.2.2.1.symm) (Steps.refl _) (a := a) (by rw [eT]; exact q1) q2 (argsL := argsL) (rest := rest) (lenOf hpd hlen) rfl (by show 2 * 0 + _ ≤ _; omega) (hb O.2.1 hd) (fun _ _ => ⟨rfl, eT, hc, hs⟩)
  dsimp only [Pt.U, Pt.locs, Pt.cells, Pt.slots] at X2 l2 y2 z2 st2 hQ
  subst l2 y2 z2
  obtain ⟨s₂, o, h1, r⟩ := q v T2.heap hQ.1.1 p e s0 s m args below meth c T2 _ (hR.mono hQ.1.2) O X2 rfl (Fr.app F hQ.2)
  exact ⟨s₂, o, st2.trans h1, r⟩
end GoPriv
end Jvm.RoadKit
namespace Jvm.RoadKit
open Sem ClassFile Op Lib Jvm.Stand Jvm.Free Jvm.LawKit
section GoCopy
variable {wd : Wd} {l : Launch} {R : Room} {Z : State} {y : MethodName} {bytes : ByteArray} {maxL : Nat} {ret : Option FieldType} {n0 K N : Nat} {Q : Option Value → Heap → Prop} {h : Heap} {cells slots pc pc' : Nat} {Ls Ls' : Array Slot} {st st' : List Value} {a0 : Array Value}
theorem Ary.arv {h : Heap} {a : Addr} {ty : FieldType} {vs : List Value} {z : Int32} (F : Ary Z h a ty vs) (hz : z.toInt = (vs.length : Int)) (hf : ∀ v ∈ vs, fits ty v = true) (dv : Value) : ∃ k, Arv Z h a k ty z vs dv := by
  obtain ⟨c, A, r⟩ := F
  have z0 : (0 : Int32).toInt = 0 := rfl
  have sz : c.slots.size = vs.length := by rw [r]; simp
  refine ⟨c.cls, c, A, rfl, by rw [sz, clamp_of hz], by rw [Int32.lt_iff_toInt_lt, z0]; omega, fun k hk => ?_, fun i hi => ?_⟩
  · rw [sz] at hk
    rw [r, List.getD_eq_getElem?_getD, List.getElem?_eq_getElem hk]; simp [hk]
  · rw [sz] at hi
    rw [List.getD_eq_getElem?_getD, List.getElem?_eq_getElem hi]
    exact hf _ (List.getElem_mem hi)
theorem Arv.ary {h : Heap} {a : Addr} {k : ClassId} {ty : FieldType} {vs : List Value} {z : Int32} {dv : Value} (F : Arv Z h a k ty z vs dv) (hz : z.toInt = (vs.length : Int)) : Ary Z h a ty vs := by
  obtain ⟨c, A, -, S, -, H, -⟩ := F
  rw [clamp_of hz] at S
  refine ⟨c, A, ?_⟩
  apply Array.ext_getElem?
  intro i
  by_cases hi : i < vs.length
  · rw [H i (by omega), List.getD_eq_getElem?_getD, List.getElem?_eq_getElem hi]; simp [hi]
  · rw [Array.getElem?_eq_none (by omega), Array.getElem?_eq_none (by simp; omega)]
theorem Go.acopy {i W i1 i2 k : Nat} {a b : Addr} {ty : FieldType} {vs vd res : List Value} {sp dp nn za zb : Int32}
    (w1 : (Cond.methodLink y.cls i Jvm.Stand.acN).before a0 Z = true) (w2 : (Cond.native Jvm.Stand.acN).before a0 Z = true) (w3 : (Cond.static Jvm.Stand.acN).before a0 Z = true) (w4 : (Cond.initialized "java/lang/System").before a0 Z = true)
    (hA : Ary Z h a ty vs) (hB : Ary Z h b ty vd) (hk : refKind ty = false) (fA : ∀ v ∈ vs, fits ty v = true) (fB : ∀ v ∈ vd, fits ty v = true) (za1 : za.toInt = (vs.length : Int)) (zb1 : zb.toInt = (vd.length : Int))
    (e1 : sp.toInt = (i1 : Int)) (e2 : dp.toInt = (i2 : Int)) (e3 : nn.toInt = (k : Int)) (b1 : i1 + k ≤ vs.length) (b2 : i2 + k ≤ vd.length) (hr : vd.take i2 ++ (vs.drop i1).take k ++ vd.drop (i2 + k) = res) (ge : n0 ≤ b)
    (hd : decode bytes pc = .ok (.invokestatic i, 3)) (hz : Ls.size = maxL) (hf : 1 ≤ R.frames) (hW : (st.map fun v => v.category).sum ≤ W) (hlo : W + (nativeFrameWords "java/lang/System" "arraycopy" 5 + 11) ≤ R.locals) (hp : pc + 3 = pc')
    (q : ∀ h', Keep h h' [b] → Ary Z h' b ty res → Go wd l R Z y bytes maxL ret n0 K N Q h' cells slots pc' Ls st) : Go wd l R Z y bytes maxL ret n0 K N Q h cells slots pc Ls (.int nn :: .int dp :: .ref b :: .int sp :: .ref a :: st) := by
  subst hp hr
  have z0 : (0 : Int32).toInt = 0 := rfl
  obtain ⟨ka, A⟩ := hA.arv za1 fA .null
  obtain ⟨kb, B⟩ := hB.arv zb1 fB .null
  intro p e s0 s m args below meth c T locs hR O X eT F
  have hus : (vs.drop i1).take k = (List.range nn.toNatClampNeg).map fun j => vs.getD (sp.toNatClampNeg + j) .null := by
    rw [clamp_of e1, clamp_of e3]
    apply List.ext_getElem
    · simp; omega
    · intro j hj1 hj2
      simp at hj1 hj2
      simp [List.getElem?_eq_getElem (show i1 + j < vs.length by omega)]
  obtain ⟨T2, h2, L2, X2, e2', N2, K2, B2, st2⟩ := cpA (us := (vs.drop i1).take k) X O.1 O.2.2.2.2.2.1 O.2.2.2.1 w1 w2 w3 w4 eT A B (Or.inl ⟨rfl, hk⟩) (sp := sp) (dp := dp) (nn := nn) (by rw [Int32.lt_iff_toInt_lt, z0]; omega) (by rw [Int32.lt_iff_toInt_lt, z0]; omega) (by rw [Int32.lt_iff_toInt_lt, z0]; omega)
    (by rw [clamp_of e1, clamp_of e3, clamp_of za1]; exact b1) (by rw [clamp_of e2, clamp_of e3, clamp_of zb1]; exact b2) hus (by rw [clamp_of e2, clamp_of e3]; exact b2) F ge (g := mkF m pc Ls (.int nn :: .int dp :: .ref b :: .int sp :: .ref a :: st)) rfl (hz.trans O.2.2.1.symm) rfl (hb O.2.1 hd) hf (W := W) (by show 2 * 0 + _ ≤ _; omega) hlo
  rw [clamp_of e2, clamp_of e3] at B2
  obtain ⟨s₂, o, h1, r⟩ := q h2 K2 (B2.ary (by rw [zb1]; simp; omega)) p e s0 s m args below meth c T2 L2 (hR.mono K2.1) O X2 e2' N2
  exact ⟨s₂, o, st2 _ h1, r⟩
end GoCopy
end Jvm.RoadKit
namespace Jvm.RoadKit
open Sem ClassFile Op Lib Jvm.Stand Jvm.Free Jvm.LawKit
section GoArr
variable {wd : Wd} {l : Launch} {R : Room} {Z : State} {y : MethodName} {bytes : ByteArray} {maxL : Nat} {ret : Option FieldType} {n0 K N : Nat} {Q : Option Value → Heap → Prop} {h : Heap} {cells slots pc pc' : Nat} {Ls Ls' : Array Slot} {st st' : List Value} {a0 : Array Value}
theorem Go.newAE {aty : ArrayType} {n : Int32} {k : Nat} {ty : FieldType} {ad : String} (w : (Cond.arrayClass ty).before a0 Z = true) (hty : newarray.typeOf aty = ty) (had : "[" ++ ty.toString = ad) (hn : n.toInt = (k : Int)) {cap : Nat} (hcap : k ≤ cap) (hb8 : cap * 8 ≤ 536870912) (hd : decode bytes pc = .ok (.newarray aty, 2)) (hc : cells + 1 ≤ R.cells) (hs : slots + cap ≤ R.slots) (hp : pc + 2 = pc')
    (q : ∀ (h' : Heap) (a : Addr), a = h.size → Ext h h' → Ary Z h' a ty (List.replicate k (defaultValue ty)) → Exa Z h' a ad → Go wd l R Z y bytes maxL ret n0 K N Q h' (cells + 1) (slots + cap) pc' Ls (.ref a :: st)) : Go wd l R Z y bytes maxL ret n0 K N Q h cells slots pc Ls (.int n :: st) := by
  subst hp hty
  intro p e s0 s m args below meth c T locs hR O X eT F
  have z : (0 : Int32).toInt = 0 := rfl
  have hn0 : ¬ n < 0 := by rw [Int32.lt_iff_toInt_lt, z]; omega
  obtain ⟨T2, h2, cA, X2, e2, E2, A2, B2, st2⟩ := RoadKit.newPE X O.1 O.2.2.2.2.2.1 w eT (g := mkF m pc Ls (.int n :: st)) rfl (hb O.2.1 hd) rfl hn0 (cap := cap) (by rw [clamp_of hn]; exact hcap) hb8 hc hs had
  obtain ⟨s₂, o, h1, r⟩ := q h2 _ rfl E2 ⟨_, A2, by simp [RoadKit.newA, clamp_of hn]⟩ B2 p e s0 s m args below meth c T2 locs (hR.mono E2.1) O X2 e2 F
  exact ⟨s₂, o, st2 _ h1, r⟩
/-- the array at a is one of arrays of the class C -/
def Ova (Z : State) (h : Heap) (a : Addr) (ty : FieldType) (C : String) : Prop := ∃ cl : Cell, h[a]? = some cl ∧ OvrA Z cl.cls ty C
theorem Ova.sm {h h' : Heap} {a : Addr} {ty : FieldType} {C : String} (F : Ova Z h a ty C) (S : Sm h h' a) : Ova Z h' a ty C := by
  obtain ⟨c, A, r⟩ := F; exact ⟨c, S _ A, r⟩
theorem Ova.wr {h h' : Heap} {a b : Addr} {ty : FieldType} {C : String} {sl : Nat} {v : Value} (W : Wr h h' b sl v) (F : Ova Z h a ty C) : Ova Z h' a ty C := by
  obtain ⟨c, A, r⟩ := F
  obtain ⟨c', B, r2⟩ := (Keep.of_wr W).2.2 a c A
  exact ⟨c', B, by rw [r2.1]; exact r⟩
theorem Go.newRA {C ad : String} {i : Nat} {n : Int32} {k : Nat} {ty : FieldType} (hC : (FieldType.array ty).toString = C) (w1 : (Cond.classLink y.cls i C).before a0 Z = true) (w2 : (Cond.arrayOver (.array ty)).before a0 Z = true) (had : "[" ++ C = ad) (hn : n.toInt = (k : Int)) {cap : Nat} (hcap : k ≤ cap) (hb8 : cap * 8 ≤ 536870912) (hd : decode bytes pc = .ok (.anewarray i, 3)) (hc : cells + 1 ≤ R.cells) (hs : slots + cap ≤ R.slots) (hp : pc + 3 = pc')
    (q : ∀ (h' : Heap) (a : Addr), a = h.size → Ext h h' → Ary Z h' a (.array ty) (List.replicate k .null) → Ova Z h' a ty C → Go wd l R Z y bytes maxL ret n0 K N Q h' (cells + 1) (slots + cap) pc' Ls (.ref a :: st)) : Go wd l R Z y bytes maxL ret n0 K N Q h cells slots pc Ls (.int n :: st) := by
  subst hp
  intro p e s0 s m args below meth c T locs hR O X eT F
  have z : (0 : Int32).toInt = 0 := rfl
  have hn0 : ¬ n < 0 := by rw [Int32.lt_iff_toInt_lt, z]; omega
  obtain ⟨T2, h2, cA, X2, e2, E2, A2, B2, V2, st2⟩ := RoadKit.newRA X O.1 O.2.2.2.2.2.1 O.2.2.2.1 hC w1 w2 eT (g := mkF m pc Ls (.int n :: st)) rfl (hb O.2.1 hd) rfl hn0 (cap := cap) (by rw [clamp_of hn]; exact hcap) hb8 hc hs had
  obtain ⟨s₂, o, h1, r⟩ := q h2 _ rfl E2 ⟨_, A2, by simp [RoadKit.newA, clamp_of hn, defaultValue]⟩ ⟨_, A2.1, V2⟩ p e s0 s m args below meth c T2 locs (hR.mono E2.1) O X2 e2 F
  exact ⟨s₂, o, st2 _ h1, r⟩
theorem Go.stR {a : Addr} {vs : List Value} {j : Int32} {v : Value} {k : Nat} {ty : FieldType} (hA : Ary Z h a ty vs) (hty : ty.isReference = true) (hS : Sto Z h a v) (hj : j.toInt = (k : Int)) (hk : k < vs.length) (hd : decode bytes pc = .ok (.aastore, 1)) (ha : n0 ≤ a) (hp : pc + 1 = pc')
    (q : ∀ h', Wr h h' a k v → Ary Z h' a ty (vs.set k v) → Go wd l R Z y bytes maxL ret n0 K N Q h' cells slots pc' Ls st) : Go wd l R Z y bytes maxL ret n0 K N Q h cells slots pc Ls (v :: .int j :: .ref a :: st) := by
  subst hp
  have hA' := hA
  obtain ⟨cl, A, r⟩ := hA
  intro p e s0 s m args below meth c T locs hR O X eT F
  obtain ⟨T2, h2, X2, e2, W2, st2⟩ := RoadKit.stR X O.1 O.2.2.2.2.2.1 eT A (j := j) (v := v) (inb hj r hk) hty hS (g := mkF m pc Ls (v :: .int j :: .ref a :: st)) rfl rfl (hb O.2.1 hd)
  rw [clamp_of hj] at X2 W2
  obtain ⟨s₂, o, h1, r⟩ := q h2 W2 (hA'.set W2) p e s0 s m args below meth c T2 _ (hR.mono (Nat.le_of_eq W2.size.symm)) O X2 e2 (Fr.snoc X2 F ha)
  exact ⟨s₂, o, st2 _ h1, r⟩
theorem Sto.ova {a b : Addr} {ty ty0 : FieldType} {C : String} {vs : List Value} (A : Ary Z h a ty0 vs) (V : Ova Z h a ty C) (I : Exa Z h b C) : Sto Z h a (.ref b) := by
  obtain ⟨c, A, -⟩ := A
  obtain ⟨c', B, r⟩ := V
  cases A.1.symm.trans B
  exact Sto.ofVA A rfl r (Ins.self I)
end GoArr
end Jvm.RoadKit
namespace Jvm.RoadKit
open Sem ClassFile Op Lib Jvm.Stand Jvm.Free Jvm.LawKit
section GoClone
variable {wd : Wd} {l : Launch} {R : Room} {Z : State} {y : MethodName} {bytes : ByteArray} {maxL : Nat} {ret : Option FieldType} {n0 K N : Nat} {Q : Option Value → Heap → Prop} {h : Heap} {cells slots pc pc' : Nat} {Ls Ls' : Array Slot} {st st' : List Value} {a0 : Array Value}
theorem Go.clone {ad : String} {i W cap : Nat} {a : Addr} {ty : FieldType} {vs : List Value}
    (w1 : (Cond.methodLink y.cls i ⟨ad, "clone", "()Ljava/lang/Object;"⟩).before a0 Z = true) (w2 : (Cond.sameMethod ad "java/lang/Object" "clone" "()Ljava/lang/Object;").before a0 Z = true) (w3 : (Cond.native ⟨"java/lang/Object", "clone", "()Ljava/lang/Object;"⟩).before a0 Z = true)
    (w4 : (Cond.instanceMethod ⟨"java/lang/Object", "clone", "()Ljava/lang/Object;"⟩).before a0 Z = true) (w5 : (Cond.selects ad ⟨ad, "clone", "()Ljava/lang/Object;"⟩ ⟨"java/lang/Object", "clone", "()Ljava/lang/Object;"⟩).before a0 Z = true) (w6 : (Cond.castable ad "java/lang/Cloneable").before a0 Z = true)
    (hA : Ary Z h a ty vs) (hE : Exa Z h a ad) (hF : ∀ v ∈ vs, fits ty v = true) (hd : decode bytes pc = .ok (.invokevirtual i, 3)) (hz : Ls.size = maxL) (hf : 1 ≤ R.frames) (hW : (st.map fun v => v.category).sum ≤ W) (hl : W + 14 ≤ R.locals) (hcap : vs.length ≤ cap) (hc : cells + 1 ≤ R.cells) (hs : slots + cap ≤ R.slots) (hp : pc + 3 = pc')
    (q : ∀ (h' : Heap) (b : Addr), b = h.size → Ext h h' → Ary Z h' b ty vs → Exa Z h' b ad → Go wd l R Z y bytes maxL ret n0 K N Q h' (cells + 1) (slots + cap) pc' Ls (.ref b :: st)) : Go wd l R Z y bytes maxL ret n0 K N Q h cells slots pc Ls (.ref a :: st) := by
  subst hp
  obtain ⟨cl, A, r0⟩ := hA
  have FC : FitC Z cl := fitC_of A fun j hj v hv => by
    rw [r0] at hv
    exact hF v (List.mem_of_getElem? (by simpa using hv))
  intro p e s0 s m args below meth c T locs hR O X eT F
  obtain ⟨T2, h2, X2, e2, E2, A2, B2, st2⟩ := RoadKit.cloneA X O.1 O.2.2.2.2.2.1 O.2.2.2.1 w1 w2 w3 w4 w5 w6 eT A hE FC (g := mkF m pc Ls (.ref a :: st)) rfl (hz.trans O.2.2.1.symm) rfl (hb O.2.1 hd) hf (W := W) (cap := cap) (by show 2 * 0 + _ ≤ _; omega) hl (by rw [r0]; simpa using hcap) hc hs
  obtain ⟨s₂, o, h1, r⟩ := q h2 _ rfl E2 ⟨_, A2, r0⟩ B2 p e s0 s m args below meth c T2 locs (hR.mono E2.1) O X2 e2 F
  exact ⟨s₂, o, st2 _ h1, r⟩
theorem Go.castTo {C : String} {i : Nat} {a : Addr} (w : (Cond.classLink y.cls i C).before a0 Z = true) (hI : Ins Z h a C true) (hd : decode bytes pc = .ok (.checkcast i, 3)) (hp : pc + 3 = pc') (q : Go wd l R Z y bytes maxL ret n0 K N Q h cells slots pc' Ls (.ref a :: st)) : Go wd l R Z y bytes maxL ret n0 K N Q h cells slots pc Ls (.ref a :: st) := by
  subst hp
  intro p e s0 s m args below meth c T locs hR O X eT F
  obtain ⟨T2, X2, e2, st2⟩ := RoadKit.castY X O.1 O.2.2.2.2.2.1 O.2.2.2.1 w eT hI (g := mkF m pc Ls (.ref a :: st)) rfl rfl (hb O.2.1 hd)
  obtain ⟨s₂, o, h1, r⟩ := q p e s0 s m args below meth c T2 locs hR O X2 e2 F
  exact ⟨s₂, o, st2 _ h1, r⟩
end GoClone
end Jvm.RoadKit
namespace Jvm.RoadKit
open Sem ClassFile Op Lib Jvm.Stand Jvm.Free Jvm.LawKit
section GoWide
variable {l : Launch} {R : Room} {Z : State} {y : MethodName} {bytes : ByteArray} {maxL : Nat} {ret : Option FieldType} {n0 K N : Nat} {Q : Option Value → Heap → Prop} {h : Heap} {cells slots pc pc' : Nat} {Ls Ls' : Array Slot} {st st' : List Value} {a0 : Array Value}
variable {y2 : MethodName} {bytes2 : ByteArray} {maxL2 : Nat} {ret2 : Option FieldType} {rm : Room} {i W : Nat} {as' : Array Value} {argsL rest : List Value} {Q2 : Option Value → Heap → Prop} {ps : List FieldType} {r2 : Option FieldType}
/-- ldc of a String constant that may be loaded here for the first time; of the String nothing is said -/
theorem Go.ldcS {text : String} {n : Nat} (w : (Cond.stringLink y.cls i text).before a0 Z = true) (wS : ∀ a ∈ Bundle.stringAtoms, a.before a0 Z = true) (hd : decode bytes pc = .ok (.ldc i, 2)) (hn : 4 * text.toList.length ≤ n) (hbig : n ≤ 536870912) (hc : cells + 2 ≤ R.cells) (hl : slots + (n + 4) ≤ R.slots) (hp : pc + 2 = pc')
    (q : ∀ (h' : Heap) (a : Addr), Ext h h' → Go .w l R Z y bytes maxL ret n0 K N Q h' (cells + 2) (slots + (n + 4)) pc' Ls (.ref a :: st)) : Go .w l R Z y bytes maxL ret n0 K N Q h cells slots pc Ls st := by
  subst hp
  intro p e s0 s m args below meth c T locs hR O X eT F
  obtain ⟨vm0, k0, rfl, hS, hk⟩ := hR
  obtain ⟨a, T2, h2, k1, X2, e2, E2, S2, hk1, hZ2, hown2, st2⟩ := RoadKit.ldcS X O.1 O.2.2.2.2.2.1 O.2.2.2.1 w wS eT hS hk (g := mkF m pc Ls st) rfl (hb O.2.1 hd) hn hbig hc hl
  obtain ⟨s₂, o, h1, r⟩ := q h2 a E2 p e s0 (s0.setVm T2.vm) m args below meth c T2 locs ⟨T2.vm, k1, rfl, S2, hk1⟩ ⟨O.1, O.2.1, O.2.2.1, hown2, O.2.2.2.2.1, hZ2, O.2.2.2.2.2.2.1, O.2.2.2.2.2.2.2⟩ X2 e2 F
  exact ⟨s₂, o, st2 _ h1, r⟩
theorem Go.callSW (w1 : (Cond.methodLink y.cls i y2).before a0 Z = true) (w2 : (Cond.static y2).before a0 Z = true) (w3 : (Cond.initialized y2.cls).before a0 Z = true) (w4 : (Cond.code y2 bytes2 maxL2 ret2).before a0 Z = true) (hy : y2.cls ≠ "java/lang/invoke/MethodHandle" ∧ y2.cls ≠ "java/lang/invoke/VarHandle")
    (hM : Mt .w l Z y2 bytes2 maxL2 ret2 rm n0 Q2 h argsL.toArray) (hd : decode bytes pc = .ok (.invokestatic i, 3)) (hz : Ls.size = maxL) (hpd : parseMethodDescriptor y2.desc = some ⟨ps, r2⟩) (hlen : argsL.length = ps.length) (hst : st = argsL.reverse ++ rest)
    (hW : (rest.map fun v => v.category).sum ≤ W) (hf : rm.frames + 1 ≤ R.frames) (hl : W + (maxL2 + 11) + rm.locals ≤ R.locals) (hc : cells + rm.cells ≤ R.cells) (hs : slots + rm.slots ≤ R.slots) (hp : pc + 3 = pc')
    (q : ∀ v h', Q2 v h' → Go .w l R Z y bytes maxL ret n0 K N Q h' (cells + rm.cells) (slots + rm.slots) pc' Ls (v.toList ++ rest)) : Go .w l R Z y bytes maxL ret n0 K N Q h cells slots pc Ls st := by
  subst hp hst
  intro p e s0 s m args below meth c T locs hR O X eT F
  obtain ⟨vm0, k0, rfl, hS, hk⟩ := hR
  obtain ⟨v, vm₁, ⟨T2, L2, k2, n2⟩, -, X2, S2, g2, ⟨Lc, hQ, l2, y2, z2⟩, st2⟩ := RoadKit.callSS X O.1 (y := y2) O.2.2.2.1 (mvT O.2.2.2.2.2.1 w1) (mvT O.2.2.2.2.2.1 w2) (mvT O.2.2.2.2.2.1 w3) (mvT O.2.2.2.2.2.1 w4) hy
    (backOfS (W := W) (Q := fun v h' L => (Q2 v h' ∧ h.size ≤ h'.size) ∧ Fr n0 L) hM O.2.2.2.2.2.1 w4 w3 hf hl) (g := mkF m pc Ls (argsL.reverse ++ rest)) rfl (hz.trans O.2.2.1.symm) (argsL := argsL) (rest := rest) (lenOf hpd hlen) rfl (by show 2 * 0 + _ ≤ _; omega) (hb O.2.1 hd) (fun _ _ => ⟨rfl, eT, hc, hs⟩)
  dsimp only [Pt.U, Pt.locs, Pt.cells, Pt.slots] at X2 l2 y2 z2 st2 hQ S2 g2
  subst l2 y2 z2
  rw [eT] at g2
  obtain ⟨X3, S3, hZ3, hown3⟩ := rebS hS hk X2 S2 g2 O.2.2.2.2.2.1 O.2.2.2.1
  obtain ⟨s₂, o, h1, r⟩ := q v T2.heap hQ.1.1 p e s0 (s0.setVm T2.vm) m args below meth c T2 _ ⟨T2.vm, _, rfl, S3, Nat.le_refl _⟩ ⟨O.1, O.2.1, O.2.2.1, hown3, O.2.2.2.2.1, hZ3, O.2.2.2.2.2.2.1, O.2.2.2.2.2.2.2⟩ X3 rfl (Fr.app F hQ.2)
  exact ⟨s₂, o, st2.trans h1, r⟩
theorem Go.callNW {a : Addr} (hy1 : y2.name = "<init>") (w1 : (Cond.methodLink y.cls i y2).before a0 Z = true) (w2 : (Cond.instanceMethod y2).before a0 Z = true) (w3 : (Cond.initialized y2.cls).before a0 Z = true) (w4 : (Cond.code y2 bytes2 maxL2 none).before a0 Z = true) (hy : y2.cls ≠ "java/lang/invoke/MethodHandle" ∧ y2.cls ≠ "java/lang/invoke/VarHandle")
    (hM : Mt .w l Z y2 bytes2 maxL2 none rm n0 Q2 h (.ref a :: argsL).toArray) (hd : decode bytes pc = .ok (.invokespecial i, 3)) (hz : Ls.size = maxL) (hpd : parseMethodDescriptor y2.desc = some ⟨ps, r2⟩) (hlen : argsL.length = ps.length) (hst : st = argsL.reverse ++ .ref a :: rest)
    (hW : (rest.map fun v => v.category).sum ≤ W) (hf : rm.frames + 1 ≤ R.frames) (hl : W + (maxL2 + 11) + rm.locals ≤ R.locals) (hc : cells + rm.cells ≤ R.cells) (hs : slots + rm.slots ≤ R.slots) (hp : pc + 3 = pc')
    (q : ∀ v h', Q2 v h' → Go .w l R Z y bytes maxL ret n0 K N Q h' (cells + rm.cells) (slots + rm.slots) pc' Ls (v.toList ++ rest)) : Go .w l R Z y bytes maxL ret n0 K N Q h cells slots pc Ls st := by
  subst hp hst
  intro p e s0 s m args below meth c T locs hR O X eT F
  obtain ⟨vm0, k0, rfl, hS, hk⟩ := hR
  obtain ⟨v, vm₁, ⟨T2, L2, k2, n2⟩, -, X2, S2, g2, ⟨Lc, hQ, l2, y2, z2⟩, st2⟩ := X.specialBackS O.1 (y := y2) hy1 O.2.2.2.1 (mvT O.2.2.2.2.2.1 w1) (mvT O.2.2.2.2.2.1 w2) (mvT O.2.2.2.2.2.1 w4) hy
    (backOfS (W := W) (Q := fun v h' L => (Q2 v h' ∧ h.size ≤ h'.size) ∧ Fr n0 L) hM O.2.2.2.2.2.1 w4 w3 hf hl) (g := mkF m pc Ls (argsL.reverse ++ .ref a :: rest)) rfl (hz.trans O.2.2.1.symm) (Steps.refl _) (a := a) (argsL := argsL) (rest := rest) (lenOf hpd hlen) rfl (by show 2 * 0 + _ ≤ _; omega) (hb O.2.1 hd) (fun _ _ => ⟨rfl, eT, hc, hs⟩)
  dsimp only [Pt.U, Pt.locs, Pt.cells, Pt.slots] at X2 l2 y2 z2 st2 hQ S2 g2
  subst l2 y2 z2
  rw [eT] at g2
  obtain ⟨X3, S3, hZ3, hown3⟩ := rebS hS hk X2 S2 g2 O.2.2.2.2.2.1 O.2.2.2.1
  obtain ⟨s₂, o, h1, r⟩ := q v T2.heap hQ.1.1 p e s0 (s0.setVm T2.vm) m args below meth c T2 _ ⟨T2.vm, _, rfl, S3, Nat.le_refl _⟩ ⟨O.1, O.2.1, O.2.2.1, hown3, O.2.2.2.2.1, hZ3, O.2.2.2.2.2.2.1, O.2.2.2.2.2.2.2⟩ X3 rfl (Fr.app F hQ.2)
  exact ⟨s₂, o, st2.trans h1, r⟩
theorem Go.callVW {a : Addr} {C : String} (w1 : (Cond.methodLink y.cls i y2).before a0 Z = true) (w2 : (Cond.declares y2).before a0 Z = true) (w5 : (Cond.selects C y2 y2).before a0 Z = true) (w6 : (Cond.instanceMethod y2).before a0 Z = true) (w3 : (Cond.initialized y2.cls).before a0 Z = true) (w4 : (Cond.code y2 bytes2 maxL2 ret2).before a0 Z = true)
    (hy : y2.cls ≠ "java/lang/invoke/MethodHandle" ∧ y2.cls ≠ "java/lang/invoke/VarHandle") (hE : Exa Z h a C)
    (hM : Mt .w l Z y2 bytes2 maxL2 ret2 rm n0 Q2 h (.ref a :: argsL).toArray) (hd : decode bytes pc = .ok (.invokevirtual i, 3)) (hz : Ls.size = maxL) (hpd : parseMethodDescriptor y2.desc = some ⟨ps, r2⟩) (hlen : argsL.length = ps.length) (hst : st = argsL.reverse ++ .ref a :: rest)
    (hW : (rest.map fun v => v.category).sum ≤ W) (hf : rm.frames + 1 ≤ R.frames) (hl : W + (maxL2 + 11) + rm.locals ≤ R.locals) (hc : cells + rm.cells ≤ R.cells) (hs : slots + rm.slots ≤ R.slots) (hp : pc + 3 = pc')
    (q : ∀ v h', Q2 v h' → Go .w l R Z y bytes maxL ret n0 K N Q h' (cells + rm.cells) (slots + rm.slots) pc' Ls (v.toList ++ rest)) : Go .w l R Z y bytes maxL ret n0 K N Q h cells slots pc Ls st := by
  subst hp hst
  intro p e s0 s m args below meth c T locs hR O X eT F
  obtain ⟨vm0, k0, rfl, hS, hk⟩ := hR
  obtain ⟨cq, kq, qa, qb, qc⟩ := isOf (T := T) O.2.2.2.2.2.1 eT hE
  obtain ⟨v, vm₁, ⟨T2, L2, k2, n2⟩, -, X2, S2, g2, ⟨Lc, hQ, l2, y2, z2⟩, st2⟩ := X.virtualBackS O.1 (y := y2) (z := y2) O.2.2.2.1 (mvT O.2.2.2.2.2.1 w1) (mvT O.2.2.2.2.2.1 w2) (notFace_of_selects (args := #[]) (mvT O.2.2.2.2.2.1 w5)) (mvT O.2.2.2.2.2.1 w5) (mvT O.2.2.2.2.2.1 w6) hy
    (backOfS (W := W) (Q := fun v h' L => (Q2 v h' ∧ h.size ≤ h'.size) ∧ Fr n0 L) hM O.2.2.2.2.2.1 w4 w3 hf hl) qa qc (g := mkF m pc Ls (argsL.reverse ++ .ref a :: rest)) rfl (hz.trans O.2.2.1.symm) (Steps.refl _) (argsL := argsL) (rest := rest) (lenOf hpd hlen) rfl (by show 2 * 0 + _ ≤ _; omega) (hb O.2.1 hd) (fun _ _ => ⟨rfl, eT, hc, hs⟩)
  dsimp only [Pt.U, Pt.locs, Pt.cells, Pt.slots] at X2 l2 y2 z2 st2 hQ S2 g2
  subst l2 y2 z2
  rw [eT] at g2
  obtain ⟨X3, S3, hZ3, hown3⟩ := rebS hS hk X2 S2 g2 O.2.2.2.2.2.1 O.2.2.2.1
  obtain ⟨s₂, o, h1, r⟩ := q v T2.heap hQ.1.1 p e s0 (s0.setVm T2.vm) m args below meth c T2 _ ⟨T2.vm, _, rfl, S3, Nat.le_refl _⟩ ⟨O.1, O.2.1, O.2.2.1, hown3, O.2.2.2.2.1, hZ3, O.2.2.2.2.2.2.1, O.2.2.2.2.2.2.2⟩ X3 rfl (Fr.app F hQ.2)
  exact ⟨s₂, o, st2.trans h1, r⟩
theorem Go.callPW {a : Addr} {C C3 : String} {y4 y5 : MethodName} (w1 : (Cond.methodLink y.cls i y2).before a0 Z = true) (w6 : (Cond.instanceMethod y2).before a0 Z = true) (w7 : (Cond.privateMethod y2).before a0 Z = true) (w3 : (Cond.initialized y2.cls).before a0 Z = true) (w4 : (Cond.code y2 bytes2 maxL2 ret2).before a0 Z = true) (w8 : (Cond.selects C3 y4 y5).before a0 Z = true) (h5 : y5.cls = y2.cls)
    (hy : y2.cls ≠ "java/lang/invoke/MethodHandle" ∧ y2.cls ≠ "java/lang/invoke/VarHandle") (hE : Exa Z h a C)
    (hM : Mt .w l Z y2 bytes2 maxL2 ret2 rm n0 Q2 h (.ref a :: argsL).toArray) (hd : decode bytes pc = .ok (.invokevirtual i, 3)) (hz : Ls.size = maxL) (hpd : parseMethodDescriptor y2.desc = some ⟨ps, r2⟩) (hlen : argsL.length = ps.length) (hst : st = argsL.reverse ++ .ref a :: rest)
    (hW : (rest.map fun v => v.category).sum ≤ W) (hf : rm.frames + 1 ≤ R.frames) (hl : W + (maxL2 + 11) + rm.locals ≤ R.locals) (hc : cells + rm.cells ≤ R.cells) (hs : slots + rm.slots ≤ R.slots) (hp : pc + 3 = pc')
    (q : ∀ v h', Q2 v h' → Go .w l R Z y bytes maxL ret n0 K N Q h' (cells + rm.cells) (slots + rm.slots) pc' Ls (v.toList ++ rest)) : Go .w l R Z y bytes maxL ret n0 K N Q h cells slots pc Ls st := by
  subst hp hst
  intro p e s0 s m args below meth c T locs hR O X eT F
  obtain ⟨vm0, k0, rfl, hS, hk⟩ := hR
  obtain ⟨cq, q1, q2⟩ := hE.cell
  have hsel0 : (Cond.selects C3 y4 y5).before args (s0.setVm vm0) = true := mvT O.2.2.2.2.2.1 w8
  obtain ⟨c2, rr, m2, -, -, q3, -, kP, hkP, hkPi⟩ := Cond.selects_spec hsel0
  have hcc := findClass_of_methodNamed q3
  rw [h5] at hcc
  have hpriv := Cond.privateMethod_at (mvP (args := #[]) O.2.2.2.2.2.1 w7)
  have hinst : (Cond.instanceMethod y2).before args (s0.setVm vm0) = true := mvT O.2.2.2.2.2.1 w6
  have hsel : (Cond.selects y2.cls y2 y2).before args (s0.setVm vm0) = true := selects_self_of_private hcc hkP hkPi hpriv hinst hy
  obtain ⟨v, vm₁, ⟨T2, L2, k2, n2⟩, -, X2, S2, g2, ⟨Lc, hQ, l2, y2, z2⟩, st2⟩ := X.privateBackS O.1 (y := y2) O.2.2.2.1 (mvT O.2.2.2.2.2.1 w1) hinst hsel hpriv (mvT O.2.2.2.2.2.1 w4) hy
    (backOfS (W := W) (Q := fun v h' L => (Q2 v h' ∧ h.size ≤ h'.size) ∧ Fr n0 L) hM O.2.2.2.2.2.1 w4 w3 hf hl) (g := mkF m pc Ls (argsL.reverse ++ .ref a :: rest)) rfl (hz.trans O.2.2.1.symm) (Steps.refl _) (a := a) (by rw [eT]; exact q1) q2 (argsL := argsL) (rest := rest) (lenOf hpd hlen) rfl (by show 2 * 0 + _ ≤ _; omega) (hb O.2.1 hd) (fun _ _ => ⟨rfl, eT, hc, hs⟩)
  dsimp only [Pt.U, Pt.locs, Pt.cells, Pt.slots] at X2 l2 y2 z2 st2 hQ S2 g2
  subst l2 y2 z2
  rw [eT] at g2
  obtain ⟨X3, S3, hZ3, hown3⟩ := rebS hS hk X2 S2 g2 O.2.2.2.2.2.1 O.2.2.2.1
  obtain ⟨s₂, o, h1, r⟩ := q v T2.heap hQ.1.1 p e s0 (s0.setVm T2.vm) m args below meth c T2 _ ⟨T2.vm, _, rfl, S3, Nat.le_refl _⟩ ⟨O.1, O.2.1, O.2.2.1, hown3, O.2.2.2.2.1, hZ3, O.2.2.2.2.2.2.1, O.2.2.2.2.2.2.2⟩ X3 rfl (Fr.app F hQ.2)
  exact ⟨s₂, o, st2.trans h1, r⟩
end GoWide
end Jvm.RoadKit
namespace Jvm.RoadKit
open Sem ClassFile Op Lib Jvm.Stand Jvm.Free Jvm.LawKit
theorem IB.cong {Z : State} {vm vm' : Vm} {Ts : List String} (I : IB Z vm Ts) (e : vm'.interned = vm.interned) : IB Z vm' Ts := by
  obtain ⟨more, h1, h2⟩ := I; exact ⟨more, e.trans h1, h2⟩
theorem IB.mono {Z : State} {vm : Vm} {Ts Ts' : List String} (I : IB Z vm Ts) (hs : ∀ t ∈ Ts, t ∈ Ts') : IB Z vm Ts' := by
  obtain ⟨more, h1, h2⟩ := I
  exact ⟨more, h1, fun q hq => by obtain ⟨t, ht, hd⟩ := h2 q hq; exact ⟨t, hs t ht, hd⟩⟩
/-- the mode in which the texts loaded since the start are among Ts, and at the end among Ts' -/
theorem ibE {Z : State} {Ts Ts' : List String} (hs : ∀ t ∈ Ts, t ∈ Ts') : ∀ a b : Vm, b.interned = a.interned → IB Z a Ts → IB Z b Ts' := fun _ _ e I => (I.cong e).mono hs
theorem ibL {Z : State} {Ts Ts' : List String} {own : String} {i : Nat} {x : Addr} (hs : ∀ t ∈ Ts, t ∈ Ts') : ∀ a b : Vm, b.interned = a.interned → (IB Z a Ts ∧ Lit (Z.setVm a) own i x) → IB Z b Ts' := fun _ _ e I => (I.1.cong e).mono hs
section GoHeld
variable {l : Launch} {R : Room} {Z : State} {y : MethodName} {bytes : ByteArray} {maxL : Nat} {ret : Option FieldType} {n0 K N : Nat} {Q : Option Value → Heap → Prop} {h : Heap} {cells slots pc pc' : Nat} {Ls Ls' : Array Slot} {st st' : List Value} {a0 : Array Value}
variable {y2 : MethodName} {bytes2 : ByteArray} {maxL2 : Nat} {ret2 : Option FieldType} {rm : Room} {i W : Nat} {as' : Array Value} {argsL rest : List Value} {Q2 : Option Value → Heap → Prop} {ps : List FieldType} {r2 : Option FieldType} {P E : Vm → Prop} {hPE : ∀ a b : Vm, b.interned = a.interned → P a → E b} {hp : Heap} {nE : Nat} {Ts Ts' Te : List String}
theorem bound_of {P2 E2 : Vm → Prop} {hPE2 : ∀ a b : Vm, b.interned = a.interned → P2 a → E2 b} {hp2 : Heap} {n1 : Nat} {L : List Loc} (h1 : nE ≤ n1) (F : Fr ((Wd.h P2 E2 hPE2 hp2 nE).bound n1) L) : Fr ((Wd.h P E hPE hp nE).bound n0) L := fun x hx => by
  have q := F x hx
  have e1 : (Wd.h P2 E2 hPE2 hp2 nE).bound n1 = nE := Nat.min_eq_left h1
  rw [e1] at q
  exact Nat.le_trans (Nat.min_le_left _ _) q
/-- ldc of a String constant whose text has not been loaded yet, read -/
theorem Go.ldcV {text : String} {n n1 : Nat} (w : (Cond.stringLink y.cls i text).before a0 Z = true) (wS : ∀ a ∈ Bundle.stringAtoms, a.before a0 Z = true) (hP : ∀ vm, P vm → IB Z vm Ts) (hnot : text ∉ Ts) (hkeep : ∀ (b : Addr) (cl : Cell), Z.heap[b]? = some cl → hp[b]? = some cl) (hsz : hp.size ≤ n0) (hh : Jvm.Lit.constHeld Z y.cls i) (hcw : Jvm.Lit.compactW.before a0 Z = true)
    {vs : List Value} {z : Int32} (ht : (∀ c ∈ text.toList, c.toNat < 256) ∧ text.toList.map (fun c => Value.int (Jvm.Lit.byteI c.toNat.toUInt16)) = vs) (hz : z.toInt = (vs.length : Int)) (hd : decode bytes pc = .ok (.ldc i, 2)) (hn : 4 * text.toList.length ≤ n) (hbig : n ≤ 536870912) (hc : cells + 2 ≤ R.cells) (hl : slots + (n + 4) ≤ R.slots) (hp' : pc + 2 = pc')
    (hE2 : ∀ a b : Vm, b.interned = a.interned → IB Z a (text :: Ts) → E b) (hn1 : nE ≤ n1) (hn2 : n1 ≤ n0)
    (q : ∀ (h' : Heap) (a b : Addr), Ext h h' → Exa Z h' a "java/lang/String" → Fld Z h' a "java/lang/String" "coder" "B" (.int 0) → Fld Z h' a "java/lang/String" "value" "[B" (.ref b) → Ary Z h' b .byte vs →
      Go (.h (fun vm => IB Z vm (text :: Ts) ∧ Lit (Z.setVm vm) y.cls i a) E (fun a b e k => hE2 a b e k.1) hp nE) l R Z y bytes maxL ret n1 K N Q h' (cells + 2) (slots + (n + 4)) pc' Ls (.ref a :: st)) : Go (.h P E hPE hp nE) l R Z y bytes maxL ret n0 K N Q h cells slots pc Ls st := by
  subst hp'
  intro p e s0 s m args below meth c T locs hR O X eT F
  obtain ⟨⟨vm0, k0, rfl, hS, hk⟩, hPv, hhp⟩ := hR
  have z0 : (0 : Int32).toInt = 0 := rfl
  have hhp' : s0.heap = hp := hhp
  obtain ⟨a, T2, h2, k1, b, kb, X2, e2, E2, S2, hk1, hZ2, hown2, xE, xC, xV, xA, la, lb, hI, hL, st2⟩ := RoadKit.ldcSVL X O.1 O.2.2.2.2.2.1 O.2.2.2.1 w wS eT hS hk (fun x hx => Nat.le_trans (by rw [hhp']; exact hsz) (F x hx)) (by rw [hhp']; exact hkeep) (hP _ hPv) hnot hh hcw ht (by rw [Int32.lt_iff_toInt_lt, z0]; omega) (clamp_of hz) (g := mkF m pc Ls st) rfl (hb O.2.1 hd) hn hbig hc hl
  obtain ⟨s₂, o, h1, r1, r2, v, L, r3, r4, r5⟩ := q h2 a b E2 xE xC xV (xA.ary hz) p e s0 (s0.setVm T2.vm) m args below meth c T2 locs ⟨⟨T2.vm, k1, rfl, S2, hk1⟩, ⟨hI, hL⟩, hhp⟩ ⟨O.1, O.2.1, O.2.2.1, hown2, O.2.2.2.2.1, hZ2, O.2.2.2.2.2.2.1, O.2.2.2.2.2.2.2⟩ X2 e2 (fun x hx => Nat.le_trans hn2 (F x hx))
  exact ⟨s₂, o, st2 _ h1, r1, r2, v, L, r3, ⟨r4.1, bound_of hn1 r4.2⟩, r5⟩
/-- a second load -/
theorem Go.ldcAg {text : String} {a : Addr} (w : (Cond.stringLink y.cls i text).before a0 Z = true) (hP : ∀ vm, P vm → Lit (Z.setVm vm) y.cls i a) (hd : decode bytes pc = .ok (.ldc i, 2)) (hp' : pc + 2 = pc')
    (q : Go (.h P E hPE hp nE) l R Z y bytes maxL ret n0 K N Q h cells slots pc' Ls (.ref a :: st)) : Go (.h P E hPE hp nE) l R Z y bytes maxL ret n0 K N Q h cells slots pc Ls st := by
  subst hp'
  intro p e s0 s m args below meth c T locs hR O X eT F
  obtain ⟨s₂, o, h1, r⟩ := q p e s0 s m args below meth c T locs hR O X eT F
  obtain ⟨⟨vm0, k0, rfl, hS, hk⟩, hPv, hhp⟩ := hR
  exact ⟨s₂, o, RoadKit.ldcAgain X O.1 O.2.2.2.2.2.1 O.2.2.2.1 w (hP _ hPv) (g := mkF m pc Ls st) rfl (hb O.2.1 hd) _ h1, r⟩
/-- a method that may load texts: those loaded before it are among Ts, those behind it among Te -/
def MtH (l : Launch) (Z : State) (y : MethodName) (bytes : ByteArray) (maxL : Nat) (ret : Option FieldType) (rm : Room) (n0 : Nat) (Q : Option Value → Heap → Prop) (h : Heap) (as' : Array Value) (Ts Te : List String) : Prop :=
  MetFree l y (head1 [Cond.code y bytes maxL ret] rm) (fun a U => a = as' ∧ Z.Warmed39 U.vm ∧ U.heap = h ∧ IB Z U.vm Ts) (fun _ _ _ _ _ => True) (fun _ U o U' => ∃ v L, o = .returned v ∧ ((Q v U'.heap ∧ h.size ≤ U'.heap.size) ∧ Fr n0 L) ∧ ReturnedEndW U o U' L rm.cells rm.slots ∧ IB Z U'.vm Te)
theorem met_goH {ws : List Jvm.Cond} {n1 : Nat} (hpl : plainFor y = true) (hef : ∀ m, entryFrame m as' maxL = mkF m 0 Ls []) (hs : ∀ t ∈ Ts, t ∈ Te) (hn : n0 ≤ n1) (g : Go (.h (fun vm => IB Z vm Ts) (fun vm => IB Z vm Te) (ibE hs) h n0) l rm Z y bytes maxL ret n1 K N Q h 0 0 0 Ls []) :
    MetFree l y (head1 (Jvm.Cond.code y bytes maxL ret :: ws) rm) (fun a U => a = as' ∧ Z.Warmed39 U.vm ∧ U.heap = h ∧ IB Z U.vm Ts) (fun _ _ _ _ _ => True) (fun _ U o U' => ∃ v L, o = .returned v ∧ ((Q v U'.heap ∧ h.size ≤ U'.heap.size) ∧ Fr n0 L) ∧ ReturnedEndW U o U' L K N ∧ IB Z U'.vm Te) := by
  refine MetFree.of_bodySF hpl hisR ?_
  intro p e s m args below meth c s₁ Bd hml0 hP hK
  obtain ⟨rfl, hZ, hh, hI⟩ := hP
  have O : Own Z y bytes maxL ret p s m meth c := ⟨Bd.exec, Bd.bytes, hml0, findClass_of_methodNamed Bd.named, (name_of_methodNamed Bd.named Bd.method).1, hZ, Bd.returns, Bd.notSynchronized⟩
  have X0 : Stand p l e rm s m args below meth c s₁ [] 0 0 := Stand.of_body Bd
  have e0 : s₁.heap = h := by rw [← hh, Bd.state]; rfl
  obtain ⟨s₂, o, h1, h2, h3, v, L, h4, h5, h6⟩ := g p e s s m args below meth c s₁ [] ⟨⟨s.vm, 0, rfl, (State.WarmedH.refl s).since 0, Nat.zero_le _⟩, hI, hh⟩ O X0 e0 (Fr.nil n1)
  have eb : (Wd.h (fun vm => IB Z vm Ts) (fun vm => IB Z vm Te) (ibE hs) h n0).bound n1 = n0 := Nat.min_eq_left hn
  rw [eb] at h5
  exact ⟨s₂, o, castTop (hef m) h1, h2, h3, v, L, h4, ⟨⟨h5.1, hh ▸ h6.1.2.2.2.2.1⟩, h5.2⟩, h6.1, h6.2⟩
theorem MtH.go {n1 : Nat} (hpl : plainFor y = true) (hef : ∀ m, entryFrame m as' maxL = mkF m 0 Ls []) (hs : ∀ t ∈ Ts, t ∈ Te) (hn : n0 ≤ n1) (g : Go (.h (fun vm => IB Z vm Ts) (fun vm => IB Z vm Te) (ibE hs) h n0) l rm Z y bytes maxL ret n1 rm.cells rm.slots Q h 0 0 0 Ls []) : MtH l Z y bytes maxL ret rm n0 Q h as' Ts Te := met_goH (ws := []) hpl hef hs hn g
theorem backOfI {p : Program} {e : Env} {s : State} {args : Array Value} {below : List Frame} {vm0 : Vm} {len : Nat} (hM : MtH l Z y2 bytes2 maxL2 ret2 rm n0 Q2 h as' Ts Te)
    (hZ : Z.Warmed39 vm0) (wc : (Cond.code y2 bytes2 maxL2 ret2).before a0 Z = true) (wz : (Cond.initialized y2.cls).before a0 Z = true) (hf : rm.frames + 1 ≤ R.frames) (hl : W + (maxL2 + 11) + rm.locals ≤ R.locals) (hI : IB Z vm0 Ts) :
    BackS l R p e below (s.setVm vm0) args y2 len W (fun A a => a = as' ∧ A.U.heap = h ∧ A.cells + rm.cells ≤ R.cells ∧ A.slots + rm.slots ≤ R.slots)
      (fun A _ v B => ∃ L, ((Q2 v B.U.heap ∧ h.size ≤ B.U.heap.size) ∧ Fr n0 L) ∧ B.locs = A.locs ++ L ∧ B.cells = A.cells + rm.cells ∧ B.slots = A.slots + rm.slots ∧ IB Z B.U.vm Te) :=
  BackS.of_freeW (bytes := bytes2) (maxL := maxL2) (ret := ret2) (E := fun _ _ o t L k n => k = rm.cells ∧ n = rm.slots ∧ (∃ v, o = .returned v ∧ ((Q2 v t.heap ∧ h.size ≤ t.heap.size) ∧ Fr n0 L)) ∧ IB Z t.vm Te) hM hf hl
    (fun m meth c A a Y hp => have hU : Z.Warmed39 A.U.vm := wtrans (s := s.setVm vm0) hZ Y.warmed
      ⟨by show (Cond.and _ .tt).before a A.U = true; rw [Cond.before_and, mv hU wc]; rfl, mv hU wc, mv hU wz, hp.2.2.1, hp.2.2.2⟩)
    (fun m meth c A a g mk Y hp => ⟨hp.1, wtrans (s := s.setVm vm0) hZ Y.warmed, hp.2.1, hI.cong Y.warmed.interned_eq⟩) (fun _ _ _ _ _ _ _ _ _ => trivial)
    (fun _ _ _ _ ⟨v, L, h1, h2, h3, h4⟩ => ⟨L, _, _, h3, rfl, rfl, ⟨v, h1, h2⟩, h4⟩)
    (fun m meth c A a g mk v t L k n Y hp _ _ ⟨e1, e2, ⟨v', e3, e4⟩, e5⟩ => by
      cases e3; subst e1 e2
      exact ⟨L, e4, rfl, rfl, rfl, e5⟩)
theorem Go.callSI (w1 : (Cond.methodLink y.cls i y2).before a0 Z = true) (w2 : (Cond.static y2).before a0 Z = true) (w3 : (Cond.initialized y2.cls).before a0 Z = true) (w4 : (Cond.code y2 bytes2 maxL2 ret2).before a0 Z = true) (hy : y2.cls ≠ "java/lang/invoke/MethodHandle" ∧ y2.cls ≠ "java/lang/invoke/VarHandle")
    (hM : MtH l Z y2 bytes2 maxL2 ret2 rm n0 Q2 h argsL.toArray Ts Te) (hP : ∀ vm, P vm → IB Z vm Ts) (hE2 : ∀ a b : Vm, b.interned = a.interned → IB Z a Te → E b) (hd : decode bytes pc = .ok (.invokestatic i, 3)) (hz : Ls.size = maxL) (hpd : parseMethodDescriptor y2.desc = some ⟨ps, r2⟩) (hlen : argsL.length = ps.length) (hst : st = argsL.reverse ++ rest)
    (hW : (rest.map fun v => v.category).sum ≤ W) (hf : rm.frames + 1 ≤ R.frames) (hl : W + (maxL2 + 11) + rm.locals ≤ R.locals) (hc : cells + rm.cells ≤ R.cells) (hs : slots + rm.slots ≤ R.slots) (hp' : pc + 3 = pc')
    (q : ∀ v h', Q2 v h' → Go (.h (fun vm => IB Z vm Te) E hE2 hp nE) l R Z y bytes maxL ret n0 K N Q h' (cells + rm.cells) (slots + rm.slots) pc' Ls (v.toList ++ rest)) : Go (.h P E hPE hp nE) l R Z y bytes maxL ret n0 K N Q h cells slots pc Ls st := by
  subst hp' hst
  intro p e s0 s m args below meth c T locs hR O X eT F
  obtain ⟨⟨vm0, k0, rfl, hS, hk⟩, hPv, hhp⟩ := hR
  obtain ⟨v, vm₁, ⟨T2, L2, k2, n2⟩, -, X2, S2, g2, ⟨Lc, hQ, l2, y2, z2, hI2⟩, st2⟩ := RoadKit.callSS X O.1 (y := y2) O.2.2.2.1 (mvT O.2.2.2.2.2.1 w1) (mvT O.2.2.2.2.2.1 w2) (mvT O.2.2.2.2.2.1 w3) (mvT O.2.2.2.2.2.1 w4) hy
    (backOfI (W := W) hM O.2.2.2.2.2.1 w4 w3 hf hl (hP _ hPv)) (g := mkF m pc Ls (argsL.reverse ++ rest)) rfl (hz.trans O.2.2.1.symm) (argsL := argsL) (rest := rest) (lenOf hpd hlen) rfl (by show 2 * 0 + _ ≤ _; omega) (hb O.2.1 hd) (fun _ _ => ⟨rfl, eT, hc, hs⟩)
  dsimp only [Pt.U, Pt.locs, Pt.cells, Pt.slots] at X2 l2 y2 z2 st2 hQ S2 g2 hI2
  subst l2 y2 z2
  rw [eT] at g2
  obtain ⟨X3, S3, hZ3, hown3⟩ := rebS hS hk X2 S2 g2 O.2.2.2.2.2.1 O.2.2.2.1
  obtain ⟨s₂, o, h1, r⟩ := q v T2.heap hQ.1.1 p e s0 (s0.setVm T2.vm) m args below meth c T2 _ ⟨⟨T2.vm, _, rfl, S3, Nat.le_refl _⟩, hI2, hhp⟩ ⟨O.1, O.2.1, O.2.2.1, hown3, O.2.2.2.2.1, hZ3, O.2.2.2.2.2.2.1, O.2.2.2.2.2.2.2⟩ X3 rfl (Fr.app F hQ.2)
  exact ⟨s₂, o, st2.trans h1, r⟩
theorem Go.callNI {a : Addr} (hy1 : y2.name = "<init>") (w1 : (Cond.methodLink y.cls i y2).before a0 Z = true) (w2 : (Cond.instanceMethod y2).before a0 Z = true) (w3 : (Cond.initialized y2.cls).before a0 Z = true) (w4 : (Cond.code y2 bytes2 maxL2 none).before a0 Z = true) (hy : y2.cls ≠ "java/lang/invoke/MethodHandle" ∧ y2.cls ≠ "java/lang/invoke/VarHandle")
    (hM : MtH l Z y2 bytes2 maxL2 none rm n0 Q2 h (.ref a :: argsL).toArray Ts Te) (hP : ∀ vm, P vm → IB Z vm Ts) (hE2 : ∀ a b : Vm, b.interned = a.interned → IB Z a Te → E b) (hd : decode bytes pc = .ok (.invokespecial i, 3)) (hz : Ls.size = maxL) (hpd : parseMethodDescriptor y2.desc = some ⟨ps, r2⟩) (hlen : argsL.length = ps.length) (hst : st = argsL.reverse ++ .ref a :: rest)
    (hW : (rest.map fun v => v.category).sum ≤ W) (hf : rm.frames + 1 ≤ R.frames) (hl : W + (maxL2 + 11) + rm.locals ≤ R.locals) (hc : cells + rm.cells ≤ R.cells) (hs : slots + rm.slots ≤ R.slots) (hp' : pc + 3 = pc')
    (q : ∀ v h', Q2 v h' → Go (.h (fun vm => IB Z vm Te) E hE2 hp nE) l R Z y bytes maxL ret n0 K N Q h' (cells + rm.cells) (slots + rm.slots) pc' Ls (v.toList ++ rest)) : Go (.h P E hPE hp nE) l R Z y bytes maxL ret n0 K N Q h cells slots pc Ls st := by
  subst hp' hst
  intro p e s0 s m args below meth c T locs hR O X eT F
  obtain ⟨⟨vm0, k0, rfl, hS, hk⟩, hPv, hhp⟩ := hR
  obtain ⟨v, vm₁, ⟨T2, L2, k2, n2⟩, -, X2, S2, g2, ⟨Lc, hQ, l2, y2, z2, hI2⟩, st2⟩ := X.specialBackS O.1 (y := y2) hy1 O.2.2.2.1 (mvT O.2.2.2.2.2.1 w1) (mvT O.2.2.2.2.2.1 w2) (mvT O.2.2.2.2.2.1 w4) hy
    (backOfI (W := W) hM O.2.2.2.2.2.1 w4 w3 hf hl (hP _ hPv)) (g := mkF m pc Ls (argsL.reverse ++ .ref a :: rest)) rfl (hz.trans O.2.2.1.symm) (Steps.refl _) (a := a) (argsL := argsL) (rest := rest) (lenOf hpd hlen) rfl (by show 2 * 0 + _ ≤ _; omega) (hb O.2.1 hd) (fun _ _ => ⟨rfl, eT, hc, hs⟩)
  dsimp only [Pt.U, Pt.locs, Pt.cells, Pt.slots] at X2 l2 y2 z2 st2 hQ S2 g2 hI2
  subst l2 y2 z2
  rw [eT] at g2
  obtain ⟨X3, S3, hZ3, hown3⟩ := rebS hS hk X2 S2 g2 O.2.2.2.2.2.1 O.2.2.2.1
  obtain ⟨s₂, o, h1, r⟩ := q v T2.heap hQ.1.1 p e s0 (s0.setVm T2.vm) m args below meth c T2 _ ⟨⟨T2.vm, _, rfl, S3, Nat.le_refl _⟩, hI2, hhp⟩ ⟨O.1, O.2.1, O.2.2.1, hown3, O.2.2.2.2.1, hZ3, O.2.2.2.2.2.2.1, O.2.2.2.2.2.2.2⟩ X3 rfl (Fr.app F hQ.2)
  exact ⟨s₂, o, st2.trans h1, r⟩
/-- what is known of the tables may be forgotten in part -/
theorem Go.less {P2 : Vm → Prop} {hPE2 : ∀ a b : Vm, b.interned = a.interned → P2 a → E b} (hP : ∀ vm, P vm → P2 vm) (q : Go (.h P2 E hPE2 hp nE) l R Z y bytes maxL ret n0 K N Q h cells slots pc Ls st) : Go (.h P E hPE hp nE) l R Z y bytes maxL ret n0 K N Q h cells slots pc Ls st := by
  intro p e s0 s m args below meth c T locs hR O X eT F
  exact q p e s0 s m args below meth c T locs ⟨hR.1, hP _ hR.2.1, hR.2.2⟩ O X eT F
end GoHeld
section GoByte
variable {wd : Wd} {l : Launch} {R : Room} {Z : State} {y : MethodName} {bytes : ByteArray} {maxL : Nat} {ret : Option FieldType} {n0 K N : Nat} {Q : Option Value → Heap → Prop} {h : Heap} {cells slots pc pc' : Nat} {Ls Ls' : Array Slot} {st st' : List Value} {a0 : Array Value}
theorem Go.ldB {a : Addr} {vs : List Value} {j : Int32} {k : Nat} {v : Value} (hA : Ary Z h a .byte vs) (hj : j.toInt = (k : Int)) (hv : vs[k]? = some v) (hd : decode bytes pc = .ok (.baload, 1)) (hp : pc + 1 = pc') (q : Go wd l R Z y bytes maxL ret n0 K N Q h cells slots pc' Ls (v :: st)) : Go wd l R Z y bytes maxL ret n0 K N Q h cells slots pc Ls (.int j :: .ref a :: st) := by
  subst hp
  obtain ⟨cl, A, r⟩ := hA
  exact Go.of q fun p e s m args below meth c T locs O X eT t hr => X.baloadBytes O.1 (j := j) (v := v) (by rw [eT]; exact A.1) (State.isArrayOf_alike O.2.2.2.2.2.1.alike A.2.1) A.2.2 (inb hj r (lt_of_get hv)) (by rw [clamp_of hj, r]; simpa using hv) (g := mkF m pc Ls (.int j :: .ref a :: st)) rfl rfl (hb O.2.1 hd) _ hr
theorem Go.stB {a : Addr} {vs : List Value} {j v : Int32} {k : Nat} (hA : Ary Z h a .byte vs) (hj : j.toInt = (k : Int)) (hk : k < vs.length) (hd : decode bytes pc = .ok (.bastore, 1)) (ha : n0 ≤ a) (hp : pc + 1 = pc')
    (q : ∀ h', Wr h h' a k (.int (nar .byte v)) → Ary Z h' a .byte (vs.set k (.int (nar .byte v))) → Go wd l R Z y bytes maxL ret n0 K N Q h' cells slots pc' Ls st) : Go wd l R Z y bytes maxL ret n0 K N Q h cells slots pc Ls (.int v :: .int j :: .ref a :: st) := by
  subst hp
  have hA' := hA
  obtain ⟨cl, A, r⟩ := hA
  intro p e s0 s m args below meth c T locs hR O X eT F
  obtain ⟨T2, h2, X2, e2, W2, st2⟩ := RoadKit.stB X O.1 O.2.2.2.2.2.1 eT A (j := j) (x := v) (inb hj r hk) (g := mkF m pc Ls (.int v :: .int j :: .ref a :: st)) rfl rfl (hb O.2.1 hd)
  rw [clamp_of hj] at X2 W2
  obtain ⟨s₂, o, h1, r⟩ := q h2 W2 (hA'.set W2) p e s0 s m args below meth c T2 _ (hR.mono (Nat.le_of_eq W2.size.symm)) O X2 e2 (Fr.snoc X2 F ha)
  exact ⟨s₂, o, st2 _ h1, r⟩
end GoByte
end Jvm.RoadKit
namespace Jvm.RoadKit
open Sem ClassFile Op Lib Jvm.Stand Jvm.Free Jvm.LawKit
section GoInst
variable {wd : Wd} {l : Launch} {R : Room} {Z : State} {y : MethodName} {bytes : ByteArray} {maxL : Nat} {ret : Option FieldType} {n0 K N : Nat} {Q : Option Value → Heap → Prop} {h : Heap} {cells slots pc pc' : Nat} {Ls Ls' : Array Slot} {st st' : List Value} {a0 : Array Value}
theorem Go.instYes {C : String} {i : Nat} {a : Addr} (w : (Cond.classLink y.cls i C).before a0 Z = true) (hI : Ins Z h a C true) (hd : decode bytes pc = .ok (.instanceof i, 3)) (hp : pc + 3 = pc') (q : Go wd l R Z y bytes maxL ret n0 K N Q h cells slots pc' Ls (.int 1 :: st)) : Go wd l R Z y bytes maxL ret n0 K N Q h cells slots pc Ls (.ref a :: st) := by
  subst hp
  intro p e s0 s m args below meth c T locs hR O X eT F
  obtain ⟨T2, X2, e2, st2⟩ := RoadKit.instY X O.1 O.2.2.2.2.2.1 O.2.2.2.1 w eT hI (g := mkF m pc Ls (.ref a :: st)) rfl rfl (hb O.2.1 hd)
  obtain ⟨s₂, o, h1, r⟩ := q p e s0 s m args below meth c T2 locs hR O X2 e2 F
  exact ⟨s₂, o, st2 _ h1, r⟩
theorem Go.instNull {i : Nat} (hd : decode bytes pc = .ok (.instanceof i, 3)) (hp : pc + 3 = pc') (q : Go wd l R Z y bytes maxL ret n0 K N Q h cells slots pc' Ls (.int 0 :: st)) : Go wd l R Z y bytes maxL ret n0 K N Q h cells slots pc Ls (.null :: st) := by
  subst hp
  exact Go.of q fun p e s m args below meth c T locs O X eT t hr => X.instanceofNull O.1 (g := mkF m pc Ls (.null :: st)) rfl (rest := st) rfl (hb O.2.1 hd) _ hr
end GoInst
end Jvm.RoadKit
namespace Jvm.Pilot.@@N@@
open Jvm Jvm.ClassFile Sem Op Lib Jvm.Free Jvm.Stand Jvm.LawKit Jvm.RoadKit Bundle Jvm.Pilot.@@N@@.Jvm.D
theorem d1_0 : decode method_4_code 0 = .ok (.iload_n 0, 1) := by decide +kernel
theorem d1_1 : decode method_4_code 1 = .ok (.bipush 16, 2) := by decide +kernel
theorem d1_3 : decode method_4_code 3 = .ok (.iushr, 1) := by decide +kernel
theorem d1_4 : decode method_4_code 4 = .ok (.iconst 1, 1) := by decide +kernel
theorem d1_5 : decode method_4_code 5 = .ok (.iand, 1) := by decide +kernel
theorem d1_6 : decode method_4_code 6 = .ok (.ifCond .eq 13, 3) := by decide +kernel
theorem d1_9 : decode method_4_code 9 = .ok (.ldc 7, 2) := by decide +kernel
theorem d1_11 : decode method_4_code 11 = .ok (.iload_n 0, 1) := by decide +kernel
theorem d1_12 : decode method_4_code 12 = .ok (.sipush 2047, 3) := by decide +kernel
theorem d1_15 : decode method_4_code 15 = .ok (.iand, 1) := by decide +kernel
theorem d1_16 : decode method_4_code 16 = .ok (.iadd, 1) := by decide +kernel
theorem d1_17 : decode method_4_code 17 = .ok (.i2c, 1) := by decide +kernel
theorem d1_18 : decode method_4_code 18 = .ok (.ireturn, 1) := by decide +kernel
theorem d1_19 : decode method_4_code 19 = .ok (.iload_n 0, 1) := by decide +kernel
theorem d1_20 : decode method_4_code 20 = .ok (.i2c, 1) := by decide +kernel
theorem d1_21 : decode method_4_code 21 = .ok (.ireturn, 1) := by decide +kernel
theorem d2_0 : decode jdk_42_method_3_code 0 = .ok (.aload_n 0, 1) := by decide +kernel
theorem d2_1 : decode jdk_42_method_3_code 1 = .ok (.aload_n 1, 1) := by decide +kernel
theorem d2_2 : decode jdk_42_method_3_code 2 = .ok (.iconst 0, 1) := by decide +kernel
theorem d2_3 : decode jdk_42_method_3_code 3 = .ok (.aload_n 1, 1) := by decide +kernel
theorem d2_4 : decode jdk_42_method_3_code 4 = .ok (.arraylength, 1) := by decide +kernel
theorem d2_5 : decode jdk_42_method_3_code 5 = .ok (.aconst_null, 1) := by decide +kernel
theorem d2_6 : decode jdk_42_method_3_code 6 = .ok (.invokespecial 27, 3) := by decide +kernel
theorem d2_9 : decode jdk_42_method_3_code 9 = .ok (.return_, 1) := by decide +kernel
theorem d3_0 : decode jdk_42_method_149_code 0 = .ok (.aload_n 0, 1) := by decide +kernel
theorem d3_1 : decode jdk_42_method_149_code 1 = .ok (.invokespecial 1, 3) := by decide +kernel
theorem d3_4 : decode jdk_42_method_149_code 4 = .ok (.iload_n 3, 1) := by decide +kernel
theorem d3_5 : decode jdk_42_method_149_code 5 = .ok (.ifCond .ne 22, 3) := by decide +kernel
theorem d3_8 : decode jdk_42_method_149_code 8 = .ok (.aload_n 0, 1) := by decide +kernel
theorem d3_9 : decode jdk_42_method_149_code 9 = .ok (.ldc 7, 2) := by decide +kernel
theorem d3_11 : decode jdk_42_method_149_code 11 = .ok (.getfield 9, 3) := by decide +kernel
theorem d3_14 : decode jdk_42_method_149_code 14 = .ok (.putfield 9, 3) := by decide +kernel
theorem d3_17 : decode jdk_42_method_149_code 17 = .ok (.aload_n 0, 1) := by decide +kernel
theorem d3_18 : decode jdk_42_method_149_code 18 = .ok (.ldc 7, 2) := by decide +kernel
theorem d3_20 : decode jdk_42_method_149_code 20 = .ok (.getfield 15, 3) := by decide +kernel
theorem d3_23 : decode jdk_42_method_149_code 23 = .ok (.putfield 15, 3) := by decide +kernel
theorem d3_26 : decode jdk_42_method_149_code 26 = .ok (.return_, 1) := by decide +kernel
theorem d3_27 : decode jdk_42_method_149_code 27 = .ok (.getstatic 38, 3) := by decide +kernel
theorem d3_30 : decode jdk_42_method_149_code 30 = .ok (.ifCond .eq 28, 3) := by decide +kernel
theorem d3_33 : decode jdk_42_method_149_code 33 = .ok (.aload_n 1, 1) := by decide +kernel
theorem d3_34 : decode jdk_42_method_149_code 34 = .ok (.iload_n 2, 1) := by decide +kernel
theorem d3_35 : decode jdk_42_method_149_code 35 = .ok (.iload_n 3, 1) := by decide +kernel
theorem d3_36 : decode jdk_42_method_149_code 36 = .ok (.invokestatic 177, 3) := by decide +kernel
theorem d3_39 : decode jdk_42_method_149_code 39 = .ok (.astore 5, 2) := by decide +kernel
theorem d3_41 : decode jdk_42_method_149_code 41 = .ok (.aload_n 0, 1) := by decide +kernel
theorem d3_42 : decode jdk_42_method_149_code 42 = .ok (.aload 5, 2) := by decide +kernel
theorem d3_44 : decode jdk_42_method_149_code 44 = .ok (.iload_n 3, 1) := by decide +kernel
theorem d3_45 : decode jdk_42_method_149_code 45 = .ok (.invokestatic 47, 3) := by decide +kernel
theorem d3_48 : decode jdk_42_method_149_code 48 = .ok (.putfield 15, 3) := by decide +kernel
theorem d3_51 : decode jdk_42_method_149_code 51 = .ok (.aload_n 0, 1) := by decide +kernel
theorem d3_52 : decode jdk_42_method_149_code 52 = .ok (.aload 5, 2) := by decide +kernel
theorem d3_54 : decode jdk_42_method_149_code 54 = .ok (.putfield 9, 3) := by decide +kernel
theorem d3_57 : decode jdk_42_method_149_code 57 = .ok (.return_, 1) := by decide +kernel
theorem d5_0 : decode method_5_code 0 = .ok (.iload_n 0, 1) := by decide +kernel
theorem d5_1 : decode method_5_code 1 = .ok (.ifCond .ne 5, 3) := by decide +kernel
theorem d5_4 : decode method_5_code 4 = .ok (.iconst 1, 1) := by decide +kernel
theorem d5_5 : decode method_5_code 5 = .ok (.ireturn, 1) := by decide +kernel
theorem d5_6 : decode method_5_code 6 = .ok (.iload_n 3, 1) := by decide +kernel
theorem d5_7 : decode method_5_code 7 = .ok (.invokestatic 11, 3) := by decide +kernel
theorem d5_10 : decode method_5_code 10 = .ok (.ifCond .eq 22, 3) := by decide +kernel
theorem d5_13 : decode method_5_code 13 = .ok (.iload 4, 2) := by decide +kernel
theorem d5_15 : decode method_5_code 15 = .ok (.ifCond .eq 15, 3) := by decide +kernel
theorem d5_18 : decode method_5_code 18 = .ok (.iload 5, 2) := by decide +kernel
theorem d5_20 : decode method_5_code 20 = .ok (.invokestatic 17, 3) := by decide +kernel
theorem d5_23 : decode method_5_code 23 = .ok (.ifCond .eq 7, 3) := by decide +kernel
theorem d5_26 : decode method_5_code 26 = .ok (.iconst 1, 1) := by decide +kernel
theorem d5_27 : decode method_5_code 27 = .ok (.goto 4, 3) := by decide +kernel
theorem d5_30 : decode method_5_code 30 = .ok (.iconst 0, 1) := by decide +kernel
theorem d5_31 : decode method_5_code 31 = .ok (.ireturn, 1) := by decide +kernel
theorem d5_32 : decode method_5_code 32 = .ok (.iload_n 3, 1) := by decide +kernel
theorem d5_33 : decode method_5_code 33 = .ok (.invokestatic 17, 3) := by decide +kernel
theorem d5_36 : decode method_5_code 36 = .ok (.ifCond .eq 20, 3) := by decide +kernel
theorem d5_39 : decode method_5_code 39 = .ok (.iload_n 1, 1) := by decide +kernel
theorem d5_40 : decode method_5_code 40 = .ok (.ifCond .eq 14, 3) := by decide +kernel
theorem d5_43 : decode method_5_code 43 = .ok (.iload_n 2, 1) := by decide +kernel
theorem d5_44 : decode method_5_code 44 = .ok (.invokestatic 11, 3) := by decide +kernel
theorem d5_47 : decode method_5_code 47 = .ok (.ifCond .eq 7, 3) := by decide +kernel
theorem d5_50 : decode method_5_code 50 = .ok (.iconst 1, 1) := by decide +kernel
theorem d5_51 : decode method_5_code 51 = .ok (.goto 4, 3) := by decide +kernel
theorem d5_54 : decode method_5_code 54 = .ok (.iconst 0, 1) := by decide +kernel
theorem d5_55 : decode method_5_code 55 = .ok (.ireturn, 1) := by decide +kernel
theorem d5_56 : decode method_5_code 56 = .ok (.iconst 1, 1) := by decide +kernel
theorem d5_57 : decode method_5_code 57 = .ok (.ireturn, 1) := by decide +kernel
theorem d6_0 : decode prog_29_method_2_code 0 = .ok (.iconst 0, 1) := by decide +kernel
theorem d6_1 : decode prog_29_method_2_code 1 = .ok (.istore_n 1, 1) := by decide +kernel
theorem d6_2 : decode prog_29_method_2_code 2 = .ok (.iload_n 1, 1) := by decide +kernel
theorem d6_3 : decode prog_29_method_2_code 3 = .ok (.aload_n 0, 1) := by decide +kernel
theorem d6_4 : decode prog_29_method_2_code 4 = .ok (.invokevirtual 7, 3) := by decide +kernel
theorem d6_7 : decode prog_29_method_2_code 7 = .ok (.if_icmp .ge 60, 3) := by decide +kernel
theorem d6_10 : decode prog_29_method_2_code 10 = .ok (.aload_n 0, 1) := by decide +kernel
theorem d6_11 : decode prog_29_method_2_code 11 = .ok (.iload_n 1, 1) := by decide +kernel
theorem d6_12 : decode prog_29_method_2_code 12 = .ok (.invokevirtual 13, 3) := by decide +kernel
theorem d6_15 : decode prog_29_method_2_code 15 = .ok (.istore_n 2, 1) := by decide +kernel
theorem d6_16 : decode prog_29_method_2_code 16 = .ok (.iload_n 2, 1) := by decide +kernel
theorem d6_17 : decode prog_29_method_2_code 17 = .ok (.invokestatic 17, 3) := by decide +kernel
theorem d6_20 : decode prog_29_method_2_code 20 = .ok (.ifCond .eq 32, 3) := by decide +kernel
theorem d6_23 : decode prog_29_method_2_code 23 = .ok (.iload_n 1, 1) := by decide +kernel
theorem d6_24 : decode prog_29_method_2_code 24 = .ok (.iconst 1, 1) := by decide +kernel
theorem d6_25 : decode prog_29_method_2_code 25 = .ok (.iadd, 1) := by decide +kernel
theorem d6_26 : decode prog_29_method_2_code 26 = .ok (.aload_n 0, 1) := by decide +kernel
theorem d6_27 : decode prog_29_method_2_code 27 = .ok (.invokevirtual 7, 3) := by decide +kernel
theorem d6_30 : decode prog_29_method_2_code 30 = .ok (.if_icmp .ge 22, 3) := by decide +kernel
theorem d6_33 : decode prog_29_method_2_code 33 = .ok (.aload_n 0, 1) := by decide +kernel
theorem d6_34 : decode prog_29_method_2_code 34 = .ok (.iload_n 1, 1) := by decide +kernel
theorem d6_35 : decode prog_29_method_2_code 35 = .ok (.iconst 1, 1) := by decide +kernel
theorem d6_36 : decode prog_29_method_2_code 36 = .ok (.iadd, 1) := by decide +kernel
theorem d6_37 : decode prog_29_method_2_code 37 = .ok (.invokevirtual 13, 3) := by decide +kernel
theorem d6_40 : decode prog_29_method_2_code 40 = .ok (.invokestatic 23, 3) := by decide +kernel
theorem d6_43 : decode prog_29_method_2_code 43 = .ok (.ifCond .eq 9, 3) := by decide +kernel
theorem d6_46 : decode prog_29_method_2_code 46 = .ok (.iinc 1 1, 3) := by decide +kernel
theorem d6_49 : decode prog_29_method_2_code 49 = .ok (.goto 12, 3) := by decide +kernel
theorem d6_52 : decode prog_29_method_2_code 52 = .ok (.iload_n 2, 1) := by decide +kernel
theorem d6_53 : decode prog_29_method_2_code 53 = .ok (.invokestatic 26, 3) := by decide +kernel
theorem d6_56 : decode prog_29_method_2_code 56 = .ok (.ifCond .eq 5, 3) := by decide +kernel
theorem d6_59 : decode prog_29_method_2_code 59 = .ok (.iconst 0, 1) := by decide +kernel
theorem d6_60 : decode prog_29_method_2_code 60 = .ok (.ireturn, 1) := by decide +kernel
theorem d6_61 : decode prog_29_method_2_code 61 = .ok (.iinc 1 1, 3) := by decide +kernel
theorem d6_64 : decode prog_29_method_2_code 64 = .ok (.goto (-62), 3) := by decide +kernel
theorem d6_67 : decode prog_29_method_2_code 67 = .ok (.iconst 1, 1) := by decide +kernel
theorem d6_68 : decode prog_29_method_2_code 68 = .ok (.ireturn, 1) := by decide +kernel
theorem d7_0 : decode jdk_42_method_54_code 0 = .ok (.aload_n 0, 1) := by decide +kernel
theorem d7_1 : decode jdk_42_method_54_code 1 = .ok (.getfield 9, 3) := by decide +kernel
theorem d7_4 : decode jdk_42_method_54_code 4 = .ok (.arraylength, 1) := by decide +kernel
theorem d7_5 : decode jdk_42_method_54_code 5 = .ok (.aload_n 0, 1) := by decide +kernel
theorem d7_6 : decode jdk_42_method_54_code 6 = .ok (.invokevirtual 335, 3) := by decide +kernel
theorem d7_9 : decode jdk_42_method_54_code 9 = .ok (.ishr, 1) := by decide +kernel
theorem d7_10 : decode jdk_42_method_54_code 10 = .ok (.ireturn, 1) := by decide +kernel
theorem d8_0 : decode jdk_42_method_152_code 0 = .ok (.getstatic 38, 3) := by decide +kernel
theorem d8_3 : decode jdk_42_method_152_code 3 = .ok (.ifCond .eq 10, 3) := by decide +kernel
theorem d8_6 : decode jdk_42_method_152_code 6 = .ok (.aload_n 0, 1) := by decide +kernel
theorem d8_7 : decode jdk_42_method_152_code 7 = .ok (.getfield 15, 3) := by decide +kernel
theorem d8_10 : decode jdk_42_method_152_code 10 = .ok (.goto 4, 3) := by decide +kernel
theorem d8_14 : decode jdk_42_method_152_code 14 = .ok (.ireturn, 1) := by decide +kernel
theorem d9_0 : decode jdk_52_method_16_code 0 = .ok (.iload_n 2, 1) := by decide +kernel
theorem d9_1 : decode jdk_52_method_16_code 1 = .ok (.newarray .byte, 2) := by decide +kernel
theorem d9_3 : decode jdk_52_method_16_code 3 = .ok (.astore_n 3, 1) := by decide +kernel
theorem d9_4 : decode jdk_52_method_16_code 4 = .ok (.aload_n 0, 1) := by decide +kernel
theorem d9_5 : decode jdk_52_method_16_code 5 = .ok (.iload_n 1, 1) := by decide +kernel
theorem d9_6 : decode jdk_52_method_16_code 6 = .ok (.aload_n 3, 1) := by decide +kernel
theorem d9_7 : decode jdk_52_method_16_code 7 = .ok (.iconst 0, 1) := by decide +kernel
theorem d9_8 : decode jdk_52_method_16_code 8 = .ok (.iload_n 2, 1) := by decide +kernel
theorem d9_9 : decode jdk_52_method_16_code 9 = .ok (.invokestatic 115, 3) := by decide +kernel
theorem d9_12 : decode jdk_52_method_16_code 12 = .ok (.istore 4, 2) := by decide +kernel
theorem d9_14 : decode jdk_52_method_16_code 14 = .ok (.iload 4, 2) := by decide +kernel
theorem d9_16 : decode jdk_52_method_16_code 16 = .ok (.iload_n 2, 1) := by decide +kernel
theorem d9_17 : decode jdk_52_method_16_code 17 = .ok (.if_icmp .eq 40, 3) := by decide +kernel
theorem d9_20 : decode jdk_52_method_16_code 20 = .ok (.aload_n 0, 1) := by decide +kernel
theorem d9_21 : decode jdk_52_method_16_code 21 = .ok (.iload_n 1, 1) := by decide +kernel
theorem d9_22 : decode jdk_52_method_16_code 22 = .ok (.iload_n 2, 1) := by decide +kernel
theorem d9_23 : decode jdk_52_method_16_code 23 = .ok (.invokestatic 119, 3) := by decide +kernel
theorem d9_26 : decode jdk_52_method_16_code 26 = .ok (.astore 5, 2) := by decide +kernel
theorem d9_28 : decode jdk_52_method_16_code 28 = .ok (.aload 5, 2) := by decide +kernel
theorem d9_30 : decode jdk_52_method_16_code 30 = .ok (.iload 4, 2) := by decide +kernel
theorem d9_32 : decode jdk_52_method_16_code 32 = .ok (.invokestatic 71, 3) := by decide +kernel
theorem d9_35 : decode jdk_52_method_16_code 35 = .ok (.sipush 255, 3) := by decide +kernel
theorem d9_38 : decode jdk_52_method_16_code 38 = .ok (.if_icmp .gt 16, 3) := by decide +kernel
theorem d9_54 : decode jdk_52_method_16_code 54 = .ok (.aload 5, 2) := by decide +kernel
theorem d9_56 : decode jdk_52_method_16_code 56 = .ok (.areturn, 1) := by decide +kernel
theorem d9_57 : decode jdk_52_method_16_code 57 = .ok (.aload_n 3, 1) := by decide +kernel
theorem d9_58 : decode jdk_52_method_16_code 58 = .ok (.areturn, 1) := by decide +kernel
theorem d10_0 : decode jdk_52_method_21_code 0 = .ok (.iconst 0, 1) := by decide +kernel
theorem d10_1 : decode jdk_52_method_21_code 1 = .ok (.istore 5, 2) := by decide +kernel
theorem d10_3 : decode jdk_52_method_21_code 3 = .ok (.iload 5, 2) := by decide +kernel
theorem d10_5 : decode jdk_52_method_21_code 5 = .ok (.iload 4, 2) := by decide +kernel
theorem d10_7 : decode jdk_52_method_21_code 7 = .ok (.if_icmp .ge 37, 3) := by decide +kernel
theorem d10_10 : decode jdk_52_method_21_code 10 = .ok (.aload_n 0, 1) := by decide +kernel
theorem d10_11 : decode jdk_52_method_21_code 11 = .ok (.iload_n 1, 1) := by decide +kernel
theorem d10_12 : decode jdk_52_method_21_code 12 = .ok (.caload, 1) := by decide +kernel
theorem d10_13 : decode jdk_52_method_21_code 13 = .ok (.istore 6, 2) := by decide +kernel
theorem d10_15 : decode jdk_52_method_21_code 15 = .ok (.iload 6, 2) := by decide +kernel
theorem d10_17 : decode jdk_52_method_21_code 17 = .ok (.sipush 255, 3) := by decide +kernel
theorem d10_20 : decode jdk_52_method_21_code 20 = .ok (.if_icmp .le 6, 3) := by decide +kernel
theorem d10_23 : decode jdk_52_method_21_code 23 = .ok (.iload 5, 2) := by decide +kernel
theorem d10_25 : decode jdk_52_method_21_code 25 = .ok (.ireturn, 1) := by decide +kernel
theorem d10_26 : decode jdk_52_method_21_code 26 = .ok (.aload_n 2, 1) := by decide +kernel
theorem d10_27 : decode jdk_52_method_21_code 27 = .ok (.iload_n 3, 1) := by decide +kernel
theorem d10_28 : decode jdk_52_method_21_code 28 = .ok (.iload 6, 2) := by decide +kernel
theorem d10_30 : decode jdk_52_method_21_code 30 = .ok (.i2b, 1) := by decide +kernel
theorem d10_31 : decode jdk_52_method_21_code 31 = .ok (.bastore, 1) := by decide +kernel
theorem d10_32 : decode jdk_52_method_21_code 32 = .ok (.iinc 1 1, 3) := by decide +kernel
theorem d10_35 : decode jdk_52_method_21_code 35 = .ok (.iinc 3 1, 3) := by decide +kernel
theorem d10_38 : decode jdk_52_method_21_code 38 = .ok (.iinc 5 1, 3) := by decide +kernel
theorem d10_41 : decode jdk_52_method_21_code 41 = .ok (.goto (-38), 3) := by decide +kernel
theorem d10_44 : decode jdk_52_method_21_code 44 = .ok (.iload 4, 2) := by decide +kernel
theorem d10_46 : decode jdk_52_method_21_code 46 = .ok (.ireturn, 1) := by decide +kernel
theorem d11_0 : decode jdk_52_method_15_code 0 = .ok (.iload_n 1, 1) := by decide +kernel
theorem d11_1 : decode jdk_52_method_15_code 1 = .ok (.aload_n 0, 1) := by decide +kernel
theorem d11_2 : decode jdk_52_method_15_code 2 = .ok (.arraylength, 1) := by decide +kernel
theorem d11_3 : decode jdk_52_method_15_code 3 = .ok (.isub, 1) := by decide +kernel
theorem d11_4 : decode jdk_52_method_15_code 4 = .ok (.bipush 31, 2) := by decide +kernel
theorem d11_6 : decode jdk_52_method_15_code 6 = .ok (.iushr, 1) := by decide +kernel
theorem d11_7 : decode jdk_52_method_15_code 7 = .ok (.i2b, 1) := by decide +kernel
theorem d11_8 : decode jdk_52_method_15_code 8 = .ok (.ireturn, 1) := by decide +kernel
theorem d12_0 : decode method_2_code 0 = .ok (.iload_n 0, 1) := by decide +kernel
theorem d12_1 : decode method_2_code 1 = .ok (.ldc 7, 2) := by decide +kernel
theorem d12_3 : decode method_2_code 3 = .ok (.if_icmp .lt 13, 3) := by decide +kernel
theorem d12_6 : decode method_2_code 6 = .ok (.iload_n 0, 1) := by decide +kernel
theorem d12_7 : decode method_2_code 7 = .ok (.ldc 8, 2) := by decide +kernel
theorem d12_9 : decode method_2_code 9 = .ok (.if_icmp .gt 7, 3) := by decide +kernel
theorem d12_12 : decode method_2_code 12 = .ok (.iconst 1, 1) := by decide +kernel
theorem d12_13 : decode method_2_code 13 = .ok (.goto 4, 3) := by decide +kernel
theorem d12_16 : decode method_2_code 16 = .ok (.iconst 0, 1) := by decide +kernel
theorem d12_17 : decode method_2_code 17 = .ok (.ireturn, 1) := by decide +kernel
theorem d13_0 : decode method_3_code 0 = .ok (.iload_n 0, 1) := by decide +kernel
theorem d13_1 : decode method_3_code 1 = .ok (.ldc 9, 2) := by decide +kernel
theorem d13_3 : decode method_3_code 3 = .ok (.if_icmp .lt 13, 3) := by decide +kernel
theorem d13_6 : decode method_3_code 6 = .ok (.iload_n 0, 1) := by decide +kernel
theorem d13_7 : decode method_3_code 7 = .ok (.ldc 10, 2) := by decide +kernel
theorem d13_9 : decode method_3_code 9 = .ok (.if_icmp .gt 7, 3) := by decide +kernel
theorem d13_12 : decode method_3_code 12 = .ok (.iconst 1, 1) := by decide +kernel
theorem d13_13 : decode method_3_code 13 = .ok (.goto 4, 3) := by decide +kernel
theorem d13_16 : decode method_3_code 16 = .ok (.iconst 0, 1) := by decide +kernel
theorem d13_17 : decode method_3_code 17 = .ok (.ireturn, 1) := by decide +kernel
theorem d14_0 : decode jdk_42_method_56_code 0 = .ok (.aload_n 0, 1) := by decide +kernel
theorem d14_1 : decode jdk_42_method_56_code 1 = .ok (.invokevirtual 492, 3) := by decide +kernel
theorem d14_4 : decode jdk_42_method_56_code 4 = .ok (.ifCond .eq 12, 3) := by decide +kernel
theorem d14_7 : decode jdk_42_method_56_code 7 = .ok (.aload_n 0, 1) := by decide +kernel
theorem d14_8 : decode jdk_42_method_56_code 8 = .ok (.getfield 9, 3) := by decide +kernel
theorem d14_11 : decode jdk_42_method_56_code 11 = .ok (.iload_n 1, 1) := by decide +kernel
theorem d14_12 : decode jdk_42_method_56_code 12 = .ok (.invokestatic 495, 3) := by decide +kernel
theorem d14_15 : decode jdk_42_method_56_code 15 = .ok (.ireturn, 1) := by decide +kernel
theorem d14_16 : decode jdk_42_method_56_code 16 = .ok (.aload_n 0, 1) := by decide +kernel
theorem d14_17 : decode jdk_42_method_56_code 17 = .ok (.getfield 9, 3) := by decide +kernel
theorem d14_20 : decode jdk_42_method_56_code 20 = .ok (.iload_n 1, 1) := by decide +kernel
theorem d14_21 : decode jdk_42_method_56_code 21 = .ok (.invokestatic 498, 3) := by decide +kernel
theorem d14_24 : decode jdk_42_method_56_code 24 = .ok (.ireturn, 1) := by decide +kernel
theorem d15_0 : decode jdk_42_method_154_code 0 = .ok (.getstatic 38, 3) := by decide +kernel
theorem d15_3 : decode jdk_42_method_154_code 3 = .ok (.ifCond .eq 14, 3) := by decide +kernel
theorem d15_6 : decode jdk_42_method_154_code 6 = .ok (.aload_n 0, 1) := by decide +kernel
theorem d15_7 : decode jdk_42_method_154_code 7 = .ok (.getfield 15, 3) := by decide +kernel
theorem d15_10 : decode jdk_42_method_154_code 10 = .ok (.ifCond .ne 7, 3) := by decide +kernel
theorem d15_13 : decode jdk_42_method_154_code 13 = .ok (.iconst 1, 1) := by decide +kernel
theorem d15_14 : decode jdk_42_method_154_code 14 = .ok (.goto 4, 3) := by decide +kernel
theorem d15_17 : decode jdk_42_method_154_code 17 = .ok (.iconst 0, 1) := by decide +kernel
theorem d15_18 : decode jdk_42_method_154_code 18 = .ok (.ireturn, 1) := by decide +kernel
theorem d16_0 : decode jdk_43_method_2_code 0 = .ok (.iload_n 1, 1) := by decide +kernel
theorem d16_1 : decode jdk_43_method_2_code 1 = .ok (.aload_n 0, 1) := by decide +kernel
theorem d16_2 : decode jdk_43_method_2_code 2 = .ok (.arraylength, 1) := by decide +kernel
theorem d16_3 : decode jdk_43_method_2_code 3 = .ok (.invokestatic 9, 3) := by decide +kernel
theorem d16_6 : decode jdk_43_method_2_code 6 = .ok (.aload_n 0, 1) := by decide +kernel
theorem d16_7 : decode jdk_43_method_2_code 7 = .ok (.iload_n 1, 1) := by decide +kernel
theorem d16_8 : decode jdk_43_method_2_code 8 = .ok (.baload, 1) := by decide +kernel
theorem d16_9 : decode jdk_43_method_2_code 9 = .ok (.sipush 255, 3) := by decide +kernel
theorem d16_12 : decode jdk_43_method_2_code 12 = .ok (.iand, 1) := by decide +kernel
theorem d16_13 : decode jdk_43_method_2_code 13 = .ok (.i2c, 1) := by decide +kernel
theorem d16_14 : decode jdk_43_method_2_code 14 = .ok (.ireturn, 1) := by decide +kernel
theorem d17_0 : decode jdk_42_method_155_code 0 = .ok (.iload_n 0, 1) := by decide +kernel
theorem d17_1 : decode jdk_42_method_155_code 1 = .ok (.iload_n 1, 1) := by decide +kernel
theorem d17_2 : decode jdk_42_method_155_code 2 = .ok (.getstatic 1053, 3) := by decide +kernel
theorem d17_5 : decode jdk_42_method_155_code 5 = .ok (.invokestatic 1059, 3) := by decide +kernel
theorem d17_8 : decode jdk_42_method_155_code 8 = .ok (.pop, 1) := by decide +kernel
theorem d17_9 : decode jdk_42_method_155_code 9 = .ok (.return_, 1) := by decide +kernel
theorem d18_0 : decode jdk_41_method_11_code 0 = .ok (.iload_n 0, 1) := by decide +kernel
theorem d18_1 : decode jdk_41_method_11_code 1 = .ok (.ifCond .lt 8, 3) := by decide +kernel
theorem d18_4 : decode jdk_41_method_11_code 4 = .ok (.iload_n 0, 1) := by decide +kernel
theorem d18_5 : decode jdk_41_method_11_code 5 = .ok (.iload_n 1, 1) := by decide +kernel
theorem d18_6 : decode jdk_41_method_11_code 6 = .ok (.if_icmp .lt 10, 3) := by decide +kernel
theorem d18_16 : decode jdk_41_method_11_code 16 = .ok (.iload_n 0, 1) := by decide +kernel
theorem d18_17 : decode jdk_41_method_11_code 17 = .ok (.ireturn, 1) := by decide +kernel
theorem d19_0 : decode jdk_89_method_14_code 0 = .ok (.iload_n 0, 1) := by decide +kernel
theorem d19_1 : decode jdk_89_method_14_code 1 = .ok (.ldc 75, 2) := by decide +kernel
theorem d19_3 : decode jdk_89_method_14_code 3 = .ok (.if_icmp .lt 13, 3) := by decide +kernel
theorem d19_6 : decode jdk_89_method_14_code 6 = .ok (.iload_n 0, 1) := by decide +kernel
theorem d19_7 : decode jdk_89_method_14_code 7 = .ok (.ldc 76, 2) := by decide +kernel
theorem d19_9 : decode jdk_89_method_14_code 9 = .ok (.if_icmp .ge 7, 3) := by decide +kernel
theorem d19_12 : decode jdk_89_method_14_code 12 = .ok (.iconst 1, 1) := by decide +kernel
theorem d19_13 : decode jdk_89_method_14_code 13 = .ok (.goto 4, 3) := by decide +kernel
theorem d19_16 : decode jdk_89_method_14_code 16 = .ok (.iconst 0, 1) := by decide +kernel
theorem d19_17 : decode jdk_89_method_14_code 17 = .ok (.ireturn, 1) := by decide +kernel
theorem d20_0 : decode jdk_89_method_16_code 0 = .ok (.iload_n 0, 1) := by decide +kernel
theorem d20_1 : decode jdk_89_method_16_code 1 = .ok (.ldc 75, 2) := by decide +kernel
theorem d20_3 : decode jdk_89_method_16_code 3 = .ok (.if_icmp .lt 13, 3) := by decide +kernel
theorem d20_6 : decode jdk_89_method_16_code 6 = .ok (.iload_n 0, 1) := by decide +kernel
theorem d20_7 : decode jdk_89_method_16_code 7 = .ok (.ldc 77, 2) := by decide +kernel
theorem d20_9 : decode jdk_89_method_16_code 9 = .ok (.if_icmp .ge 7, 3) := by decide +kernel
theorem d20_12 : decode jdk_89_method_16_code 12 = .ok (.iconst 1, 1) := by decide +kernel
theorem d20_13 : decode jdk_89_method_16_code 13 = .ok (.goto 4, 3) := by decide +kernel
theorem d20_16 : decode jdk_89_method_16_code 16 = .ok (.iconst 0, 1) := by decide +kernel
theorem d20_17 : decode jdk_89_method_16_code 17 = .ok (.ireturn, 1) := by decide +kernel
theorem d21_0 : decode jdk_52_method_14_code 0 = .ok (.iload_n 2, 1) := by decide +kernel
theorem d21_1 : decode jdk_52_method_14_code 1 = .ok (.invokestatic 107, 3) := by decide +kernel
theorem d21_4 : decode jdk_52_method_14_code 4 = .ok (.astore_n 3, 1) := by decide +kernel
theorem d21_5 : decode jdk_52_method_14_code 5 = .ok (.iconst 0, 1) := by decide +kernel
theorem d21_6 : decode jdk_52_method_14_code 6 = .ok (.istore 4, 2) := by decide +kernel
theorem d21_8 : decode jdk_52_method_14_code 8 = .ok (.iload 4, 2) := by decide +kernel
theorem d21_10 : decode jdk_52_method_14_code 10 = .ok (.iload_n 2, 1) := by decide +kernel
theorem d21_11 : decode jdk_52_method_14_code 11 = .ok (.if_icmp .ge 21, 3) := by decide +kernel
theorem d21_14 : decode jdk_52_method_14_code 14 = .ok (.aload_n 3, 1) := by decide +kernel
theorem d21_15 : decode jdk_52_method_14_code 15 = .ok (.iload 4, 2) := by decide +kernel
theorem d21_17 : decode jdk_52_method_14_code 17 = .ok (.aload_n 0, 1) := by decide +kernel
theorem d21_18 : decode jdk_52_method_14_code 18 = .ok (.iload_n 1, 1) := by decide +kernel
theorem d21_19 : decode jdk_52_method_14_code 19 = .ok (.caload, 1) := by decide +kernel
theorem d21_20 : decode jdk_52_method_14_code 20 = .ok (.invokestatic 111, 3) := by decide +kernel
theorem d21_23 : decode jdk_52_method_14_code 23 = .ok (.iinc 1 1, 3) := by decide +kernel
theorem d21_26 : decode jdk_52_method_14_code 26 = .ok (.iinc 4 1, 3) := by decide +kernel
theorem d21_29 : decode jdk_52_method_14_code 29 = .ok (.goto (-21), 3) := by decide +kernel
theorem d21_32 : decode jdk_52_method_14_code 32 = .ok (.aload_n 3, 1) := by decide +kernel
theorem d21_33 : decode jdk_52_method_14_code 33 = .ok (.areturn, 1) := by decide +kernel
theorem d22_0 : decode jdk_52_method_2_code 0 = .ok (.iload_n 0, 1) := by decide +kernel
theorem d22_1 : decode jdk_52_method_2_code 1 = .ok (.invokestatic 11, 3) := by decide +kernel
theorem d22_4 : decode jdk_52_method_2_code 4 = .ok (.newarray .byte, 2) := by decide +kernel
theorem d22_6 : decode jdk_52_method_2_code 6 = .ok (.areturn, 1) := by decide +kernel
theorem d23_0 : decode jdk_52_method_3_code 0 = .ok (.iload_n 0, 1) := by decide +kernel
theorem d23_1 : decode jdk_52_method_3_code 1 = .ok (.ifCond .ge 11, 3) := by decide +kernel
theorem d23_12 : decode jdk_52_method_3_code 12 = .ok (.iload_n 0, 1) := by decide +kernel
theorem d23_13 : decode jdk_52_method_3_code 13 = .ok (.ldc 20, 2) := by decide +kernel
theorem d23_15 : decode jdk_52_method_3_code 15 = .ok (.if_icmp .lt 40, 3) := by decide +kernel
theorem d23_55 : decode jdk_52_method_3_code 55 = .ok (.iload_n 0, 1) := by decide +kernel
theorem d23_56 : decode jdk_52_method_3_code 56 = .ok (.iconst 1, 1) := by decide +kernel
theorem d23_57 : decode jdk_52_method_3_code 57 = .ok (.ishl, 1) := by decide +kernel
theorem d23_58 : decode jdk_52_method_3_code 58 = .ok (.ireturn, 1) := by decide +kernel
theorem d24_0 : decode jdk_52_method_4_code 0 = .ok (.getstatic 44, 3) := by decide +kernel
theorem d24_3 : decode jdk_52_method_4_code 3 = .ok (.ifCond .ne 25, 3) := by decide +kernel
theorem d24_28 : decode jdk_52_method_4_code 28 = .ok (.iload_n 1, 1) := by decide +kernel
theorem d24_29 : decode jdk_52_method_4_code 29 = .ok (.iconst 1, 1) := by decide +kernel
theorem d24_30 : decode jdk_52_method_4_code 30 = .ok (.ishl, 1) := by decide +kernel
theorem d24_31 : decode jdk_52_method_4_code 31 = .ok (.istore_n 1, 1) := by decide +kernel
theorem d24_32 : decode jdk_52_method_4_code 32 = .ok (.aload_n 0, 1) := by decide +kernel
theorem d24_33 : decode jdk_52_method_4_code 33 = .ok (.iload_n 1, 1) := by decide +kernel
theorem d24_34 : decode jdk_52_method_4_code 34 = .ok (.iinc 1 1, 3) := by decide +kernel
theorem d24_37 : decode jdk_52_method_4_code 37 = .ok (.iload_n 2, 1) := by decide +kernel
theorem d24_38 : decode jdk_52_method_4_code 38 = .ok (.getstatic 59, 3) := by decide +kernel
theorem d24_41 : decode jdk_52_method_4_code 41 = .ok (.ishr, 1) := by decide +kernel
theorem d24_42 : decode jdk_52_method_4_code 42 = .ok (.i2b, 1) := by decide +kernel
theorem d24_43 : decode jdk_52_method_4_code 43 = .ok (.bastore, 1) := by decide +kernel
theorem d24_44 : decode jdk_52_method_4_code 44 = .ok (.aload_n 0, 1) := by decide +kernel
theorem d24_45 : decode jdk_52_method_4_code 45 = .ok (.iload_n 1, 1) := by decide +kernel
theorem d24_46 : decode jdk_52_method_4_code 46 = .ok (.iload_n 2, 1) := by decide +kernel
theorem d24_47 : decode jdk_52_method_4_code 47 = .ok (.getstatic 63, 3) := by decide +kernel
theorem d24_50 : decode jdk_52_method_4_code 50 = .ok (.ishr, 1) := by decide +kernel
theorem d24_51 : decode jdk_52_method_4_code 51 = .ok (.i2b, 1) := by decide +kernel
theorem d24_52 : decode jdk_52_method_4_code 52 = .ok (.bastore, 1) := by decide +kernel
theorem d24_53 : decode jdk_52_method_4_code 53 = .ok (.return_, 1) := by decide +kernel
theorem d25_0 : decode jdk_52_method_5_code 0 = .ok (.getstatic 44, 3) := by decide +kernel
theorem d25_3 : decode jdk_52_method_5_code 3 = .ok (.ifCond .ne 25, 3) := by decide +kernel
theorem d25_28 : decode jdk_52_method_5_code 28 = .ok (.iload_n 1, 1) := by decide +kernel
theorem d25_29 : decode jdk_52_method_5_code 29 = .ok (.iconst 1, 1) := by decide +kernel
theorem d25_30 : decode jdk_52_method_5_code 30 = .ok (.ishl, 1) := by decide +kernel
theorem d25_31 : decode jdk_52_method_5_code 31 = .ok (.istore_n 1, 1) := by decide +kernel
theorem d25_32 : decode jdk_52_method_5_code 32 = .ok (.aload_n 0, 1) := by decide +kernel
theorem d25_33 : decode jdk_52_method_5_code 33 = .ok (.iload_n 1, 1) := by decide +kernel
theorem d25_34 : decode jdk_52_method_5_code 34 = .ok (.iinc 1 1, 3) := by decide +kernel
theorem d25_37 : decode jdk_52_method_5_code 37 = .ok (.baload, 1) := by decide +kernel
theorem d25_38 : decode jdk_52_method_5_code 38 = .ok (.sipush 255, 3) := by decide +kernel
theorem d25_41 : decode jdk_52_method_5_code 41 = .ok (.iand, 1) := by decide +kernel
theorem d25_42 : decode jdk_52_method_5_code 42 = .ok (.getstatic 59, 3) := by decide +kernel
theorem d25_45 : decode jdk_52_method_5_code 45 = .ok (.ishl, 1) := by decide +kernel
theorem d25_46 : decode jdk_52_method_5_code 46 = .ok (.aload_n 0, 1) := by decide +kernel
theorem d25_47 : decode jdk_52_method_5_code 47 = .ok (.iload_n 1, 1) := by decide +kernel
theorem d25_48 : decode jdk_52_method_5_code 48 = .ok (.baload, 1) := by decide +kernel
theorem d25_49 : decode jdk_52_method_5_code 49 = .ok (.sipush 255, 3) := by decide +kernel
theorem d25_52 : decode jdk_52_method_5_code 52 = .ok (.iand, 1) := by decide +kernel
theorem d25_53 : decode jdk_52_method_5_code 53 = .ok (.getstatic 63, 3) := by decide +kernel
theorem d25_56 : decode jdk_52_method_5_code 56 = .ok (.ishl, 1) := by decide +kernel
theorem d25_57 : decode jdk_52_method_5_code 57 = .ok (.ior, 1) := by decide +kernel
theorem d25_58 : decode jdk_52_method_5_code 58 = .ok (.i2c, 1) := by decide +kernel
theorem d25_59 : decode jdk_52_method_5_code 59 = .ok (.ireturn, 1) := by decide +kernel
theorem d26_0 : decode jdk_52_method_83_code 0 = .ok (.iload_n 1, 1) := by decide +kernel
theorem d26_1 : decode jdk_52_method_83_code 1 = .ok (.aload_n 0, 1) := by decide +kernel
theorem d26_2 : decode jdk_52_method_83_code 2 = .ok (.invokestatic 67, 3) := by decide +kernel
theorem d26_5 : decode jdk_52_method_83_code 5 = .ok (.aload_n 0, 1) := by decide +kernel
theorem d26_6 : decode jdk_52_method_83_code 6 = .ok (.iload_n 1, 1) := by decide +kernel
theorem d26_7 : decode jdk_52_method_83_code 7 = .ok (.invokestatic 71, 3) := by decide +kernel
theorem d26_10 : decode jdk_52_method_83_code 10 = .ok (.ireturn, 1) := by decide +kernel
theorem d27_0 : decode jdk_52_method_91_code 0 = .ok (.iload_n 0, 1) := by decide +kernel
theorem d27_1 : decode jdk_52_method_91_code 1 = .ok (.aload_n 1, 1) := by decide +kernel
theorem d27_2 : decode jdk_52_method_91_code 2 = .ok (.invokestatic 48, 3) := by decide +kernel
theorem d27_5 : decode jdk_52_method_91_code 5 = .ok (.invokestatic 414, 3) := by decide +kernel
theorem d27_8 : decode jdk_52_method_91_code 8 = .ok (.return_, 1) := by decide +kernel
theorem d28_0 : decode jdk_52_method_6_code 0 = .ok (.aload_n 0, 1) := by decide +kernel
theorem d28_1 : decode jdk_52_method_6_code 1 = .ok (.arraylength, 1) := by decide +kernel
theorem d28_2 : decode jdk_52_method_6_code 2 = .ok (.iconst 1, 1) := by decide +kernel
theorem d28_3 : decode jdk_52_method_6_code 3 = .ok (.ishr, 1) := by decide +kernel
theorem d28_4 : decode jdk_52_method_6_code 4 = .ok (.ireturn, 1) := by decide +kernel
theorem d29_0 : decode jdk_89_method_15_code 0 = .ok (.iload_n 0, 1) := by decide +kernel
theorem d29_1 : decode jdk_89_method_15_code 1 = .ok (.ldc 76, 2) := by decide +kernel
theorem d29_3 : decode jdk_89_method_15_code 3 = .ok (.if_icmp .lt 13, 3) := by decide +kernel
theorem d29_6 : decode jdk_89_method_15_code 6 = .ok (.iload_n 0, 1) := by decide +kernel
theorem d29_7 : decode jdk_89_method_15_code 7 = .ok (.ldc 77, 2) := by decide +kernel
theorem d29_9 : decode jdk_89_method_15_code 9 = .ok (.if_icmp .ge 7, 3) := by decide +kernel
theorem d29_12 : decode jdk_89_method_15_code 12 = .ok (.iconst 1, 1) := by decide +kernel
theorem d29_13 : decode jdk_89_method_15_code 13 = .ok (.goto 4, 3) := by decide +kernel
theorem d29_16 : decode jdk_89_method_15_code 16 = .ok (.iconst 0, 1) := by decide +kernel
theorem d29_17 : decode jdk_89_method_15_code 17 = .ok (.ireturn, 1) := by decide +kernel
theorem pd0 : parseMethodDescriptor "(I)I" = some ⟨[.int], (some .int)⟩ := by decide +kernel
theorem pd1 : parseMethodDescriptor "(I)[B" = some ⟨[.int], (some (.array .byte))⟩ := by decide +kernel
theorem pd2 : parseMethodDescriptor "([BII)V" = some ⟨[(.array .byte), .int, .int], none⟩ := by decide +kernel
theorem pd3 : parseMethodDescriptor "([CI[BII)I" = some ⟨[(.array .char), .int, (.array .byte), .int, .int], (some .int)⟩ := by decide +kernel
theorem pd4 : parseMethodDescriptor "([CII)[B" = some ⟨[(.array .char), .int, .int], (some (.array .byte))⟩ := by decide +kernel
theorem pd5 : parseMethodDescriptor "([BI)C" = some ⟨[(.array .byte), .int], (some .char)⟩ := by decide +kernel
theorem pd6 : parseMethodDescriptor "([BI)B" = some ⟨[(.array .byte), .int], (some .byte)⟩ := by decide +kernel
theorem pd7 : parseMethodDescriptor "([CIILjava/lang/Void;)V" = some ⟨[(.array .char), .int, .int, (.object "java/lang/Void")], none⟩ := by decide +kernel
theorem pd8 : parseMethodDescriptor "(C)Z" = some ⟨[.char], (some .boolean)⟩ := by decide +kernel
theorem pd9 : parseMethodDescriptor "(IILjava/util/function/BiFunction;)I" = some ⟨[.int, .int, (.object "java/util/function/BiFunction")], (some .int)⟩ := by decide +kernel
theorem pd10 : parseMethodDescriptor "([B)I" = some ⟨[(.array .byte)], (some .int)⟩ := by decide +kernel
theorem pd11 : parseMethodDescriptor "(II)V" = some ⟨[.int, .int], none⟩ := by decide +kernel
theorem pd12 : parseMethodDescriptor "(I[B)V" = some ⟨[.int, (.array .byte)], none⟩ := by decide +kernel
theorem pd13 : parseMethodDescriptor "()B" = some ⟨[], (some .byte)⟩ := by decide +kernel
theorem pd14 : parseMethodDescriptor "()Z" = some ⟨[], (some .boolean)⟩ := by decide +kernel
theorem pd15 : parseMethodDescriptor "()I" = some ⟨[], (some .int)⟩ := by decide +kernel
theorem pd16 : parseMethodDescriptor "(I)C" = some ⟨[.int], (some .char)⟩ := by decide +kernel
theorem pd17 : parseMethodDescriptor "([C)V" = some ⟨[(.array .char)], none⟩ := by decide +kernel
theorem pd18 : parseMethodDescriptor "(ZZCCZC)Z" = some ⟨[.boolean, .boolean, .char, .char, .boolean, .char], (some .boolean)⟩ := by decide +kernel
theorem pd19 : parseMethodDescriptor "(Ljava/lang/String;)Z" = some ⟨[(.object "java/lang/String")], (some .boolean)⟩ := by decide +kernel
theorem pn0 : plainName "com/example/consentry/consentry/io/UnicodeIsTextPinLaw" = true := by first | (simp [plainName, overriddenIn]; done) | decide +kernel
theorem pn1 : plainName "com/example/consentry/consentry/io/Unicode" = true := by first | (simp [plainName, overriddenIn]; done) | decide +kernel
theorem own_w {a0 : Array Value} {Z : State} (hw : ∀ d ∈ tables_1, d.before a0 Z = true) (i : Nat) {d : Jvm.Cond} (h : tables_1[i]? = some d) : d.before a0 Z = true := hw _ (List.mem_of_getElem? h)

theorem own_nc {v : Int32} (h : 0 ≤ v.toInt ∧ v.toInt < 65536) : nar .char v = v := by
  apply Int32.toInt_inj.mp
  show v.toUInt32.toUInt16.toUInt32.toInt32.toInt = v.toInt
  have := c_i2c v
  omega
theorem own_nb {v : Int32} (h : -128 ≤ v.toInt ∧ v.toInt < 128) : nar .byte v = v := by
  apply Int32.toInt_inj.mp
  show v.toInt8.toInt32.toInt = v.toInt
  have := c_i2b v
  omega
theorem own_cat {v : Value} (h : v.isRef = true) : v.category = 1 := by cases v <;> first | rfl | (cases h; done)
theorem own_fld_inj {Z : State} {h : Heap} {a : Addr} {C n d : String} {v w : Value} (F : Fld Z h a C n d v) (G : Fld Z h a C n d w) : v = w := by
  obtain ⟨c1, d1, k1, i1, f1, p1, p2, p3, p4, p5, p6, p7⟩ := F
  obtain ⟨c2, d2, k2, i2, f2, q1, q2, q3, q4, q5, q6, q7⟩ := G
  cases p1.symm.trans q1
  cases p2.symm.trans q2
  exact Option.some.inj (p7.symm.trans q7)
theorem strAtoms (l : Launch) (Z : State) (a0 : Array Value) (hw : ∀ d ∈ tables_1, d.before a0 Z = true) : ∀ a ∈ Bundle.stringAtoms, a.before a0 Z = true := by
  intro a ha
  simp only [Bundle.stringAtoms, List.mem_cons, List.not_mem_nil, or_false] at ha
  rcases ha with rfl | rfl | rfl | rfl | rfl | rfl | rfl
  · exact (own_w hw 8 rfl)
  · exact (own_w hw 7 rfl)
  · exact (own_w hw 20 rfl)
  · exact (own_w hw 21 rfl)
  · exact (own_w hw 22 rfl)
  · exact (own_w hw 23 rfl)
  · exact (own_w hw 24 rfl)

theorem own_eqI {args : Array Value} {s : State} {t : Term} {n : Int32} (h : (Jvm.Cond.eq t (.int n)).value args s none s [] = some true) : t.eval args s none [] s = some (.int n) := by
  obtain ⟨x, y, e1, e2, k, k'⟩ := cmp_v (Or.inl h)
  obtain rfl : y = .int n := (Option.some.inj (e2.symm.trans (Term.int_eval n)))
  obtain ⟨z, rfl⟩ : ∃ z, x = .int z := k'
  have q : (Jvm.Cond.eq t (.int n)).value args s none s [] = some (decide (z = n)) := by simp [Cond.value, e1, e2]
  rw [q] at h
  rw [e1, of_decide_eq_true (Option.some.inj h)]

def own_k (c : Int32) : Int := if 55296 ≤ c.toInt ∧ c.toInt ≤ 56319 then 1 else if 56320 ≤ c.toInt ∧ c.toInt ≤ 57343 then 2 else 0
theorem own_kk (c : Int32) : (own_k c = 1 ∧ 55296 ≤ c.toInt ∧ c.toInt ≤ 56319) ∨ (own_k c = 2 ∧ 56320 ≤ c.toInt ∧ c.toInt ≤ 57343) ∨ (own_k c = 0 ∧ (c.toInt < 55296 ∨ 57343 < c.toInt)) := by
  unfold own_k; split
  · omega
  · split <;> omega
theorem own_kr (c : Int32) : own_k c = 0 ∨ own_k c = 1 ∨ own_k c = 2 := by have := own_kk c; omega
def own_tx : List Int32 → Prop
  | [] => True
  | [c] => own_k c = 0
  | c :: d :: L => (own_k c = 1 ∧ own_k d = 2 ∧ own_tx L) ∨ (own_k c = 0 ∧ own_tx (d :: L))
def own_ok (f1 f2 pv c f3 nx : Int32) : Prop := f1.toInt = 0 ∨ own_k c = 0 ∨ (own_k c = 1 ∧ f3.toInt ≠ 0 ∧ own_k nx = 2) ∨ (own_k c = 2 ∧ f2.toInt ≠ 0 ∧ own_k pv = 1)
theorem own_tx_hl {c d : Int32} {L : List Int32} (h : own_k c = 1) (k : own_k d = 2) : own_tx (c :: d :: L) ↔ own_tx L := by
  simp [own_tx, h, k]
theorem own_tx_hn {c d : Int32} {L : List Int32} (h : own_k c = 1) (k : ¬ own_k d = 2) : ¬ own_tx (c :: d :: L) := by
  simp [own_tx, h, k]
theorem own_tx_h1 {c : Int32} (h : own_k c = 1) : ¬ own_tx [c] := by simp [own_tx, h]
theorem own_tx_l {c : Int32} {L : List Int32} (h : own_k c = 2) : ¬ own_tx (c :: L) := by
  cases L <;> simp [own_tx, h]
theorem own_tx_0 {c : Int32} {L : List Int32} (h : own_k c = 0) : own_tx (c :: L) ↔ own_tx L := by
  cases L <;> simp [own_tx, h]
theorem own_k2 {c : Int32} (h : ¬ own_k c = 1) (k : own_k c ≠ 0) : own_k c = 2 := by have := own_kr c; omega
theorem own_f {P : Prop} (h : ¬ P) : ((0 : Int32).toInt = 1 ↔ P) := ⟨fun z => absurd z (by decide), fun p => absurd p h⟩
theorem own_b1 {r : Int32} {P : Prop} (i : r.toInt = 1 ↔ P) (h : r.toInt = 0 ∨ r.toInt = 1) (c : r.toInt ≠ 0) : P := i.mp (h.resolve_left c)
theorem own_b0 {r : Int32} {P : Prop} (i : r.toInt = 1 ↔ P) (c : r.toInt = 0) : ¬ P := fun p => by have := i.mpr p; omega
theorem own_neI {args : Array Value} {s : State} {t : Term} (hi : (Jvm.Cond.isInt t).value args s none s [] = some true) (h : (Jvm.Cond.not (.eq t (.int 0))).value args s none s [] = some true) : ∃ n : Int32, t.eval args s none [] s = some (.int n) ∧ n.toInt ≠ 0 := by
  obtain ⟨n, e⟩ := is_v hi
  refine ⟨n, e, fun q => ?_⟩
  have e0 : n = 0 := Int32.toInt_inj.mp q
  subst e0
  have e2 : (Term.int 0).eval args s none [] s = some (.int 0) := Term.int_eval 0
  simp [Cond.value, e, e2] at h
theorem own_refV {args : Array Value} {s : State} {t : Term} (h : (Jvm.Cond.isRef t).value args s none s [] = some true) : ∃ v : Value, t.eval args s none [] s = some v ∧ v.isRef = true := by
  cases e : t.eval args s none [] s with
  | none => simp [Cond.value, e] at h
  | some v => exact ⟨v, rfl, by cases v <;> first | rfl | (simp [Cond.value, e] at h; done)⟩
theorem own_l0 (c0 c1 c2 c3 : Int32) : own_tx [] ↔ (own_ok (0 : Int32) (0 : Int32) c0 c0 (0 : Int32) c1 ∧ own_ok (0 : Int32) (1 : Int32) c0 c1 (0 : Int32) c2 ∧ own_ok (0 : Int32) (1 : Int32) c1 c2 (0 : Int32) c3 ∧ own_ok (0 : Int32) (1 : Int32) c2 c3 (0 : Int32) c3) := by
  have z0 : (0 : Int32).toInt = 0 := rfl
  have z1 : (1 : Int32).toInt = 1 := rfl
  unfold own_ok
  simp only [z0, z1, own_tx]
  rcases own_kr c0 with h0 | h0 | h0 <;> rcases own_kr c1 with h1 | h1 | h1 <;> rcases own_kr c2 with h2 | h2 | h2 <;> rcases own_kr c3 with h3 | h3 | h3 <;> simp [h0, h1, h2, h3]
theorem own_l1 (c0 c1 c2 c3 : Int32) : own_tx [c0] ↔ (own_ok (1 : Int32) (0 : Int32) c0 c0 (0 : Int32) c1 ∧ own_ok (0 : Int32) (1 : Int32) c0 c1 (0 : Int32) c2 ∧ own_ok (0 : Int32) (1 : Int32) c1 c2 (0 : Int32) c3 ∧ own_ok (0 : Int32) (1 : Int32) c2 c3 (0 : Int32) c3) := by
  have z0 : (0 : Int32).toInt = 0 := rfl
  have z1 : (1 : Int32).toInt = 1 := rfl
  unfold own_ok
  simp only [z0, z1, own_tx]
  rcases own_kr c0 with h0 | h0 | h0 <;> rcases own_kr c1 with h1 | h1 | h1 <;> rcases own_kr c2 with h2 | h2 | h2 <;> rcases own_kr c3 with h3 | h3 | h3 <;> simp [h0, h1, h2, h3]
theorem own_l2 (c0 c1 c2 c3 : Int32) : own_tx [c0, c1] ↔ (own_ok (1 : Int32) (0 : Int32) c0 c0 (1 : Int32) c1 ∧ own_ok (1 : Int32) (1 : Int32) c0 c1 (0 : Int32) c2 ∧ own_ok (0 : Int32) (1 : Int32) c1 c2 (0 : Int32) c3 ∧ own_ok (0 : Int32) (1 : Int32) c2 c3 (0 : Int32) c3) := by
  have z0 : (0 : Int32).toInt = 0 := rfl
  have z1 : (1 : Int32).toInt = 1 := rfl
  unfold own_ok
  simp only [z0, z1, own_tx]
  rcases own_kr c0 with h0 | h0 | h0 <;> rcases own_kr c1 with h1 | h1 | h1 <;> rcases own_kr c2 with h2 | h2 | h2 <;> rcases own_kr c3 with h3 | h3 | h3 <;> simp [h0, h1, h2, h3]
theorem own_l3 (c0 c1 c2 c3 : Int32) : own_tx [c0, c1, c2] ↔ (own_ok (1 : Int32) (0 : Int32) c0 c0 (1 : Int32) c1 ∧ own_ok (1 : Int32) (1 : Int32) c0 c1 (1 : Int32) c2 ∧ own_ok (1 : Int32) (1 : Int32) c1 c2 (0 : Int32) c3 ∧ own_ok (0 : Int32) (1 : Int32) c2 c3 (0 : Int32) c3) := by
  have z0 : (0 : Int32).toInt = 0 := rfl
  have z1 : (1 : Int32).toInt = 1 := rfl
  unfold own_ok
  simp only [z0, z1, own_tx]
  rcases own_kr c0 with h0 | h0 | h0 <;> rcases own_kr c1 with h1 | h1 | h1 <;> rcases own_kr c2 with h2 | h2 | h2 <;> rcases own_kr c3 with h3 | h3 | h3 <;> simp [h0, h1, h2, h3]
theorem own_l4 (c0 c1 c2 c3 : Int32) : own_tx [c0, c1, c2, c3] ↔ (own_ok (1 : Int32) (0 : Int32) c0 c0 (1 : Int32) c1 ∧ own_ok (1 : Int32) (1 : Int32) c0 c1 (1 : Int32) c2 ∧ own_ok (1 : Int32) (1 : Int32) c1 c2 (1 : Int32) c3 ∧ own_ok (1 : Int32) (1 : Int32) c2 c3 (0 : Int32) c3) := by
  have z0 : (0 : Int32).toInt = 0 := rfl
  have z1 : (1 : Int32).toInt = 1 := rfl
  unfold own_ok
  simp only [z0, z1, own_tx]
  rcases own_kr c0 with h0 | h0 | h0 <;> rcases own_kr c1 with h1 | h1 | h1 <;> rcases own_kr c2 with h2 | h2 | h2 <;> rcases own_kr c3 with h3 | h3 | h3 <;> simp [h0, h1, h2, h3]

set_option maxRecDepth 65536 in
set_option maxHeartbeats 40000000 in
theorem m_gc (l : Launch) (Z : State) (a0 : Array Value) (hw : ∀ d ∈ tables_1, d.before a0 Z = true) (b : Addr) (A : List Value) (j lb g : Int32) (k : Nat) (h0 : Heap) (n0 : Nat) (z0 : n0 ≤ h0.size) (hO : Old Z n0 h0) (hSAD : Sta Z Z.heap "java/lang/StringUTF16" "$assertionsDisabled" "Z" (.int 1)) (hSHB : Sta Z Z.heap "java/lang/StringUTF16" "HI_BYTE_SHIFT" "I" (.int 0)) (hSLB : Sta Z Z.heap "java/lang/StringUTF16" "LO_BYTE_SHIFT" "I" (.int 8)) (hA : Ary Z h0 b .byte A) (hj : j.toInt = (k : Int)) (hk : k ≤ 100) (hl : A[2 * k]? = some (.int lb)) (hgg : A[2 * k + 1]? = some (.int g)) : Mt .n l Z (⟨"java/lang/StringUTF16", "getChar", "([BI)C"⟩ : MethodName) jdk_52_method_5_code 2 (some .char) ({ frames := 0, cells := 0, slots := 0, locals := 0 } : Room) n0 (fun v h => ∃ r : Int32, v = some (.int r) ∧ h0 = h ∧ r.toInt = lb.toInt % 256 + 256 * (g.toInt % 256)) h0 #[(.ref b), (.int j)] := by
  refine Mt.go (Ls := #[.val (.ref b), .val (.int j)]) (by first | exact plainFor_of_name (by decide +kernel) | decide +kernel | (simp [plainFor]; done)) (fun m => by first | (simp [entryFrame, mkF, argsToLocals, Value.category]; done) | rfl) ?_
  show Go _ _ _ _ _ _ _ _ _ _ _ _ h0 0 0 0 #[.val (.ref b), .val (.int j)] []
  have hTAD := Sta.ext hO.2 hSAD
  have hTHB := Sta.ext hO.2 hSHB
  have hTLB := Sta.ext hO.2 hSLB
  refine Go.getS (pc' := 3) (own_w hw 106 rfl) hTAD d25_0 rfl ?_
  refine Go.ifc (pc1 := 28) (pc2 := 6) d25_3 (by decide) (by decide) rfl (fun (c_1 : (1 : Int) ≠ 0) => ?_) (fun (c_1 : (1 : Int) = 0) => ?_)
  rotate_left
  · exact absurd c_1 (by decide)
  refine Go.iloadN (pc' := 29) d25_28 rfl rfl ?_
  refine Go.iconst (pc' := 30) (v := (1 : Int32)) d25_29 rfl rfl ?_
  refine Go.ishl (pc' := 31) d25_30 rfl ?_
  generalize et_2 : j <<< ((1 : Int32) &&& 31) = t_2
  have k_3 : t_2.toInt = 2 * (k : Int) := by
    rw [← et_2]
    have : (1 : Int32).toInt = 1 := by decide
    have := c_ishl j (1 : Int32) 1 (by decide)
    have := rng32 (j <<< ((1 : Int32) &&& 31))
    have := rng32 j
    omega
  refine Go.istoreN (pc' := 32) (Ls' := #[.val (.ref b), .val (.int t_2)]) d25_31 rfl rfl ?_
  refine Go.aloadN (pc' := 33) d25_32 rfl rfl rfl ?_
  refine Go.iloadN (pc' := 34) d25_33 rfl rfl ?_
  refine Go.iinc (pc' := 37) (w := t_2 + (1 : Int32)) (Ls' := #[.val (.ref b), .val (.int (t_2 + (1 : Int32)))]) d25_34 rfl rfl rfl rfl ?_
  refine Go.ldB (pc' := 38) (k := (2 * k)) (v := (.int lb)) hA (by omega) hl d25_37 rfl ?_
  refine Go.sipush (pc' := 41) (v := (255 : Int32)) d25_38 rfl rfl ?_
  refine Go.iand (pc' := 42) d25_41 rfl ?_
  refine Go.getS (pc' := 45) (own_w hw 107 rfl) hTHB d25_42 rfl ?_
  refine Go.ishl (pc' := 46) d25_45 rfl ?_
  generalize ex_4 : (lb &&& (255 : Int32)) <<< ((0 : Int32) &&& 31) = x_4
  have k_5 : x_4.toInt = lb.toInt % 256 := by
    rw [← ex_4]
    have : (255 : Int32).toInt = 255 := by decide
    have := c_mask lb (255 : Int32) 8 (by decide) (by decide)
    have := rng32 (lb &&& (255 : Int32))
    have := rng32 lb
    have : (0 : Int32).toInt = 0 := by decide
    have := c_ishl (lb &&& (255 : Int32)) (0 : Int32) 0 (by decide)
    have := rng32 ((lb &&& (255 : Int32)) <<< ((0 : Int32) &&& 31))
    omega
  refine Go.aloadN (pc' := 47) d25_46 rfl rfl rfl ?_
  refine Go.iloadN (pc' := 48) d25_47 rfl rfl ?_
  refine Go.ldB (pc' := 49) (k := (2 * k + 1)) (v := (.int g)) hA (by have := c_iadd t_2 (1 : Int32); have := rng32 (t_2 + (1 : Int32)); have o : (1 : Int32).toInt = 1 := rfl; omega) hgg d25_48 rfl ?_
  refine Go.sipush (pc' := 52) (v := (255 : Int32)) d25_49 rfl rfl ?_
  refine Go.iand (pc' := 53) d25_52 rfl ?_
  refine Go.getS (pc' := 56) (own_w hw 108 rfl) hTLB d25_53 rfl ?_
  refine Go.ishl (pc' := 57) d25_56 rfl ?_
  generalize ey_6 : (g &&& (255 : Int32)) <<< ((8 : Int32) &&& 31) = y_6
  have k_7 : y_6.toInt = 256 * (g.toInt % 256) := by
    rw [← ey_6]
    have : (255 : Int32).toInt = 255 := by decide
    have := c_mask g (255 : Int32) 8 (by decide) (by decide)
    have := rng32 (g &&& (255 : Int32))
    have := rng32 g
    have : (8 : Int32).toInt = 8 := by decide
    have := c_ishl (g &&& (255 : Int32)) (8 : Int32) 8 (by decide)
    have := rng32 ((g &&& (255 : Int32)) <<< ((8 : Int32) &&& 31))
    omega
  refine Go.ior (pc' := 58) d25_57 rfl ?_
  generalize ez_8 : x_4 ||| y_6 = z_8
  have kz : z_8.toInt = x_4.toInt + y_6.toInt := by
    rw [← ez_8]
    have := c_or' x_4 y_6 8 (by decide) 256 (by decide) (by omega) (by omega) (by omega)
    have := rng32 (x_4 ||| y_6)
    omega
  refine Go.i2c (pc' := 59) d25_58 rfl ?_
  generalize er_9 : z_8.toUInt32.toUInt16.toUInt32.toInt32 = r_9
  have k_10 : r_9.toInt = lb.toInt % 256 + 256 * (g.toInt % 256) := by
    rw [← er_9]
    have := c_i2c z_8
    have := rng32 z_8.toUInt32.toUInt16.toUInt32.toInt32
    have := rng32 z_8
    omega
  exact Go.retN (t := .char) d25_59 rfl (by simp) (own_nc (by omega)) ⟨_, rfl, rfl, by omega⟩ (by decide) (by decide)
set_option maxRecDepth 65536 in
set_option maxHeartbeats 40000000 in
theorem m_pc (l : Launch) (Z : State) (a0 : Array Value) (hw : ∀ d ∈ tables_1, d.before a0 Z = true) (b : Addr) (A : List Value) (j c : Int32) (k : Nat) (h0 : Heap) (n0 : Nat) (z0 : n0 ≤ h0.size) (hO : Old Z n0 h0) (hSAD : Sta Z Z.heap "java/lang/StringUTF16" "$assertionsDisabled" "Z" (.int 1)) (hSHB : Sta Z Z.heap "java/lang/StringUTF16" "HI_BYTE_SHIFT" "I" (.int 0)) (hSLB : Sta Z Z.heap "java/lang/StringUTF16" "LO_BYTE_SHIFT" "I" (.int 8)) (hA : Ary Z h0 b .byte A) (hj : j.toInt = (k : Int)) (hk : k ≤ 100) (hl : 2 * k + 1 < A.length) (hc : 0 ≤ c.toInt ∧ c.toInt < 65536) (hg : n0 ≤ b) : Mt .n l Z (⟨"java/lang/StringUTF16", "putChar", "([BII)V"⟩ : MethodName) jdk_52_method_4_code 3 none ({ frames := 0, cells := 0, slots := 0, locals := 0 } : Room) n0 (fun v h => v = none ∧ ∃ l g : Int32, Keep h0 h [b] ∧ Ary Z h b .byte ((A.set (2 * k) (.int l)).set (2 * k + 1) (.int g)) ∧ l.toInt % 256 + 256 * (g.toInt % 256) = c.toInt) h0 #[(.ref b), (.int j), (.int c)] := by
  refine Mt.go (Ls := #[.val (.ref b), .val (.int j), .val (.int c)]) (by first | exact plainFor_of_name (by decide +kernel) | decide +kernel | (simp [plainFor]; done)) (fun m => by first | (simp [entryFrame, mkF, argsToLocals, Value.category]; done) | rfl) ?_
  show Go _ _ _ _ _ _ _ _ _ _ _ _ h0 0 0 0 #[.val (.ref b), .val (.int j), .val (.int c)] []
  have hTAD := Sta.ext hO.2 hSAD
  have hTHB := Sta.ext hO.2 hSHB
  have hTLB := Sta.ext hO.2 hSLB
  refine Go.getS (pc' := 3) (own_w hw 106 rfl) hTAD d24_0 rfl ?_
  refine Go.ifc (pc1 := 28) (pc2 := 6) d24_3 (by decide) (by decide) rfl (fun (c_11 : (1 : Int) ≠ 0) => ?_) (fun (c_11 : (1 : Int) = 0) => ?_)
  rotate_left
  · exact absurd c_11 (by decide)
  refine Go.iloadN (pc' := 29) d24_28 rfl rfl ?_
  refine Go.iconst (pc' := 30) (v := (1 : Int32)) d24_29 rfl rfl ?_
  refine Go.ishl (pc' := 31) d24_30 rfl ?_
  generalize et_12 : j <<< ((1 : Int32) &&& 31) = t_12
  have k_13 : t_12.toInt = 2 * (k : Int) := by
    rw [← et_12]
    have : (1 : Int32).toInt = 1 := by decide
    have := c_ishl j (1 : Int32) 1 (by decide)
    have := rng32 (j <<< ((1 : Int32) &&& 31))
    have := rng32 j
    omega
  refine Go.istoreN (pc' := 32) (Ls' := #[.val (.ref b), .val (.int t_12), .val (.int c)]) d24_31 rfl rfl ?_
  refine Go.aloadN (pc' := 33) d24_32 rfl rfl rfl ?_
  refine Go.iloadN (pc' := 34) d24_33 rfl rfl ?_
  refine Go.iinc (pc' := 37) (w := t_12 + (1 : Int32)) (Ls' := #[.val (.ref b), .val (.int (t_12 + (1 : Int32))), .val (.int c)]) d24_34 rfl rfl rfl rfl ?_
  refine Go.iloadN (pc' := 38) d24_37 rfl rfl ?_
  refine Go.getS (pc' := 41) (own_w hw 107 rfl) hTHB d24_38 rfl ?_
  refine Go.ishr (pc' := 42) d24_41 rfl ?_
  refine Go.i2b (pc' := 43) d24_42 rfl ?_
  generalize el_14 : (c >>> ((0 : Int32) &&& 31)).toInt8.toInt32 = l_14
  have k_15 : l_14.toInt % 256 = c.toInt % 256 ∧ -128 ≤ l_14.toInt ∧ l_14.toInt < 128 := by
    rw [← el_14]
    have : (0 : Int32).toInt = 0 := by decide
    have := c_ishr c (0 : Int32) 0 (by decide)
    have := rng32 (c >>> ((0 : Int32) &&& 31))
    have := rng32 c
    have := c_i2b (c >>> ((0 : Int32) &&& 31))
    have := rng32 ((c >>> ((0 : Int32) &&& 31)).toInt8.toInt32)
    omega
  have nl : nar .byte l_14 = l_14 := own_nb (by omega)
  refine Go.stB (pc' := 44) (k := (2 * k)) hA (by omega) (by omega) d24_43 hg rfl ?_
  intro h_16 W_17 A_18
  rw [nl] at W_17 A_18
  have t_22 : b < h_16.size := Nat.lt_of_lt_of_le hA.lt (Nat.le_of_eq W_17.size.symm)
  have z_23 : n0 ≤ h_16.size := Nat.le_trans z0 (Nat.le_of_eq W_17.size.symm)
  have b_24 : h0.size ≤ h_16.size := Nat.le_trans (Nat.le_refl _) (Nat.le_of_eq W_17.size.symm)
  have K_25 : Keep h0 h_16 [b] := (Keep.refl _ _).wr W_17 (Or.inl (List.mem_of_getElem? (i := 0) rfl))
  have O_26 : Old Z n0 h_16 := hO.wr W_17 hg
  have f_19 := Sta.ext O_26.2 hSAD
  have f_20 := Sta.ext O_26.2 hSHB
  have f_21 := Sta.ext O_26.2 hSLB
  refine Go.aloadN (pc' := 45) d24_44 rfl rfl rfl ?_
  refine Go.iloadN (pc' := 46) d24_45 rfl rfl ?_
  refine Go.iloadN (pc' := 47) d24_46 rfl rfl ?_
  refine Go.getS (pc' := 50) (own_w hw 108 rfl) f_21 d24_47 rfl ?_
  refine Go.ishr (pc' := 51) d24_50 rfl ?_
  refine Go.i2b (pc' := 52) d24_51 rfl ?_
  generalize eg_27 : (c >>> ((8 : Int32) &&& 31)).toInt8.toInt32 = g_27
  have k_28 : g_27.toInt % 256 = c.toInt / 256 ∧ -128 ≤ g_27.toInt ∧ g_27.toInt < 128 := by
    rw [← eg_27]
    have : (8 : Int32).toInt = 8 := by decide
    have := c_ishr c (8 : Int32) 8 (by decide)
    have := rng32 (c >>> ((8 : Int32) &&& 31))
    have := rng32 c
    have := c_i2b (c >>> ((8 : Int32) &&& 31))
    have := rng32 ((c >>> ((8 : Int32) &&& 31)).toInt8.toInt32)
    omega
  have ng : nar .byte g_27 = g_27 := own_nb (by omega)
  refine Go.stB (pc' := 53) (k := (2 * k + 1)) A_18 (by have := c_iadd t_12 (1 : Int32); have := rng32 (t_12 + (1 : Int32)); have o : (1 : Int32).toInt = 1 := rfl; omega) (by rw [List.length_set]; omega) d24_52 hg rfl ?_
  intro h_29 W_30 A_31
  rw [ng] at W_30 A_31
  have t_35 : b < h_29.size := Nat.lt_of_lt_of_le t_22 (Nat.le_of_eq W_30.size.symm)
  have z_36 : n0 ≤ h_29.size := Nat.le_trans z_23 (Nat.le_of_eq W_30.size.symm)
  have b_37 : h0.size ≤ h_29.size := Nat.le_trans b_24 (Nat.le_of_eq W_30.size.symm)
  have K_38 : Keep h0 h_29 [b] := K_25.wr W_30 (Or.inl (List.mem_of_getElem? (i := 0) rfl))
  have O_39 : Old Z n0 h_29 := O_26.wr W_30 hg
  have f_32 := Sta.ext O_39.2 hSAD
  have f_33 := Sta.ext O_39.2 hSHB
  have f_34 := Sta.ext O_39.2 hSLB
  exact Go.ret0 d24_53 rfl ⟨rfl, l_14, g_27, K_38, A_31, by omega⟩ (by decide) (by decide)
set_option maxRecDepth 65536 in
set_option maxHeartbeats 40000000 in
theorem m_nbl (l : Launch) (Z : State) (a0 : Array Value) (hw : ∀ d ∈ tables_1, d.before a0 Z = true) (n : Int32) (h0 : Heap) (n0 : Nat) (z0 : n0 ≤ h0.size) (hn0 : 0 ≤ n.toInt) (hn : n.toInt ≤ 100) : Mt .n l Z (⟨"java/lang/StringUTF16", "newBytesLength", "(I)I"⟩ : MethodName) jdk_52_method_3_code 1 (some .int) ({ frames := 0, cells := 0, slots := 0, locals := 0 } : Room) n0 (fun v h => ∃ r : Int32, v = some (.int r) ∧ h0 = h ∧ r.toInt = 2 * n.toInt) h0 #[(.int n)] := by
  refine Mt.go (Ls := #[.val (.int n)]) (by first | exact plainFor_of_name (by decide +kernel) | decide +kernel | (simp [plainFor]; done)) (fun m => by first | (simp [entryFrame, mkF, argsToLocals, Value.category]; done) | rfl) ?_
  show Go _ _ _ _ _ _ _ _ _ _ _ _ h0 0 0 0 #[.val (.int n)] []
  refine Go.iloadN (pc' := 1) d23_0 rfl rfl ?_
  refine Go.ifc (pc1 := 12) (pc2 := 4) d23_1 (by decide) (by decide) rfl (fun (c_40 : 0 ≤ n.toInt) => ?_) (fun (c_40 : n.toInt < 0) => ?_)
  rotate_left
  · exfalso; omega
  refine Go.iloadN (pc' := 13) d23_12 rfl rfl ?_
  refine Go.ldcI (pc' := 15) (own_w hw 102 rfl) d23_13 rfl ?_
  refine Go.icmp (pc1 := 55) (pc2 := 18) d23_15 (by decide) (by decide) rfl (fun (c_41 : n.toInt < (1073741823 : Int)) => ?_) (fun (c_41 : (1073741823 : Int) ≤ n.toInt) => ?_)
  rotate_left
  · exfalso; omega
  refine Go.iloadN (pc' := 56) d23_55 rfl rfl ?_
  refine Go.iconst (pc' := 57) (v := (1 : Int32)) d23_56 rfl rfl ?_
  refine Go.ishl (pc' := 58) d23_57 rfl ?_
  generalize er_42 : n <<< ((1 : Int32) &&& 31) = r_42
  have k_43 : r_42.toInt = 2 * n.toInt := by
    rw [← er_42]
    have : (1 : Int32).toInt = 1 := by decide
    have := c_ishl n (1 : Int32) 1 (by decide)
    have := rng32 (n <<< ((1 : Int32) &&& 31))
    have := rng32 n
    omega
  exact Go.retI d23_58 rfl ⟨_, rfl, rfl, by omega⟩ (by decide) (by decide)
set_option maxRecDepth 65536 in
set_option maxHeartbeats 40000000 in
theorem m_nbf1 (l : Launch) (Z : State) (a0 : Array Value) (hw : ∀ d ∈ tables_1, d.before a0 Z = true)  (h0 : Heap) (n0 : Nat) (z0 : n0 ≤ h0.size)  : Mt .n l Z (⟨"java/lang/StringUTF16", "newBytesFor", "(I)[B"⟩ : MethodName) jdk_52_method_2_code 1 (some (.array .byte)) ({ frames := 1, cells := 1, slots := 2, locals := 12 } : Room) n0 (fun v h => ∃ o, v = some (.ref o) ∧ Keep h0 h [] ∧ Ary Z h o .byte [.int (0 : Int32), .int (0 : Int32)] ∧ h0.size ≤ o ∧ o < h.size) h0 #[(.int 1)] := by
  refine Mt.go (Ls := #[.val (.int 1)]) (by first | exact plainFor_of_name (by decide +kernel) | decide +kernel | (simp [plainFor]; done)) (fun m => by first | (simp [entryFrame, mkF, argsToLocals, Value.category]; done) | rfl) ?_
  show Go _ _ _ _ _ _ _ _ _ _ _ _ h0 0 0 0 #[.val (.int 1)] []
  refine Go.iloadN (pc' := 1) d22_0 rfl rfl ?_
  refine Go.callS (pc' := 4) (argsL := [(.int 1)]) (rest := []) (W := 0) (own_w hw 99 rfl) (own_w hw 100 rfl) (own_w hw 47 rfl) (own_w hw 101 rfl) (by decide) (m_nbl l Z a0 hw (1 : Int32) h0 n0 z0 (by decide) (by decide)) d22_1 rfl pd0 rfl rfl (Nat.le_of_eq rfl) (by decide) (by decide) (by decide) (by decide) rfl ?_
  rintro _ _ ⟨r, rfl, rfl, hr⟩
  obtain rfl : r = (2 : Int32) := Int32.toInt_inj.mp (by rw [hr]; decide)
  show Go _ _ _ _ _ _ _ _ _ _ _ _ h0 (0 + 0) (0 + 0) 4 #[.val (.int 1)] [(.int 2)]
  refine Go.newA (pc' := 6) (k := 2) (ty := .byte) (cap := 2) (own_w hw 20 rfl) rfl rfl (by decide) (by decide) d22_4 (by decide) (by decide) rfl ?_
  intro h_44 a_45 q_46 E_47 A_48
  have g_50 : n0 ≤ a_45 := q_46 ▸ z0
  have g_51 : h0.size ≤ a_45 := q_46 ▸ (Nat.le_refl _)
  have z_52 : n0 ≤ h_44.size := Nat.le_trans z0 E_47.1
  have b_53 : h0.size ≤ h_44.size := Nat.le_trans (Nat.le_refl _) E_47.1
  have K_54 : Keep h0 h_44 [] := (Keep.refl _ _).ext E_47
  have t_55 : a_45 < h_44.size := A_48.lt
  change Ary Z h_44 a_45 .byte [(.int 0), (.int 0)] at A_48
  exact Go.retA d22_6 rfl rfl rfl ⟨a_45, rfl, K_54, A_48, g_51, t_55⟩ (by decide) (by decide)
set_option maxRecDepth 65536 in
set_option maxHeartbeats 40000000 in
theorem m_tb1 (l : Launch) (Z : State) (a0 : Array Value) (hw : ∀ d ∈ tables_1, d.before a0 Z = true) (r : Addr) (c0 : Int32) (h0 : Heap) (n0 : Nat) (z0 : n0 ≤ h0.size) (hO : Old Z n0 h0) (hSAD : Sta Z Z.heap "java/lang/StringUTF16" "$assertionsDisabled" "Z" (.int 1)) (hSHB : Sta Z Z.heap "java/lang/StringUTF16" "HI_BYTE_SHIFT" "I" (.int 0)) (hSLB : Sta Z Z.heap "java/lang/StringUTF16" "LO_BYTE_SHIFT" "I" (.int 8)) (hR : Ary Z h0 r .char [.int c0]) (hc0 : 0 ≤ c0.toInt ∧ c0.toInt < 65536) : Mt .n l Z (⟨"java/lang/StringUTF16", "toBytes", "([CII)[B"⟩ : MethodName) jdk_52_method_14_code 5 (some (.array .byte)) ({ frames := 2, cells := 1, slots := 2, locals := 24 } : Room) n0 (fun v h => ∃ (o : Addr) (l0 g0 : Int32), v = some (.ref o) ∧ Keep h0 h [] ∧ Ary Z h o .byte [.int l0, .int g0] ∧ h0.size ≤ o ∧ o < h.size ∧ l0.toInt % 256 + 256 * (g0.toInt % 256) = c0.toInt) h0 #[(.ref r), (.int 0), (.int 1)] := by
  refine Mt.go (Ls := #[.val (.ref r), .val (.int 0), .val (.int 1), .unset, .unset]) (by first | exact plainFor_of_name (by decide +kernel) | decide +kernel | (simp [plainFor]; done)) (fun m => by first | (simp [entryFrame, mkF, argsToLocals, Value.category]; done) | rfl) ?_
  show Go _ _ _ _ _ _ _ _ _ _ _ _ h0 0 0 0 #[.val (.ref r), .val (.int 0), .val (.int 1), .unset, .unset] []
  have hTAD := Sta.ext hO.2 hSAD
  have hTHB := Sta.ext hO.2 hSHB
  have hTLB := Sta.ext hO.2 hSLB
  refine Go.iloadN (pc' := 1) d21_0 rfl rfl ?_
  refine Go.callS (pc' := 4) (argsL := [(.int 1)]) (rest := []) (W := 0) (own_w hw 96 rfl) (own_w hw 97 rfl) (own_w hw 47 rfl) (own_w hw 98 rfl) (by decide) (m_nbf1 l Z a0 hw h0 n0 z0) d21_1 rfl pd1 rfl rfl (Nat.le_of_eq rfl) (by decide) (by decide) (by decide) (by decide) rfl ?_
  rintro _ h_56 ⟨o_57, rfl, K_58, A_59, q_60, t_61⟩
  have n_62 : r ≠ o_57 := Nat.ne_of_lt (Nat.lt_of_lt_of_le hR.lt q_60)
  have g_63 : n0 ≤ o_57 := Nat.le_trans z0 q_60
  have g_64 : h0.size ≤ o_57 := Nat.le_trans (Nat.le_refl _) q_60
  have f_68 : Ary Z h_56 r .char [(.int c0)] := hR.sm (Sm.keep K_58 nin0)
  have t_69 : r < h_56.size := Nat.lt_of_lt_of_le hR.lt K_58.1
  have z_70 : n0 ≤ h_56.size := Nat.le_trans z0 K_58.1
  have b_71 : h0.size ≤ h_56.size := Nat.le_trans (Nat.le_refl _) K_58.1
  have K_72 : Keep h0 h_56 [] := (Keep.refl _ _).trans K_58 all0
  have O_73 : Old Z n0 h_56 := hO.keep K_58 all0
  have f_65 := Sta.ext O_73.2 hSAD
  have f_66 := Sta.ext O_73.2 hSHB
  have f_67 := Sta.ext O_73.2 hSLB
  show Go _ _ _ _ _ _ _ _ _ _ _ _ h_56 (0 + 1) (0 + 2) 4 #[.val (.ref r), .val (.int 0), .val (.int 1), .unset, .unset] [(.ref o_57)]
  refine Go.astoreN (pc' := 5) (Ls' := #[.val (.ref r), .val (.int 0), .val (.int 1), .val (.ref o_57), .unset]) d21_4 rfl rfl rfl ?_
  refine Go.iconst (pc' := 6) (v := (0 : Int32)) d21_5 rfl rfl ?_
  refine Go.istore (pc' := 8) (Ls' := #[.val (.ref r), .val (.int 0), .val (.int 1), .val (.ref o_57), .val (.int 0)]) d21_6 rfl rfl ?_
  refine Go.iload (pc' := 10) d21_8 rfl rfl ?_
  refine Go.iloadN (pc' := 11) d21_10 rfl rfl ?_
  refine Go.icmp (pc1 := 32) (pc2 := 14) d21_11 (by decide) (by decide) rfl (fun (c_74 : (1 : Int) ≤ (0 : Int)) => ?_) (fun (c_74 : (0 : Int) < (1 : Int)) => ?_)
  · exact absurd c_74 (by decide)
  refine Go.aloadN (pc' := 15) d21_14 rfl rfl rfl ?_
  refine Go.iload (pc' := 17) d21_15 rfl rfl ?_
  refine Go.aloadN (pc' := 18) d21_17 rfl rfl rfl ?_
  refine Go.iloadN (pc' := 19) d21_18 rfl rfl ?_
  refine Go.ldC (pc' := 20) (k := 0) (v := (.int c0)) f_68 rfl rfl d21_19 rfl ?_
  refine Go.callS (pc' := 23) (argsL := [(.ref o_57), (.int 0), (.int c0)]) (rest := []) (W := 0) (own_w hw 103 rfl) (own_w hw 104 rfl) (own_w hw 47 rfl) (own_w hw 105 rfl) (by decide) (m_pc l Z a0 hw o_57 [.int (0 : Int32), .int (0 : Int32)] (0 : Int32) c0 0 h_56 n0 z_70 O_73 hSAD hSHB hSLB A_59 rfl (by decide) (by show 1 < 2; decide) hc0 g_63) d21_20 rfl pd2 rfl rfl (Nat.le_of_eq rfl) (by decide) (by decide) (by decide) (by decide) rfl ?_
  rintro _ h_75 ⟨rfl, l_76, g_77, K_78, A_79, e_80⟩
  have f_81 : Ary Z h_75 r .char [(.int c0)] := f_68.sm (Sm.keep K_78 (ninS n_62 nin0))
  have t_86 : r < h_75.size := Nat.lt_of_lt_of_le t_69 K_78.1
  have t_87 : o_57 < h_75.size := Nat.lt_of_lt_of_le t_61 K_78.1
  have z_88 : n0 ≤ h_75.size := Nat.le_trans z_70 K_78.1
  have b_89 : h0.size ≤ h_75.size := Nat.le_trans b_71 K_78.1
  have K_90 : Keep h0 h_75 [] := K_72.trans K_78 (allS (Or.inr g_64) all0)
  have O_91 : Old Z n0 h_75 := O_73.keep K_78 (allS g_63 all0)
  have f_82 := Sta.ext O_91.2 hSAD
  have f_83 := Sta.ext O_91.2 hSHB
  have f_84 := Sta.ext O_91.2 hSLB
  change Ary Z h_75 o_57 .byte [(.int l_76), (.int g_77)] at A_79
  show Go _ _ _ _ _ _ _ _ _ _ _ _ h_75 (0 + 1 + 0) (0 + 2 + 0) 23 #[.val (.ref r), .val (.int 0), .val (.int 1), .val (.ref o_57), .val (.int 0)] []
  refine Go.iinc (pc' := 26) (w := (1 : Int32)) (Ls' := #[.val (.ref r), .val (.int 1), .val (.int 1), .val (.ref o_57), .val (.int 0)]) d21_23 rfl rfl rfl rfl ?_
  refine Go.iinc (pc' := 29) (w := (1 : Int32)) (Ls' := #[.val (.ref r), .val (.int 1), .val (.int 1), .val (.ref o_57), .val (.int 1)]) d21_26 rfl rfl rfl rfl ?_
  refine Go.goto (pc' := 8) d21_29 (by decide) (by decide) ?_
  refine Go.iload (pc' := 10) d21_8 rfl rfl ?_
  refine Go.iloadN (pc' := 11) d21_10 rfl rfl ?_
  refine Go.icmp (pc1 := 32) (pc2 := 14) d21_11 (by decide) (by decide) rfl (fun (c_92 : (1 : Int) ≤ (1 : Int)) => ?_) (fun (c_92 : (1 : Int) < (1 : Int)) => ?_)
  rotate_left
  · exact absurd c_92 (by decide)
  refine Go.aloadN (pc' := 33) d21_32 rfl rfl rfl ?_
  exact Go.retA d21_33 rfl rfl rfl ⟨o_57, l_76, g_77, rfl, K_90, A_79, g_64, t_87, e_80⟩ (by decide) (by decide)
set_option maxRecDepth 65536 in
set_option maxHeartbeats 40000000 in
theorem m_nbf2 (l : Launch) (Z : State) (a0 : Array Value) (hw : ∀ d ∈ tables_1, d.before a0 Z = true)  (h0 : Heap) (n0 : Nat) (z0 : n0 ≤ h0.size)  : Mt .n l Z (⟨"java/lang/StringUTF16", "newBytesFor", "(I)[B"⟩ : MethodName) jdk_52_method_2_code 1 (some (.array .byte)) ({ frames := 1, cells := 1, slots := 4, locals := 12 } : Room) n0 (fun v h => ∃ o, v = some (.ref o) ∧ Keep h0 h [] ∧ Ary Z h o .byte [.int (0 : Int32), .int (0 : Int32), .int (0 : Int32), .int (0 : Int32)] ∧ h0.size ≤ o ∧ o < h.size) h0 #[(.int 2)] := by
  refine Mt.go (Ls := #[.val (.int 2)]) (by first | exact plainFor_of_name (by decide +kernel) | decide +kernel | (simp [plainFor]; done)) (fun m => by first | (simp [entryFrame, mkF, argsToLocals, Value.category]; done) | rfl) ?_
  show Go _ _ _ _ _ _ _ _ _ _ _ _ h0 0 0 0 #[.val (.int 2)] []
  refine Go.iloadN (pc' := 1) d22_0 rfl rfl ?_
  refine Go.callS (pc' := 4) (argsL := [(.int 2)]) (rest := []) (W := 0) (own_w hw 99 rfl) (own_w hw 100 rfl) (own_w hw 47 rfl) (own_w hw 101 rfl) (by decide) (m_nbl l Z a0 hw (2 : Int32) h0 n0 z0 (by decide) (by decide)) d22_1 rfl pd0 rfl rfl (Nat.le_of_eq rfl) (by decide) (by decide) (by decide) (by decide) rfl ?_
  rintro _ _ ⟨r, rfl, rfl, hr⟩
  obtain rfl : r = (4 : Int32) := Int32.toInt_inj.mp (by rw [hr]; decide)
  show Go _ _ _ _ _ _ _ _ _ _ _ _ h0 (0 + 0) (0 + 0) 4 #[.val (.int 2)] [(.int 4)]
  refine Go.newA (pc' := 6) (k := 4) (ty := .byte) (cap := 4) (own_w hw 20 rfl) rfl rfl (by decide) (by decide) d22_4 (by decide) (by decide) rfl ?_
  intro h_93 a_94 q_95 E_96 A_97
  have g_99 : n0 ≤ a_94 := q_95 ▸ z0
  have g_100 : h0.size ≤ a_94 := q_95 ▸ (Nat.le_refl _)
  have z_101 : n0 ≤ h_93.size := Nat.le_trans z0 E_96.1
  have b_102 : h0.size ≤ h_93.size := Nat.le_trans (Nat.le_refl _) E_96.1
  have K_103 : Keep h0 h_93 [] := (Keep.refl _ _).ext E_96
  have t_104 : a_94 < h_93.size := A_97.lt
  change Ary Z h_93 a_94 .byte [(.int 0), (.int 0), (.int 0), (.int 0)] at A_97
  exact Go.retA d22_6 rfl rfl rfl ⟨a_94, rfl, K_103, A_97, g_100, t_104⟩ (by decide) (by decide)
set_option maxRecDepth 65536 in
set_option maxHeartbeats 40000000 in
theorem m_tb2 (l : Launch) (Z : State) (a0 : Array Value) (hw : ∀ d ∈ tables_1, d.before a0 Z = true) (r : Addr) (c0 c1 : Int32) (h0 : Heap) (n0 : Nat) (z0 : n0 ≤ h0.size) (hO : Old Z n0 h0) (hSAD : Sta Z Z.heap "java/lang/StringUTF16" "$assertionsDisabled" "Z" (.int 1)) (hSHB : Sta Z Z.heap "java/lang/StringUTF16" "HI_BYTE_SHIFT" "I" (.int 0)) (hSLB : Sta Z Z.heap "java/lang/StringUTF16" "LO_BYTE_SHIFT" "I" (.int 8)) (hR : Ary Z h0 r .char [.int c0, .int c1]) (hc0 : 0 ≤ c0.toInt ∧ c0.toInt < 65536) (hc1 : 0 ≤ c1.toInt ∧ c1.toInt < 65536) : Mt .n l Z (⟨"java/lang/StringUTF16", "toBytes", "([CII)[B"⟩ : MethodName) jdk_52_method_14_code 5 (some (.array .byte)) ({ frames := 2, cells := 1, slots := 4, locals := 24 } : Room) n0 (fun v h => ∃ (o : Addr) (l0 g0 l1 g1 : Int32), v = some (.ref o) ∧ Keep h0 h [] ∧ Ary Z h o .byte [.int l0, .int g0, .int l1, .int g1] ∧ h0.size ≤ o ∧ o < h.size ∧ l0.toInt % 256 + 256 * (g0.toInt % 256) = c0.toInt ∧ l1.toInt % 256 + 256 * (g1.toInt % 256) = c1.toInt) h0 #[(.ref r), (.int 0), (.int 2)] := by
  refine Mt.go (Ls := #[.val (.ref r), .val (.int 0), .val (.int 2), .unset, .unset]) (by first | exact plainFor_of_name (by decide +kernel) | decide +kernel | (simp [plainFor]; done)) (fun m => by first | (simp [entryFrame, mkF, argsToLocals, Value.category]; done) | rfl) ?_
  show Go _ _ _ _ _ _ _ _ _ _ _ _ h0 0 0 0 #[.val (.ref r), .val (.int 0), .val (.int 2), .unset, .unset] []
  have hTAD := Sta.ext hO.2 hSAD
  have hTHB := Sta.ext hO.2 hSHB
  have hTLB := Sta.ext hO.2 hSLB
  refine Go.iloadN (pc' := 1) d21_0 rfl rfl ?_
  refine Go.callS (pc' := 4) (argsL := [(.int 2)]) (rest := []) (W := 0) (own_w hw 96 rfl) (own_w hw 97 rfl) (own_w hw 47 rfl) (own_w hw 98 rfl) (by decide) (m_nbf2 l Z a0 hw h0 n0 z0) d21_1 rfl pd1 rfl rfl (Nat.le_of_eq rfl) (by decide) (by decide) (by decide) (by decide) rfl ?_
  rintro _ h_105 ⟨o_106, rfl, K_107, A_108, q_109, t_110⟩
  have n_111 : r ≠ o_106 := Nat.ne_of_lt (Nat.lt_of_lt_of_le hR.lt q_109)
  have g_112 : n0 ≤ o_106 := Nat.le_trans z0 q_109
  have g_113 : h0.size ≤ o_106 := Nat.le_trans (Nat.le_refl _) q_109
  have f_117 : Ary Z h_105 r .char [(.int c0), (.int c1)] := hR.sm (Sm.keep K_107 nin0)
  have t_118 : r < h_105.size := Nat.lt_of_lt_of_le hR.lt K_107.1
  have z_119 : n0 ≤ h_105.size := Nat.le_trans z0 K_107.1
  have b_120 : h0.size ≤ h_105.size := Nat.le_trans (Nat.le_refl _) K_107.1
  have K_121 : Keep h0 h_105 [] := (Keep.refl _ _).trans K_107 all0
  have O_122 : Old Z n0 h_105 := hO.keep K_107 all0
  have f_114 := Sta.ext O_122.2 hSAD
  have f_115 := Sta.ext O_122.2 hSHB
  have f_116 := Sta.ext O_122.2 hSLB
  show Go _ _ _ _ _ _ _ _ _ _ _ _ h_105 (0 + 1) (0 + 4) 4 #[.val (.ref r), .val (.int 0), .val (.int 2), .unset, .unset] [(.ref o_106)]
  refine Go.astoreN (pc' := 5) (Ls' := #[.val (.ref r), .val (.int 0), .val (.int 2), .val (.ref o_106), .unset]) d21_4 rfl rfl rfl ?_
  refine Go.iconst (pc' := 6) (v := (0 : Int32)) d21_5 rfl rfl ?_
  refine Go.istore (pc' := 8) (Ls' := #[.val (.ref r), .val (.int 0), .val (.int 2), .val (.ref o_106), .val (.int 0)]) d21_6 rfl rfl ?_
  refine Go.iload (pc' := 10) d21_8 rfl rfl ?_
  refine Go.iloadN (pc' := 11) d21_10 rfl rfl ?_
  refine Go.icmp (pc1 := 32) (pc2 := 14) d21_11 (by decide) (by decide) rfl (fun (c_123 : (2 : Int) ≤ (0 : Int)) => ?_) (fun (c_123 : (0 : Int) < (2 : Int)) => ?_)
  · exact absurd c_123 (by decide)
  refine Go.aloadN (pc' := 15) d21_14 rfl rfl rfl ?_
  refine Go.iload (pc' := 17) d21_15 rfl rfl ?_
  refine Go.aloadN (pc' := 18) d21_17 rfl rfl rfl ?_
  refine Go.iloadN (pc' := 19) d21_18 rfl rfl ?_
  refine Go.ldC (pc' := 20) (k := 0) (v := (.int c0)) f_117 rfl rfl d21_19 rfl ?_
  refine Go.callS (pc' := 23) (argsL := [(.ref o_106), (.int 0), (.int c0)]) (rest := []) (W := 0) (own_w hw 103 rfl) (own_w hw 104 rfl) (own_w hw 47 rfl) (own_w hw 105 rfl) (by decide) (m_pc l Z a0 hw o_106 [.int (0 : Int32), .int (0 : Int32), .int (0 : Int32), .int (0 : Int32)] (0 : Int32) c0 0 h_105 n0 z_119 O_122 hSAD hSHB hSLB A_108 rfl (by decide) (by show 1 < 4; decide) hc0 g_112) d21_20 rfl pd2 rfl rfl (Nat.le_of_eq rfl) (by decide) (by decide) (by decide) (by decide) rfl ?_
  rintro _ h_124 ⟨rfl, l_125, g_126, K_127, A_128, e_129⟩
  have f_130 : Ary Z h_124 r .char [(.int c0), (.int c1)] := f_117.sm (Sm.keep K_127 (ninS n_111 nin0))
  have t_135 : r < h_124.size := Nat.lt_of_lt_of_le t_118 K_127.1
  have t_136 : o_106 < h_124.size := Nat.lt_of_lt_of_le t_110 K_127.1
  have z_137 : n0 ≤ h_124.size := Nat.le_trans z_119 K_127.1
  have b_138 : h0.size ≤ h_124.size := Nat.le_trans b_120 K_127.1
  have K_139 : Keep h0 h_124 [] := K_121.trans K_127 (allS (Or.inr g_113) all0)
  have O_140 : Old Z n0 h_124 := O_122.keep K_127 (allS g_112 all0)
  have f_131 := Sta.ext O_140.2 hSAD
  have f_132 := Sta.ext O_140.2 hSHB
  have f_133 := Sta.ext O_140.2 hSLB
  change Ary Z h_124 o_106 .byte [(.int l_125), (.int g_126), (.int 0), (.int 0)] at A_128
  show Go _ _ _ _ _ _ _ _ _ _ _ _ h_124 (0 + 1 + 0) (0 + 4 + 0) 23 #[.val (.ref r), .val (.int 0), .val (.int 2), .val (.ref o_106), .val (.int 0)] []
  refine Go.iinc (pc' := 26) (w := (1 : Int32)) (Ls' := #[.val (.ref r), .val (.int 1), .val (.int 2), .val (.ref o_106), .val (.int 0)]) d21_23 rfl rfl rfl rfl ?_
  refine Go.iinc (pc' := 29) (w := (1 : Int32)) (Ls' := #[.val (.ref r), .val (.int 1), .val (.int 2), .val (.ref o_106), .val (.int 1)]) d21_26 rfl rfl rfl rfl ?_
  refine Go.goto (pc' := 8) d21_29 (by decide) (by decide) ?_
  refine Go.iload (pc' := 10) d21_8 rfl rfl ?_
  refine Go.iloadN (pc' := 11) d21_10 rfl rfl ?_
  refine Go.icmp (pc1 := 32) (pc2 := 14) d21_11 (by decide) (by decide) rfl (fun (c_141 : (2 : Int) ≤ (1 : Int)) => ?_) (fun (c_141 : (1 : Int) < (2 : Int)) => ?_)
  · exact absurd c_141 (by decide)
  refine Go.aloadN (pc' := 15) d21_14 rfl rfl rfl ?_
  refine Go.iload (pc' := 17) d21_15 rfl rfl ?_
  refine Go.aloadN (pc' := 18) d21_17 rfl rfl rfl ?_
  refine Go.iloadN (pc' := 19) d21_18 rfl rfl ?_
  refine Go.ldC (pc' := 20) (k := 1) (v := (.int c1)) f_130 rfl rfl d21_19 rfl ?_
  refine Go.callS (pc' := 23) (argsL := [(.ref o_106), (.int 1), (.int c1)]) (rest := []) (W := 0) (own_w hw 103 rfl) (own_w hw 104 rfl) (own_w hw 47 rfl) (own_w hw 105 rfl) (by decide) (m_pc l Z a0 hw o_106 [.int l_125, .int g_126, .int (0 : Int32), .int (0 : Int32)] (1 : Int32) c1 1 h_124 n0 z_137 O_140 hSAD hSHB hSLB A_128 rfl (by decide) (by show 3 < 4; decide) hc1 g_112) d21_20 rfl pd2 rfl rfl (Nat.le_of_eq rfl) (by decide) (by decide) (by decide) (by decide) rfl ?_
  rintro _ h_142 ⟨rfl, l_143, g_144, K_145, A_146, e_147⟩
  have f_148 : Ary Z h_142 r .char [(.int c0), (.int c1)] := f_130.sm (Sm.keep K_145 (ninS n_111 nin0))
  have t_153 : r < h_142.size := Nat.lt_of_lt_of_le t_135 K_145.1
  have t_154 : o_106 < h_142.size := Nat.lt_of_lt_of_le t_136 K_145.1
  have z_155 : n0 ≤ h_142.size := Nat.le_trans z_137 K_145.1
  have b_156 : h0.size ≤ h_142.size := Nat.le_trans b_138 K_145.1
  have K_157 : Keep h0 h_142 [] := K_139.trans K_145 (allS (Or.inr g_113) all0)
  have O_158 : Old Z n0 h_142 := O_140.keep K_145 (allS g_112 all0)
  have f_149 := Sta.ext O_158.2 hSAD
  have f_150 := Sta.ext O_158.2 hSHB
  have f_151 := Sta.ext O_158.2 hSLB
  change Ary Z h_142 o_106 .byte [(.int l_125), (.int g_126), (.int l_143), (.int g_144)] at A_146
  show Go _ _ _ _ _ _ _ _ _ _ _ _ h_142 (0 + 1 + 0 + 0) (0 + 4 + 0 + 0) 23 #[.val (.ref r), .val (.int 1), .val (.int 2), .val (.ref o_106), .val (.int 1)] []
  refine Go.iinc (pc' := 26) (w := (2 : Int32)) (Ls' := #[.val (.ref r), .val (.int 2), .val (.int 2), .val (.ref o_106), .val (.int 1)]) d21_23 rfl rfl rfl rfl ?_
  refine Go.iinc (pc' := 29) (w := (2 : Int32)) (Ls' := #[.val (.ref r), .val (.int 2), .val (.int 2), .val (.ref o_106), .val (.int 2)]) d21_26 rfl rfl rfl rfl ?_
  refine Go.goto (pc' := 8) d21_29 (by decide) (by decide) ?_
  refine Go.iload (pc' := 10) d21_8 rfl rfl ?_
  refine Go.iloadN (pc' := 11) d21_10 rfl rfl ?_
  refine Go.icmp (pc1 := 32) (pc2 := 14) d21_11 (by decide) (by decide) rfl (fun (c_159 : (2 : Int) ≤ (2 : Int)) => ?_) (fun (c_159 : (2 : Int) < (2 : Int)) => ?_)
  rotate_left
  · exact absurd c_159 (by decide)
  refine Go.aloadN (pc' := 33) d21_32 rfl rfl rfl ?_
  exact Go.retA d21_33 rfl rfl rfl ⟨o_106, l_125, g_126, l_143, g_144, rfl, K_157, A_146, g_113, t_154, e_129, e_147⟩ (by decide) (by decide)
set_option maxRecDepth 65536 in
set_option maxHeartbeats 40000000 in
theorem m_nbf3 (l : Launch) (Z : State) (a0 : Array Value) (hw : ∀ d ∈ tables_1, d.before a0 Z = true)  (h0 : Heap) (n0 : Nat) (z0 : n0 ≤ h0.size)  : Mt .n l Z (⟨"java/lang/StringUTF16", "newBytesFor", "(I)[B"⟩ : MethodName) jdk_52_method_2_code 1 (some (.array .byte)) ({ frames := 1, cells := 1, slots := 6, locals := 12 } : Room) n0 (fun v h => ∃ o, v = some (.ref o) ∧ Keep h0 h [] ∧ Ary Z h o .byte [.int (0 : Int32), .int (0 : Int32), .int (0 : Int32), .int (0 : Int32), .int (0 : Int32), .int (0 : Int32)] ∧ h0.size ≤ o ∧ o < h.size) h0 #[(.int 3)] := by
  refine Mt.go (Ls := #[.val (.int 3)]) (by first | exact plainFor_of_name (by decide +kernel) | decide +kernel | (simp [plainFor]; done)) (fun m => by first | (simp [entryFrame, mkF, argsToLocals, Value.category]; done) | rfl) ?_
  show Go _ _ _ _ _ _ _ _ _ _ _ _ h0 0 0 0 #[.val (.int 3)] []
  refine Go.iloadN (pc' := 1) d22_0 rfl rfl ?_
  refine Go.callS (pc' := 4) (argsL := [(.int 3)]) (rest := []) (W := 0) (own_w hw 99 rfl) (own_w hw 100 rfl) (own_w hw 47 rfl) (own_w hw 101 rfl) (by decide) (m_nbl l Z a0 hw (3 : Int32) h0 n0 z0 (by decide) (by decide)) d22_1 rfl pd0 rfl rfl (Nat.le_of_eq rfl) (by decide) (by decide) (by decide) (by decide) rfl ?_
  rintro _ _ ⟨r, rfl, rfl, hr⟩
  obtain rfl : r = (6 : Int32) := Int32.toInt_inj.mp (by rw [hr]; decide)
  show Go _ _ _ _ _ _ _ _ _ _ _ _ h0 (0 + 0) (0 + 0) 4 #[.val (.int 3)] [(.int 6)]
  refine Go.newA (pc' := 6) (k := 6) (ty := .byte) (cap := 6) (own_w hw 20 rfl) rfl rfl (by decide) (by decide) d22_4 (by decide) (by decide) rfl ?_
  intro h_160 a_161 q_162 E_163 A_164
  have g_166 : n0 ≤ a_161 := q_162 ▸ z0
  have g_167 : h0.size ≤ a_161 := q_162 ▸ (Nat.le_refl _)
  have z_168 : n0 ≤ h_160.size := Nat.le_trans z0 E_163.1
  have b_169 : h0.size ≤ h_160.size := Nat.le_trans (Nat.le_refl _) E_163.1
  have K_170 : Keep h0 h_160 [] := (Keep.refl _ _).ext E_163
  have t_171 : a_161 < h_160.size := A_164.lt
  change Ary Z h_160 a_161 .byte [(.int 0), (.int 0), (.int 0), (.int 0), (.int 0), (.int 0)] at A_164
  exact Go.retA d22_6 rfl rfl rfl ⟨a_161, rfl, K_170, A_164, g_167, t_171⟩ (by decide) (by decide)
set_option maxRecDepth 65536 in
set_option maxHeartbeats 40000000 in
theorem m_tb3 (l : Launch) (Z : State) (a0 : Array Value) (hw : ∀ d ∈ tables_1, d.before a0 Z = true) (r : Addr) (c0 c1 c2 : Int32) (h0 : Heap) (n0 : Nat) (z0 : n0 ≤ h0.size) (hO : Old Z n0 h0) (hSAD : Sta Z Z.heap "java/lang/StringUTF16" "$assertionsDisabled" "Z" (.int 1)) (hSHB : Sta Z Z.heap "java/lang/StringUTF16" "HI_BYTE_SHIFT" "I" (.int 0)) (hSLB : Sta Z Z.heap "java/lang/StringUTF16" "LO_BYTE_SHIFT" "I" (.int 8)) (hR : Ary Z h0 r .char [.int c0, .int c1, .int c2]) (hc0 : 0 ≤ c0.toInt ∧ c0.toInt < 65536) (hc1 : 0 ≤ c1.toInt ∧ c1.toInt < 65536) (hc2 : 0 ≤ c2.toInt ∧ c2.toInt < 65536) : Mt .n l Z (⟨"java/lang/StringUTF16", "toBytes", "([CII)[B"⟩ : MethodName) jdk_52_method_14_code 5 (some (.array .byte)) ({ frames := 2, cells := 1, slots := 6, locals := 24 } : Room) n0 (fun v h => ∃ (o : Addr) (l0 g0 l1 g1 l2 g2 : Int32), v = some (.ref o) ∧ Keep h0 h [] ∧ Ary Z h o .byte [.int l0, .int g0, .int l1, .int g1, .int l2, .int g2] ∧ h0.size ≤ o ∧ o < h.size ∧ l0.toInt % 256 + 256 * (g0.toInt % 256) = c0.toInt ∧ l1.toInt % 256 + 256 * (g1.toInt % 256) = c1.toInt ∧ l2.toInt % 256 + 256 * (g2.toInt % 256) = c2.toInt) h0 #[(.ref r), (.int 0), (.int 3)] := by
  refine Mt.go (Ls := #[.val (.ref r), .val (.int 0), .val (.int 3), .unset, .unset]) (by first | exact plainFor_of_name (by decide +kernel) | decide +kernel | (simp [plainFor]; done)) (fun m => by first | (simp [entryFrame, mkF, argsToLocals, Value.category]; done) | rfl) ?_
  show Go _ _ _ _ _ _ _ _ _ _ _ _ h0 0 0 0 #[.val (.ref r), .val (.int 0), .val (.int 3), .unset, .unset] []
  have hTAD := Sta.ext hO.2 hSAD
  have hTHB := Sta.ext hO.2 hSHB
  have hTLB := Sta.ext hO.2 hSLB
  refine Go.iloadN (pc' := 1) d21_0 rfl rfl ?_
  refine Go.callS (pc' := 4) (argsL := [(.int 3)]) (rest := []) (W := 0) (own_w hw 96 rfl) (own_w hw 97 rfl) (own_w hw 47 rfl) (own_w hw 98 rfl) (by decide) (m_nbf3 l Z a0 hw h0 n0 z0) d21_1 rfl pd1 rfl rfl (Nat.le_of_eq rfl) (by decide) (by decide) (by decide) (by decide) rfl ?_
  rintro _ h_172 ⟨o_173, rfl, K_174, A_175, q_176, t_177⟩
  have n_178 : r ≠ o_173 := Nat.ne_of_lt (Nat.lt_of_lt_of_le hR.lt q_176)
  have g_179 : n0 ≤ o_173 := Nat.le_trans z0 q_176
  have g_180 : h0.size ≤ o_173 := Nat.le_trans (Nat.le_refl _) q_176
  have f_184 : Ary Z h_172 r .char [(.int c0), (.int c1), (.int c2)] := hR.sm (Sm.keep K_174 nin0)
  have t_185 : r < h_172.size := Nat.lt_of_lt_of_le hR.lt K_174.1
  have z_186 : n0 ≤ h_172.size := Nat.le_trans z0 K_174.1
  have b_187 : h0.size ≤ h_172.size := Nat.le_trans (Nat.le_refl _) K_174.1
  have K_188 : Keep h0 h_172 [] := (Keep.refl _ _).trans K_174 all0
  have O_189 : Old Z n0 h_172 := hO.keep K_174 all0
  have f_181 := Sta.ext O_189.2 hSAD
  have f_182 := Sta.ext O_189.2 hSHB
  have f_183 := Sta.ext O_189.2 hSLB
  show Go _ _ _ _ _ _ _ _ _ _ _ _ h_172 (0 + 1) (0 + 6) 4 #[.val (.ref r), .val (.int 0), .val (.int 3), .unset, .unset] [(.ref o_173)]
  refine Go.astoreN (pc' := 5) (Ls' := #[.val (.ref r), .val (.int 0), .val (.int 3), .val (.ref o_173), .unset]) d21_4 rfl rfl rfl ?_
  refine Go.iconst (pc' := 6) (v := (0 : Int32)) d21_5 rfl rfl ?_
  refine Go.istore (pc' := 8) (Ls' := #[.val (.ref r), .val (.int 0), .val (.int 3), .val (.ref o_173), .val (.int 0)]) d21_6 rfl rfl ?_
  refine Go.iload (pc' := 10) d21_8 rfl rfl ?_
  refine Go.iloadN (pc' := 11) d21_10 rfl rfl ?_
  refine Go.icmp (pc1 := 32) (pc2 := 14) d21_11 (by decide) (by decide) rfl (fun (c_190 : (3 : Int) ≤ (0 : Int)) => ?_) (fun (c_190 : (0 : Int) < (3 : Int)) => ?_)
  · exact absurd c_190 (by decide)
  refine Go.aloadN (pc' := 15) d21_14 rfl rfl rfl ?_
  refine Go.iload (pc' := 17) d21_15 rfl rfl ?_
  refine Go.aloadN (pc' := 18) d21_17 rfl rfl rfl ?_
  refine Go.iloadN (pc' := 19) d21_18 rfl rfl ?_
  refine Go.ldC (pc' := 20) (k := 0) (v := (.int c0)) f_184 rfl rfl d21_19 rfl ?_
  refine Go.callS (pc' := 23) (argsL := [(.ref o_173), (.int 0), (.int c0)]) (rest := []) (W := 0) (own_w hw 103 rfl) (own_w hw 104 rfl) (own_w hw 47 rfl) (own_w hw 105 rfl) (by decide) (m_pc l Z a0 hw o_173 [.int (0 : Int32), .int (0 : Int32), .int (0 : Int32), .int (0 : Int32), .int (0 : Int32), .int (0 : Int32)] (0 : Int32) c0 0 h_172 n0 z_186 O_189 hSAD hSHB hSLB A_175 rfl (by decide) (by show 1 < 6; decide) hc0 g_179) d21_20 rfl pd2 rfl rfl (Nat.le_of_eq rfl) (by decide) (by decide) (by decide) (by decide) rfl ?_
  rintro _ h_191 ⟨rfl, l_192, g_193, K_194, A_195, e_196⟩
  have f_197 : Ary Z h_191 r .char [(.int c0), (.int c1), (.int c2)] := f_184.sm (Sm.keep K_194 (ninS n_178 nin0))
  have t_202 : r < h_191.size := Nat.lt_of_lt_of_le t_185 K_194.1
  have t_203 : o_173 < h_191.size := Nat.lt_of_lt_of_le t_177 K_194.1
  have z_204 : n0 ≤ h_191.size := Nat.le_trans z_186 K_194.1
  have b_205 : h0.size ≤ h_191.size := Nat.le_trans b_187 K_194.1
  have K_206 : Keep h0 h_191 [] := K_188.trans K_194 (allS (Or.inr g_180) all0)
  have O_207 : Old Z n0 h_191 := O_189.keep K_194 (allS g_179 all0)
  have f_198 := Sta.ext O_207.2 hSAD
  have f_199 := Sta.ext O_207.2 hSHB
  have f_200 := Sta.ext O_207.2 hSLB
  change Ary Z h_191 o_173 .byte [(.int l_192), (.int g_193), (.int 0), (.int 0), (.int 0), (.int 0)] at A_195
  show Go _ _ _ _ _ _ _ _ _ _ _ _ h_191 (0 + 1 + 0) (0 + 6 + 0) 23 #[.val (.ref r), .val (.int 0), .val (.int 3), .val (.ref o_173), .val (.int 0)] []
  refine Go.iinc (pc' := 26) (w := (1 : Int32)) (Ls' := #[.val (.ref r), .val (.int 1), .val (.int 3), .val (.ref o_173), .val (.int 0)]) d21_23 rfl rfl rfl rfl ?_
  refine Go.iinc (pc' := 29) (w := (1 : Int32)) (Ls' := #[.val (.ref r), .val (.int 1), .val (.int 3), .val (.ref o_173), .val (.int 1)]) d21_26 rfl rfl rfl rfl ?_
  refine Go.goto (pc' := 8) d21_29 (by decide) (by decide) ?_
  refine Go.iload (pc' := 10) d21_8 rfl rfl ?_
  refine Go.iloadN (pc' := 11) d21_10 rfl rfl ?_
  refine Go.icmp (pc1 := 32) (pc2 := 14) d21_11 (by decide) (by decide) rfl (fun (c_208 : (3 : Int) ≤ (1 : Int)) => ?_) (fun (c_208 : (1 : Int) < (3 : Int)) => ?_)
  · exact absurd c_208 (by decide)
  refine Go.aloadN (pc' := 15) d21_14 rfl rfl rfl ?_
  refine Go.iload (pc' := 17) d21_15 rfl rfl ?_
  refine Go.aloadN (pc' := 18) d21_17 rfl rfl rfl ?_
  refine Go.iloadN (pc' := 19) d21_18 rfl rfl ?_
  refine Go.ldC (pc' := 20) (k := 1) (v := (.int c1)) f_197 rfl rfl d21_19 rfl ?_
  refine Go.callS (pc' := 23) (argsL := [(.ref o_173), (.int 1), (.int c1)]) (rest := []) (W := 0) (own_w hw 103 rfl) (own_w hw 104 rfl) (own_w hw 47 rfl) (own_w hw 105 rfl) (by decide) (m_pc l Z a0 hw o_173 [.int l_192, .int g_193, .int (0 : Int32), .int (0 : Int32), .int (0 : Int32), .int (0 : Int32)] (1 : Int32) c1 1 h_191 n0 z_204 O_207 hSAD hSHB hSLB A_195 rfl (by decide) (by show 3 < 6; decide) hc1 g_179) d21_20 rfl pd2 rfl rfl (Nat.le_of_eq rfl) (by decide) (by decide) (by decide) (by decide) rfl ?_
  rintro _ h_209 ⟨rfl, l_210, g_211, K_212, A_213, e_214⟩
  have f_215 : Ary Z h_209 r .char [(.int c0), (.int c1), (.int c2)] := f_197.sm (Sm.keep K_212 (ninS n_178 nin0))
  have t_220 : r < h_209.size := Nat.lt_of_lt_of_le t_202 K_212.1
  have t_221 : o_173 < h_209.size := Nat.lt_of_lt_of_le t_203 K_212.1
  have z_222 : n0 ≤ h_209.size := Nat.le_trans z_204 K_212.1
  have b_223 : h0.size ≤ h_209.size := Nat.le_trans b_205 K_212.1
  have K_224 : Keep h0 h_209 [] := K_206.trans K_212 (allS (Or.inr g_180) all0)
  have O_225 : Old Z n0 h_209 := O_207.keep K_212 (allS g_179 all0)
  have f_216 := Sta.ext O_225.2 hSAD
  have f_217 := Sta.ext O_225.2 hSHB
  have f_218 := Sta.ext O_225.2 hSLB
  change Ary Z h_209 o_173 .byte [(.int l_192), (.int g_193), (.int l_210), (.int g_211), (.int 0), (.int 0)] at A_213
  show Go _ _ _ _ _ _ _ _ _ _ _ _ h_209 (0 + 1 + 0 + 0) (0 + 6 + 0 + 0) 23 #[.val (.ref r), .val (.int 1), .val (.int 3), .val (.ref o_173), .val (.int 1)] []
  refine Go.iinc (pc' := 26) (w := (2 : Int32)) (Ls' := #[.val (.ref r), .val (.int 2), .val (.int 3), .val (.ref o_173), .val (.int 1)]) d21_23 rfl rfl rfl rfl ?_
  refine Go.iinc (pc' := 29) (w := (2 : Int32)) (Ls' := #[.val (.ref r), .val (.int 2), .val (.int 3), .val (.ref o_173), .val (.int 2)]) d21_26 rfl rfl rfl rfl ?_
  refine Go.goto (pc' := 8) d21_29 (by decide) (by decide) ?_
  refine Go.iload (pc' := 10) d21_8 rfl rfl ?_
  refine Go.iloadN (pc' := 11) d21_10 rfl rfl ?_
  refine Go.icmp (pc1 := 32) (pc2 := 14) d21_11 (by decide) (by decide) rfl (fun (c_226 : (3 : Int) ≤ (2 : Int)) => ?_) (fun (c_226 : (2 : Int) < (3 : Int)) => ?_)
  · exact absurd c_226 (by decide)
  refine Go.aloadN (pc' := 15) d21_14 rfl rfl rfl ?_
  refine Go.iload (pc' := 17) d21_15 rfl rfl ?_
  refine Go.aloadN (pc' := 18) d21_17 rfl rfl rfl ?_
  refine Go.iloadN (pc' := 19) d21_18 rfl rfl ?_
  refine Go.ldC (pc' := 20) (k := 2) (v := (.int c2)) f_215 rfl rfl d21_19 rfl ?_
  refine Go.callS (pc' := 23) (argsL := [(.ref o_173), (.int 2), (.int c2)]) (rest := []) (W := 0) (own_w hw 103 rfl) (own_w hw 104 rfl) (own_w hw 47 rfl) (own_w hw 105 rfl) (by decide) (m_pc l Z a0 hw o_173 [.int l_192, .int g_193, .int l_210, .int g_211, .int (0 : Int32), .int (0 : Int32)] (2 : Int32) c2 2 h_209 n0 z_222 O_225 hSAD hSHB hSLB A_213 rfl (by decide) (by show 5 < 6; decide) hc2 g_179) d21_20 rfl pd2 rfl rfl (Nat.le_of_eq rfl) (by decide) (by decide) (by decide) (by decide) rfl ?_
  rintro _ h_227 ⟨rfl, l_228, g_229, K_230, A_231, e_232⟩
  have f_233 : Ary Z h_227 r .char [(.int c0), (.int c1), (.int c2)] := f_215.sm (Sm.keep K_230 (ninS n_178 nin0))
  have t_238 : r < h_227.size := Nat.lt_of_lt_of_le t_220 K_230.1
  have t_239 : o_173 < h_227.size := Nat.lt_of_lt_of_le t_221 K_230.1
  have z_240 : n0 ≤ h_227.size := Nat.le_trans z_222 K_230.1
  have b_241 : h0.size ≤ h_227.size := Nat.le_trans b_223 K_230.1
  have K_242 : Keep h0 h_227 [] := K_224.trans K_230 (allS (Or.inr g_180) all0)
  have O_243 : Old Z n0 h_227 := O_225.keep K_230 (allS g_179 all0)
  have f_234 := Sta.ext O_243.2 hSAD
  have f_235 := Sta.ext O_243.2 hSHB
  have f_236 := Sta.ext O_243.2 hSLB
  change Ary Z h_227 o_173 .byte [(.int l_192), (.int g_193), (.int l_210), (.int g_211), (.int l_228), (.int g_229)] at A_231
  show Go _ _ _ _ _ _ _ _ _ _ _ _ h_227 (0 + 1 + 0 + 0 + 0) (0 + 6 + 0 + 0 + 0) 23 #[.val (.ref r), .val (.int 2), .val (.int 3), .val (.ref o_173), .val (.int 2)] []
  refine Go.iinc (pc' := 26) (w := (3 : Int32)) (Ls' := #[.val (.ref r), .val (.int 3), .val (.int 3), .val (.ref o_173), .val (.int 2)]) d21_23 rfl rfl rfl rfl ?_
  refine Go.iinc (pc' := 29) (w := (3 : Int32)) (Ls' := #[.val (.ref r), .val (.int 3), .val (.int 3), .val (.ref o_173), .val (.int 3)]) d21_26 rfl rfl rfl rfl ?_
  refine Go.goto (pc' := 8) d21_29 (by decide) (by decide) ?_
  refine Go.iload (pc' := 10) d21_8 rfl rfl ?_
  refine Go.iloadN (pc' := 11) d21_10 rfl rfl ?_
  refine Go.icmp (pc1 := 32) (pc2 := 14) d21_11 (by decide) (by decide) rfl (fun (c_244 : (3 : Int) ≤ (3 : Int)) => ?_) (fun (c_244 : (3 : Int) < (3 : Int)) => ?_)
  rotate_left
  · exact absurd c_244 (by decide)
  refine Go.aloadN (pc' := 33) d21_32 rfl rfl rfl ?_
  exact Go.retA d21_33 rfl rfl rfl ⟨o_173, l_192, g_193, l_210, g_211, l_228, g_229, rfl, K_242, A_231, g_180, t_239, e_196, e_214, e_232⟩ (by decide) (by decide)
set_option maxRecDepth 65536 in
set_option maxHeartbeats 40000000 in
theorem m_nbf4 (l : Launch) (Z : State) (a0 : Array Value) (hw : ∀ d ∈ tables_1, d.before a0 Z = true)  (h0 : Heap) (n0 : Nat) (z0 : n0 ≤ h0.size)  : Mt .n l Z (⟨"java/lang/StringUTF16", "newBytesFor", "(I)[B"⟩ : MethodName) jdk_52_method_2_code 1 (some (.array .byte)) ({ frames := 1, cells := 1, slots := 8, locals := 12 } : Room) n0 (fun v h => ∃ o, v = some (.ref o) ∧ Keep h0 h [] ∧ Ary Z h o .byte [.int (0 : Int32), .int (0 : Int32), .int (0 : Int32), .int (0 : Int32), .int (0 : Int32), .int (0 : Int32), .int (0 : Int32), .int (0 : Int32)] ∧ h0.size ≤ o ∧ o < h.size) h0 #[(.int 4)] := by
  refine Mt.go (Ls := #[.val (.int 4)]) (by first | exact plainFor_of_name (by decide +kernel) | decide +kernel | (simp [plainFor]; done)) (fun m => by first | (simp [entryFrame, mkF, argsToLocals, Value.category]; done) | rfl) ?_
  show Go _ _ _ _ _ _ _ _ _ _ _ _ h0 0 0 0 #[.val (.int 4)] []
  refine Go.iloadN (pc' := 1) d22_0 rfl rfl ?_
  refine Go.callS (pc' := 4) (argsL := [(.int 4)]) (rest := []) (W := 0) (own_w hw 99 rfl) (own_w hw 100 rfl) (own_w hw 47 rfl) (own_w hw 101 rfl) (by decide) (m_nbl l Z a0 hw (4 : Int32) h0 n0 z0 (by decide) (by decide)) d22_1 rfl pd0 rfl rfl (Nat.le_of_eq rfl) (by decide) (by decide) (by decide) (by decide) rfl ?_
  rintro _ _ ⟨r, rfl, rfl, hr⟩
  obtain rfl : r = (8 : Int32) := Int32.toInt_inj.mp (by rw [hr]; decide)
  show Go _ _ _ _ _ _ _ _ _ _ _ _ h0 (0 + 0) (0 + 0) 4 #[.val (.int 4)] [(.int 8)]
  refine Go.newA (pc' := 6) (k := 8) (ty := .byte) (cap := 8) (own_w hw 20 rfl) rfl rfl (by decide) (by decide) d22_4 (by decide) (by decide) rfl ?_
  intro h_245 a_246 q_247 E_248 A_249
  have g_251 : n0 ≤ a_246 := q_247 ▸ z0
  have g_252 : h0.size ≤ a_246 := q_247 ▸ (Nat.le_refl _)
  have z_253 : n0 ≤ h_245.size := Nat.le_trans z0 E_248.1
  have b_254 : h0.size ≤ h_245.size := Nat.le_trans (Nat.le_refl _) E_248.1
  have K_255 : Keep h0 h_245 [] := (Keep.refl _ _).ext E_248
  have t_256 : a_246 < h_245.size := A_249.lt
  change Ary Z h_245 a_246 .byte [(.int 0), (.int 0), (.int 0), (.int 0), (.int 0), (.int 0), (.int 0), (.int 0)] at A_249
  exact Go.retA d22_6 rfl rfl rfl ⟨a_246, rfl, K_255, A_249, g_252, t_256⟩ (by decide) (by decide)
set_option maxRecDepth 65536 in
set_option maxHeartbeats 40000000 in
theorem m_tb4 (l : Launch) (Z : State) (a0 : Array Value) (hw : ∀ d ∈ tables_1, d.before a0 Z = true) (r : Addr) (c0 c1 c2 c3 : Int32) (h0 : Heap) (n0 : Nat) (z0 : n0 ≤ h0.size) (hO : Old Z n0 h0) (hSAD : Sta Z Z.heap "java/lang/StringUTF16" "$assertionsDisabled" "Z" (.int 1)) (hSHB : Sta Z Z.heap "java/lang/StringUTF16" "HI_BYTE_SHIFT" "I" (.int 0)) (hSLB : Sta Z Z.heap "java/lang/StringUTF16" "LO_BYTE_SHIFT" "I" (.int 8)) (hR : Ary Z h0 r .char [.int c0, .int c1, .int c2, .int c3]) (hc0 : 0 ≤ c0.toInt ∧ c0.toInt < 65536) (hc1 : 0 ≤ c1.toInt ∧ c1.toInt < 65536) (hc2 : 0 ≤ c2.toInt ∧ c2.toInt < 65536) (hc3 : 0 ≤ c3.toInt ∧ c3.toInt < 65536) : Mt .n l Z (⟨"java/lang/StringUTF16", "toBytes", "([CII)[B"⟩ : MethodName) jdk_52_method_14_code 5 (some (.array .byte)) ({ frames := 2, cells := 1, slots := 8, locals := 24 } : Room) n0 (fun v h => ∃ (o : Addr) (l0 g0 l1 g1 l2 g2 l3 g3 : Int32), v = some (.ref o) ∧ Keep h0 h [] ∧ Ary Z h o .byte [.int l0, .int g0, .int l1, .int g1, .int l2, .int g2, .int l3, .int g3] ∧ h0.size ≤ o ∧ o < h.size ∧ l0.toInt % 256 + 256 * (g0.toInt % 256) = c0.toInt ∧ l1.toInt % 256 + 256 * (g1.toInt % 256) = c1.toInt ∧ l2.toInt % 256 + 256 * (g2.toInt % 256) = c2.toInt ∧ l3.toInt % 256 + 256 * (g3.toInt % 256) = c3.toInt) h0 #[(.ref r), (.int 0), (.int 4)] := by
  refine Mt.go (Ls := #[.val (.ref r), .val (.int 0), .val (.int 4), .unset, .unset]) (by first | exact plainFor_of_name (by decide +kernel) | decide +kernel | (simp [plainFor]; done)) (fun m => by first | (simp [entryFrame, mkF, argsToLocals, Value.category]; done) | rfl) ?_
  show Go _ _ _ _ _ _ _ _ _ _ _ _ h0 0 0 0 #[.val (.ref r), .val (.int 0), .val (.int 4), .unset, .unset] []
  have hTAD := Sta.ext hO.2 hSAD
  have hTHB := Sta.ext hO.2 hSHB
  have hTLB := Sta.ext hO.2 hSLB
  refine Go.iloadN (pc' := 1) d21_0 rfl rfl ?_
  refine Go.callS (pc' := 4) (argsL := [(.int 4)]) (rest := []) (W := 0) (own_w hw 96 rfl) (own_w hw 97 rfl) (own_w hw 47 rfl) (own_w hw 98 rfl) (by decide) (m_nbf4 l Z a0 hw h0 n0 z0) d21_1 rfl pd1 rfl rfl (Nat.le_of_eq rfl) (by decide) (by decide) (by decide) (by decide) rfl ?_
  rintro _ h_257 ⟨o_258, rfl, K_259, A_260, q_261, t_262⟩
  have n_263 : r ≠ o_258 := Nat.ne_of_lt (Nat.lt_of_lt_of_le hR.lt q_261)
  have g_264 : n0 ≤ o_258 := Nat.le_trans z0 q_261
  have g_265 : h0.size ≤ o_258 := Nat.le_trans (Nat.le_refl _) q_261
  have f_269 : Ary Z h_257 r .char [(.int c0), (.int c1), (.int c2), (.int c3)] := hR.sm (Sm.keep K_259 nin0)
  have t_270 : r < h_257.size := Nat.lt_of_lt_of_le hR.lt K_259.1
  have z_271 : n0 ≤ h_257.size := Nat.le_trans z0 K_259.1
  have b_272 : h0.size ≤ h_257.size := Nat.le_trans (Nat.le_refl _) K_259.1
  have K_273 : Keep h0 h_257 [] := (Keep.refl _ _).trans K_259 all0
  have O_274 : Old Z n0 h_257 := hO.keep K_259 all0
  have f_266 := Sta.ext O_274.2 hSAD
  have f_267 := Sta.ext O_274.2 hSHB
  have f_268 := Sta.ext O_274.2 hSLB
  show Go _ _ _ _ _ _ _ _ _ _ _ _ h_257 (0 + 1) (0 + 8) 4 #[.val (.ref r), .val (.int 0), .val (.int 4), .unset, .unset] [(.ref o_258)]
  refine Go.astoreN (pc' := 5) (Ls' := #[.val (.ref r), .val (.int 0), .val (.int 4), .val (.ref o_258), .unset]) d21_4 rfl rfl rfl ?_
  refine Go.iconst (pc' := 6) (v := (0 : Int32)) d21_5 rfl rfl ?_
  refine Go.istore (pc' := 8) (Ls' := #[.val (.ref r), .val (.int 0), .val (.int 4), .val (.ref o_258), .val (.int 0)]) d21_6 rfl rfl ?_
  refine Go.iload (pc' := 10) d21_8 rfl rfl ?_
  refine Go.iloadN (pc' := 11) d21_10 rfl rfl ?_
  refine Go.icmp (pc1 := 32) (pc2 := 14) d21_11 (by decide) (by decide) rfl (fun (c_275 : (4 : Int) ≤ (0 : Int)) => ?_) (fun (c_275 : (0 : Int) < (4 : Int)) => ?_)
  · exact absurd c_275 (by decide)
  refine Go.aloadN (pc' := 15) d21_14 rfl rfl rfl ?_
  refine Go.iload (pc' := 17) d21_15 rfl rfl ?_
  refine Go.aloadN (pc' := 18) d21_17 rfl rfl rfl ?_
  refine Go.iloadN (pc' := 19) d21_18 rfl rfl ?_
  refine Go.ldC (pc' := 20) (k := 0) (v := (.int c0)) f_269 rfl rfl d21_19 rfl ?_
  refine Go.callS (pc' := 23) (argsL := [(.ref o_258), (.int 0), (.int c0)]) (rest := []) (W := 0) (own_w hw 103 rfl) (own_w hw 104 rfl) (own_w hw 47 rfl) (own_w hw 105 rfl) (by decide) (m_pc l Z a0 hw o_258 [.int (0 : Int32), .int (0 : Int32), .int (0 : Int32), .int (0 : Int32), .int (0 : Int32), .int (0 : Int32), .int (0 : Int32), .int (0 : Int32)] (0 : Int32) c0 0 h_257 n0 z_271 O_274 hSAD hSHB hSLB A_260 rfl (by decide) (by show 1 < 8; decide) hc0 g_264) d21_20 rfl pd2 rfl rfl (Nat.le_of_eq rfl) (by decide) (by decide) (by decide) (by decide) rfl ?_
  rintro _ h_276 ⟨rfl, l_277, g_278, K_279, A_280, e_281⟩
  have f_282 : Ary Z h_276 r .char [(.int c0), (.int c1), (.int c2), (.int c3)] := f_269.sm (Sm.keep K_279 (ninS n_263 nin0))
  have t_287 : r < h_276.size := Nat.lt_of_lt_of_le t_270 K_279.1
  have t_288 : o_258 < h_276.size := Nat.lt_of_lt_of_le t_262 K_279.1
  have z_289 : n0 ≤ h_276.size := Nat.le_trans z_271 K_279.1
  have b_290 : h0.size ≤ h_276.size := Nat.le_trans b_272 K_279.1
  have K_291 : Keep h0 h_276 [] := K_273.trans K_279 (allS (Or.inr g_265) all0)
  have O_292 : Old Z n0 h_276 := O_274.keep K_279 (allS g_264 all0)
  have f_283 := Sta.ext O_292.2 hSAD
  have f_284 := Sta.ext O_292.2 hSHB
  have f_285 := Sta.ext O_292.2 hSLB
  change Ary Z h_276 o_258 .byte [(.int l_277), (.int g_278), (.int 0), (.int 0), (.int 0), (.int 0), (.int 0), (.int 0)] at A_280
  show Go _ _ _ _ _ _ _ _ _ _ _ _ h_276 (0 + 1 + 0) (0 + 8 + 0) 23 #[.val (.ref r), .val (.int 0), .val (.int 4), .val (.ref o_258), .val (.int 0)] []
  refine Go.iinc (pc' := 26) (w := (1 : Int32)) (Ls' := #[.val (.ref r), .val (.int 1), .val (.int 4), .val (.ref o_258), .val (.int 0)]) d21_23 rfl rfl rfl rfl ?_
  refine Go.iinc (pc' := 29) (w := (1 : Int32)) (Ls' := #[.val (.ref r), .val (.int 1), .val (.int 4), .val (.ref o_258), .val (.int 1)]) d21_26 rfl rfl rfl rfl ?_
  refine Go.goto (pc' := 8) d21_29 (by decide) (by decide) ?_
  refine Go.iload (pc' := 10) d21_8 rfl rfl ?_
  refine Go.iloadN (pc' := 11) d21_10 rfl rfl ?_
  refine Go.icmp (pc1 := 32) (pc2 := 14) d21_11 (by decide) (by decide) rfl (fun (c_293 : (4 : Int) ≤ (1 : Int)) => ?_) (fun (c_293 : (1 : Int) < (4 : Int)) => ?_)
  · exact absurd c_293 (by decide)
  refine Go.aloadN (pc' := 15) d21_14 rfl rfl rfl ?_
  refine Go.iload (pc' := 17) d21_15 rfl rfl ?_
  refine Go.aloadN (pc' := 18) d21_17 rfl rfl rfl ?_
  refine Go.iloadN (pc' := 19) d21_18 rfl rfl ?_
  refine Go.ldC (pc' := 20) (k := 1) (v := (.int c1)) f_282 rfl rfl d21_19 rfl ?_
  refine Go.callS (pc' := 23) (argsL := [(.ref o_258), (.int 1), (.int c1)]) (rest := []) (W := 0) (own_w hw 103 rfl) (own_w hw 104 rfl) (own_w hw 47 rfl) (own_w hw 105 rfl) (by decide) (m_pc l Z a0 hw o_258 [.int l_277, .int g_278, .int (0 : Int32), .int (0 : Int32), .int (0 : Int32), .int (0 : Int32), .int (0 : Int32), .int (0 : Int32)] (1 : Int32) c1 1 h_276 n0 z_289 O_292 hSAD hSHB hSLB A_280 rfl (by decide) (by show 3 < 8; decide) hc1 g_264) d21_20 rfl pd2 rfl rfl (Nat.le_of_eq rfl) (by decide) (by decide) (by decide) (by decide) rfl ?_
  rintro _ h_294 ⟨rfl, l_295, g_296, K_297, A_298, e_299⟩
  have f_300 : Ary Z h_294 r .char [(.int c0), (.int c1), (.int c2), (.int c3)] := f_282.sm (Sm.keep K_297 (ninS n_263 nin0))
  have t_305 : r < h_294.size := Nat.lt_of_lt_of_le t_287 K_297.1
  have t_306 : o_258 < h_294.size := Nat.lt_of_lt_of_le t_288 K_297.1
  have z_307 : n0 ≤ h_294.size := Nat.le_trans z_289 K_297.1
  have b_308 : h0.size ≤ h_294.size := Nat.le_trans b_290 K_297.1
  have K_309 : Keep h0 h_294 [] := K_291.trans K_297 (allS (Or.inr g_265) all0)
  have O_310 : Old Z n0 h_294 := O_292.keep K_297 (allS g_264 all0)
  have f_301 := Sta.ext O_310.2 hSAD
  have f_302 := Sta.ext O_310.2 hSHB
  have f_303 := Sta.ext O_310.2 hSLB
  change Ary Z h_294 o_258 .byte [(.int l_277), (.int g_278), (.int l_295), (.int g_296), (.int 0), (.int 0), (.int 0), (.int 0)] at A_298
  show Go _ _ _ _ _ _ _ _ _ _ _ _ h_294 (0 + 1 + 0 + 0) (0 + 8 + 0 + 0) 23 #[.val (.ref r), .val (.int 1), .val (.int 4), .val (.ref o_258), .val (.int 1)] []
  refine Go.iinc (pc' := 26) (w := (2 : Int32)) (Ls' := #[.val (.ref r), .val (.int 2), .val (.int 4), .val (.ref o_258), .val (.int 1)]) d21_23 rfl rfl rfl rfl ?_
  refine Go.iinc (pc' := 29) (w := (2 : Int32)) (Ls' := #[.val (.ref r), .val (.int 2), .val (.int 4), .val (.ref o_258), .val (.int 2)]) d21_26 rfl rfl rfl rfl ?_
  refine Go.goto (pc' := 8) d21_29 (by decide) (by decide) ?_
  refine Go.iload (pc' := 10) d21_8 rfl rfl ?_
  refine Go.iloadN (pc' := 11) d21_10 rfl rfl ?_
  refine Go.icmp (pc1 := 32) (pc2 := 14) d21_11 (by decide) (by decide) rfl (fun (c_311 : (4 : Int) ≤ (2 : Int)) => ?_) (fun (c_311 : (2 : Int) < (4 : Int)) => ?_)
  · exact absurd c_311 (by decide)
  refine Go.aloadN (pc' := 15) d21_14 rfl rfl rfl ?_
  refine Go.iload (pc' := 17) d21_15 rfl rfl ?_
  refine Go.aloadN (pc' := 18) d21_17 rfl rfl rfl ?_
  refine Go.iloadN (pc' := 19) d21_18 rfl rfl ?_
  refine Go.ldC (pc' := 20) (k := 2) (v := (.int c2)) f_300 rfl rfl d21_19 rfl ?_
  refine Go.callS (pc' := 23) (argsL := [(.ref o_258), (.int 2), (.int c2)]) (rest := []) (W := 0) (own_w hw 103 rfl) (own_w hw 104 rfl) (own_w hw 47 rfl) (own_w hw 105 rfl) (by decide) (m_pc l Z a0 hw o_258 [.int l_277, .int g_278, .int l_295, .int g_296, .int (0 : Int32), .int (0 : Int32), .int (0 : Int32), .int (0 : Int32)] (2 : Int32) c2 2 h_294 n0 z_307 O_310 hSAD hSHB hSLB A_298 rfl (by decide) (by show 5 < 8; decide) hc2 g_264) d21_20 rfl pd2 rfl rfl (Nat.le_of_eq rfl) (by decide) (by decide) (by decide) (by decide) rfl ?_
  rintro _ h_312 ⟨rfl, l_313, g_314, K_315, A_316, e_317⟩
  have f_318 : Ary Z h_312 r .char [(.int c0), (.int c1), (.int c2), (.int c3)] := f_300.sm (Sm.keep K_315 (ninS n_263 nin0))
  have t_323 : r < h_312.size := Nat.lt_of_lt_of_le t_305 K_315.1
  have t_324 : o_258 < h_312.size := Nat.lt_of_lt_of_le t_306 K_315.1
  have z_325 : n0 ≤ h_312.size := Nat.le_trans z_307 K_315.1
  have b_326 : h0.size ≤ h_312.size := Nat.le_trans b_308 K_315.1
  have K_327 : Keep h0 h_312 [] := K_309.trans K_315 (allS (Or.inr g_265) all0)
  have O_328 : Old Z n0 h_312 := O_310.keep K_315 (allS g_264 all0)
  have f_319 := Sta.ext O_328.2 hSAD
  have f_320 := Sta.ext O_328.2 hSHB
  have f_321 := Sta.ext O_328.2 hSLB
  change Ary Z h_312 o_258 .byte [(.int l_277), (.int g_278), (.int l_295), (.int g_296), (.int l_313), (.int g_314), (.int 0), (.int 0)] at A_316
  show Go _ _ _ _ _ _ _ _ _ _ _ _ h_312 (0 + 1 + 0 + 0 + 0) (0 + 8 + 0 + 0 + 0) 23 #[.val (.ref r), .val (.int 2), .val (.int 4), .val (.ref o_258), .val (.int 2)] []
  refine Go.iinc (pc' := 26) (w := (3 : Int32)) (Ls' := #[.val (.ref r), .val (.int 3), .val (.int 4), .val (.ref o_258), .val (.int 2)]) d21_23 rfl rfl rfl rfl ?_
  refine Go.iinc (pc' := 29) (w := (3 : Int32)) (Ls' := #[.val (.ref r), .val (.int 3), .val (.int 4), .val (.ref o_258), .val (.int 3)]) d21_26 rfl rfl rfl rfl ?_
  refine Go.goto (pc' := 8) d21_29 (by decide) (by decide) ?_
  refine Go.iload (pc' := 10) d21_8 rfl rfl ?_
  refine Go.iloadN (pc' := 11) d21_10 rfl rfl ?_
  refine Go.icmp (pc1 := 32) (pc2 := 14) d21_11 (by decide) (by decide) rfl (fun (c_329 : (4 : Int) ≤ (3 : Int)) => ?_) (fun (c_329 : (3 : Int) < (4 : Int)) => ?_)
  · exact absurd c_329 (by decide)
  refine Go.aloadN (pc' := 15) d21_14 rfl rfl rfl ?_
  refine Go.iload (pc' := 17) d21_15 rfl rfl ?_
  refine Go.aloadN (pc' := 18) d21_17 rfl rfl rfl ?_
  refine Go.iloadN (pc' := 19) d21_18 rfl rfl ?_
  refine Go.ldC (pc' := 20) (k := 3) (v := (.int c3)) f_318 rfl rfl d21_19 rfl ?_
  refine Go.callS (pc' := 23) (argsL := [(.ref o_258), (.int 3), (.int c3)]) (rest := []) (W := 0) (own_w hw 103 rfl) (own_w hw 104 rfl) (own_w hw 47 rfl) (own_w hw 105 rfl) (by decide) (m_pc l Z a0 hw o_258 [.int l_277, .int g_278, .int l_295, .int g_296, .int l_313, .int g_314, .int (0 : Int32), .int (0 : Int32)] (3 : Int32) c3 3 h_312 n0 z_325 O_328 hSAD hSHB hSLB A_316 rfl (by decide) (by show 7 < 8; decide) hc3 g_264) d21_20 rfl pd2 rfl rfl (Nat.le_of_eq rfl) (by decide) (by decide) (by decide) (by decide) rfl ?_
  rintro _ h_330 ⟨rfl, l_331, g_332, K_333, A_334, e_335⟩
  have f_336 : Ary Z h_330 r .char [(.int c0), (.int c1), (.int c2), (.int c3)] := f_318.sm (Sm.keep K_333 (ninS n_263 nin0))
  have t_341 : r < h_330.size := Nat.lt_of_lt_of_le t_323 K_333.1
  have t_342 : o_258 < h_330.size := Nat.lt_of_lt_of_le t_324 K_333.1
  have z_343 : n0 ≤ h_330.size := Nat.le_trans z_325 K_333.1
  have b_344 : h0.size ≤ h_330.size := Nat.le_trans b_326 K_333.1
  have K_345 : Keep h0 h_330 [] := K_327.trans K_333 (allS (Or.inr g_265) all0)
  have O_346 : Old Z n0 h_330 := O_328.keep K_333 (allS g_264 all0)
  have f_337 := Sta.ext O_346.2 hSAD
  have f_338 := Sta.ext O_346.2 hSHB
  have f_339 := Sta.ext O_346.2 hSLB
  change Ary Z h_330 o_258 .byte [(.int l_277), (.int g_278), (.int l_295), (.int g_296), (.int l_313), (.int g_314), (.int l_331), (.int g_332)] at A_334
  show Go _ _ _ _ _ _ _ _ _ _ _ _ h_330 (0 + 1 + 0 + 0 + 0 + 0) (0 + 8 + 0 + 0 + 0 + 0) 23 #[.val (.ref r), .val (.int 3), .val (.int 4), .val (.ref o_258), .val (.int 3)] []
  refine Go.iinc (pc' := 26) (w := (4 : Int32)) (Ls' := #[.val (.ref r), .val (.int 4), .val (.int 4), .val (.ref o_258), .val (.int 3)]) d21_23 rfl rfl rfl rfl ?_
  refine Go.iinc (pc' := 29) (w := (4 : Int32)) (Ls' := #[.val (.ref r), .val (.int 4), .val (.int 4), .val (.ref o_258), .val (.int 4)]) d21_26 rfl rfl rfl rfl ?_
  refine Go.goto (pc' := 8) d21_29 (by decide) (by decide) ?_
  refine Go.iload (pc' := 10) d21_8 rfl rfl ?_
  refine Go.iloadN (pc' := 11) d21_10 rfl rfl ?_
  refine Go.icmp (pc1 := 32) (pc2 := 14) d21_11 (by decide) (by decide) rfl (fun (c_347 : (4 : Int) ≤ (4 : Int)) => ?_) (fun (c_347 : (4 : Int) < (4 : Int)) => ?_)
  rotate_left
  · exact absurd c_347 (by decide)
  refine Go.aloadN (pc' := 33) d21_32 rfl rfl rfl ?_
  exact Go.retA d21_33 rfl rfl rfl ⟨o_258, l_277, g_278, l_295, g_296, l_313, g_314, l_331, g_332, rfl, K_345, A_334, g_265, t_342, e_281, e_299, e_317, e_335⟩ (by decide) (by decide)
set_option maxRecDepth 65536 in
set_option maxHeartbeats 40000000 in
theorem m_c5_1 (l : Launch) (Z : State) (a0 : Array Value) (hw : ∀ d ∈ tables_1, d.before a0 Z = true) (r o : Addr) (c0 : Int32) (h0 : Heap) (n0 : Nat) (z0 : n0 ≤ h0.size) (hR : Ary Z h0 r .char [.int c0]) (hA : Ary Z h0 o .byte [.int (0 : Int32)]) (hg : n0 ≤ o) (hne : r ≠ o) (hc0 : 0 ≤ c0.toInt ∧ c0.toInt < 65536) : Mt .n l Z (⟨"java/lang/StringUTF16", "compress", "([CI[BII)I"⟩ : MethodName) jdk_52_method_21_code 7 (some .int) ({ frames := 0, cells := 0, slots := 0, locals := 0 } : Room) n0 (fun v h => ∃ q : Int32, v = some (.int q) ∧ Keep h0 h [o] ∧ ((∃ b0 : Int32, q = (1 : Int32) ∧ Ary Z h o .byte [.int b0] ∧ b0.toInt % 256 = c0.toInt) ∨ ((q = (0 : Int32) ∧ 255 < c0.toInt)))) h0 #[(.ref r), (.int 0), (.ref o), (.int 0), (.int 1)] := by
  refine Mt.go (Ls := #[.val (.ref r), .val (.int 0), .val (.ref o), .val (.int 0), .val (.int 1), .unset, .unset]) (by first | exact plainFor_of_name (by decide +kernel) | decide +kernel | (simp [plainFor]; done)) (fun m => by first | (simp [entryFrame, mkF, argsToLocals, Value.category]; done) | rfl) ?_
  show Go _ _ _ _ _ _ _ _ _ _ _ _ h0 0 0 0 #[.val (.ref r), .val (.int 0), .val (.ref o), .val (.int 0), .val (.int 1), .unset, .unset] []
  refine Go.iconst (pc' := 1) (v := (0 : Int32)) d10_0 rfl rfl ?_
  refine Go.istore (pc' := 3) (Ls' := #[.val (.ref r), .val (.int 0), .val (.ref o), .val (.int 0), .val (.int 1), .val (.int 0), .unset]) d10_1 rfl rfl ?_
  refine Go.iload (pc' := 5) d10_3 rfl rfl ?_
  refine Go.iload (pc' := 7) d10_5 rfl rfl ?_
  refine Go.icmp (pc1 := 44) (pc2 := 10) d10_7 (by decide) (by decide) rfl (fun (c_348 : (1 : Int) ≤ (0 : Int)) => ?_) (fun (c_348 : (0 : Int) < (1 : Int)) => ?_)
  · exact absurd c_348 (by decide)
  refine Go.aloadN (pc' := 11) d10_10 rfl rfl rfl ?_
  refine Go.iloadN (pc' := 12) d10_11 rfl rfl ?_
  refine Go.ldC (pc' := 13) (k := 0) (v := (.int c0)) hR rfl rfl d10_12 rfl ?_
  refine Go.istore (pc' := 15) (Ls' := #[.val (.ref r), .val (.int 0), .val (.ref o), .val (.int 0), .val (.int 1), .val (.int 0), .val (.int c0)]) d10_13 rfl rfl ?_
  refine Go.iload (pc' := 17) d10_15 rfl rfl ?_
  refine Go.sipush (pc' := 20) (v := (255 : Int32)) d10_17 rfl rfl ?_
  refine Go.icmp (pc1 := 26) (pc2 := 23) d10_20 (by decide) (by decide) rfl (fun (c_349 : c0.toInt ≤ (255 : Int)) => ?_) (fun (c_349 : (255 : Int) < c0.toInt) => ?_)
  · refine Go.aloadN (pc' := 27) d10_26 rfl rfl rfl ?_
    refine Go.iloadN (pc' := 28) d10_27 rfl rfl ?_
    refine Go.iload (pc' := 30) d10_28 rfl rfl ?_
    refine Go.i2b (pc' := 31) d10_30 rfl ?_
    generalize eb_350 : c0.toInt8.toInt32 = b_350
    have k_351 : b_350.toInt % 256 = c0.toInt ∧ -128 ≤ b_350.toInt ∧ b_350.toInt < 128 := by
      rw [← eb_350]
      have := c_i2b c0
      have := rng32 c0.toInt8.toInt32
      have := rng32 c0
      have := hc0
      omega
    have nb_350 : nar .byte b_350 = b_350 := own_nb k_351.2
    refine Go.stB (pc' := 32) (k := 0) hA rfl (by show 0 < 1; decide) d10_31 hg rfl ?_
    intro h_352 W_353 A_354
    rw [nb_350] at W_353 A_354
    have f_355 : Ary Z h_352 r .char [(.int c0)] := hR.sm (Sm.wr W_353 hne)
    have t_356 : r < h_352.size := Nat.lt_of_lt_of_le hR.lt (Nat.le_of_eq W_353.size.symm)
    have t_357 : o < h_352.size := Nat.lt_of_lt_of_le hA.lt (Nat.le_of_eq W_353.size.symm)
    have z_358 : n0 ≤ h_352.size := Nat.le_trans z0 (Nat.le_of_eq W_353.size.symm)
    have b_359 : h0.size ≤ h_352.size := Nat.le_trans (Nat.le_refl _) (Nat.le_of_eq W_353.size.symm)
    have K_360 : Keep h0 h_352 [o] := (Keep.refl _ _).wr W_353 (Or.inl (List.mem_of_getElem? (i := 0) rfl))
    change Ary Z h_352 o .byte [(.int b_350)] at A_354
    refine Go.iinc (pc' := 35) (w := (1 : Int32)) (Ls' := #[.val (.ref r), .val (.int 1), .val (.ref o), .val (.int 0), .val (.int 1), .val (.int 0), .val (.int c0)]) d10_32 rfl rfl rfl rfl ?_
    refine Go.iinc (pc' := 38) (w := (1 : Int32)) (Ls' := #[.val (.ref r), .val (.int 1), .val (.ref o), .val (.int 1), .val (.int 1), .val (.int 0), .val (.int c0)]) d10_35 rfl rfl rfl rfl ?_
    refine Go.iinc (pc' := 41) (w := (1 : Int32)) (Ls' := #[.val (.ref r), .val (.int 1), .val (.ref o), .val (.int 1), .val (.int 1), .val (.int 1), .val (.int c0)]) d10_38 rfl rfl rfl rfl ?_
    refine Go.goto (pc' := 3) d10_41 (by decide) (by decide) ?_
    refine Go.iload (pc' := 5) d10_3 rfl rfl ?_
    refine Go.iload (pc' := 7) d10_5 rfl rfl ?_
    refine Go.icmp (pc1 := 44) (pc2 := 10) d10_7 (by decide) (by decide) rfl (fun (c_361 : (1 : Int) ≤ (1 : Int)) => ?_) (fun (c_361 : (1 : Int) < (1 : Int)) => ?_)
    rotate_left
    · exact absurd c_361 (by decide)
    refine Go.iload (pc' := 46) d10_44 rfl rfl ?_
    exact Go.retI d10_46 rfl ⟨_, rfl, K_360, Or.inl ⟨b_350, rfl, A_354, k_351.1⟩⟩ (by decide) (by decide)
  · refine Go.iload (pc' := 25) d10_23 rfl rfl ?_
    exact Go.retI d10_25 rfl ⟨_, rfl, (Keep.refl _ _), Or.inr (⟨rfl, by omega⟩)⟩ (by decide) (by decide)
set_option maxRecDepth 65536 in
set_option maxHeartbeats 40000000 in
theorem m_c3_1 (l : Launch) (Z : State) (a0 : Array Value) (hw : ∀ d ∈ tables_1, d.before a0 Z = true) (r : Addr) (c0 : Int32) (h0 : Heap) (n0 : Nat) (z0 : n0 ≤ h0.size) (hO : Old Z n0 h0) (hSAD : Sta Z Z.heap "java/lang/StringUTF16" "$assertionsDisabled" "Z" (.int 1)) (hSHB : Sta Z Z.heap "java/lang/StringUTF16" "HI_BYTE_SHIFT" "I" (.int 0)) (hSLB : Sta Z Z.heap "java/lang/StringUTF16" "LO_BYTE_SHIFT" "I" (.int 8)) (hR : Ary Z h0 r .char [.int c0]) (hc0 : 0 ≤ c0.toInt ∧ c0.toInt < 65536)  : Mt .n l Z (⟨"java/lang/StringUTF16", "compress", "([CII)[B"⟩ : MethodName) jdk_52_method_16_code 6 (some (.array .byte)) ({ frames := 3, cells := 2, slots := 3, locals := 40 } : Room) n0 (fun v h => ∃ o : Addr, v = some (.ref o) ∧ Keep h0 h [] ∧ h0.size ≤ o ∧ o < h.size ∧ ((∃ b0 : Int32, Ary Z h o .byte [.int b0] ∧ b0.toInt % 256 = c0.toInt) ∨ (∃ l0 g0 : Int32, Ary Z h o .byte [.int l0, .int g0] ∧ l0.toInt % 256 + 256 * (g0.toInt % 256) = c0.toInt))) h0 #[(.ref r), (.int 0), (.int 1)] := by
  refine Mt.go (Ls := #[.val (.ref r), .val (.int 0), .val (.int 1), .unset, .unset, .unset]) (by first | exact plainFor_of_name (by decide +kernel) | decide +kernel | (simp [plainFor]; done)) (fun m => by first | (simp [entryFrame, mkF, argsToLocals, Value.category]; done) | rfl) ?_
  show Go _ _ _ _ _ _ _ _ _ _ _ _ h0 0 0 0 #[.val (.ref r), .val (.int 0), .val (.int 1), .unset, .unset, .unset] []
  have hTAD := Sta.ext hO.2 hSAD
  have hTHB := Sta.ext hO.2 hSHB
  have hTLB := Sta.ext hO.2 hSLB
  refine Go.iloadN (pc' := 1) d9_0 rfl rfl ?_
  refine Go.newA (pc' := 3) (k := 1) (ty := .byte) (cap := 1) (own_w hw 20 rfl) rfl rfl (by decide) (by decide) d9_1 (by decide) (by decide) rfl ?_
  intro h_362 a_363 q_364 E_365 A_366
  have n_368 : r ≠ a_363 := Nat.ne_of_lt (q_364 ▸ hR.lt)
  have g_369 : n0 ≤ a_363 := q_364 ▸ z0
  have g_370 : h0.size ≤ a_363 := q_364 ▸ (Nat.le_refl _)
  have f_374 : Ary Z h_362 r .char [(.int c0)] := hR.sm (Sm.ext E_365)
  have t_375 : r < h_362.size := Nat.lt_of_lt_of_le hR.lt E_365.1
  have z_376 : n0 ≤ h_362.size := Nat.le_trans z0 E_365.1
  have b_377 : h0.size ≤ h_362.size := Nat.le_trans (Nat.le_refl _) E_365.1
  have K_378 : Keep h0 h_362 [] := (Keep.refl _ _).ext E_365
  have O_379 : Old Z n0 h_362 := hO.ext E_365
  have f_371 := Sta.ext O_379.2 hSAD
  have f_372 := Sta.ext O_379.2 hSHB
  have f_373 := Sta.ext O_379.2 hSLB
  have t_380 : a_363 < h_362.size := A_366.lt
  change Ary Z h_362 a_363 .byte [(.int 0)] at A_366
  refine Go.astoreN (pc' := 4) (Ls' := #[.val (.ref r), .val (.int 0), .val (.int 1), .val (.ref a_363), .unset, .unset]) d9_3 rfl rfl rfl ?_
  refine Go.aloadN (pc' := 5) d9_4 rfl rfl rfl ?_
  refine Go.iloadN (pc' := 6) d9_5 rfl rfl ?_
  refine Go.aloadN (pc' := 7) d9_6 rfl rfl rfl ?_
  refine Go.iconst (pc' := 8) (v := (0 : Int32)) d9_7 rfl rfl ?_
  refine Go.iloadN (pc' := 9) d9_8 rfl rfl ?_
  refine Go.callS (pc' := 12) (argsL := [(.ref r), (.int 0), (.ref a_363), (.int 0), (.int 1)]) (rest := []) (W := 0) (own_w hw 49 rfl) (own_w hw 50 rfl) (own_w hw 47 rfl) (own_w hw 51 rfl) (by decide) (m_c5_1 l Z a0 hw r a_363 c0 h_362 n0 z_376 f_374 A_366 g_369 n_368 hc0) d9_9 rfl pd3 rfl rfl (Nat.le_of_eq rfl) (by decide) (by decide) (by decide) (by decide) rfl ?_
  rintro _ h_381 ⟨q_382, rfl, K_383, hq_384⟩
  have f_385 : Ary Z h_381 r .char [(.int c0)] := f_374.sm (Sm.keep K_383 (ninS n_368 nin0))
  have t_390 : r < h_381.size := Nat.lt_of_lt_of_le t_375 K_383.1
  have t_391 : a_363 < h_381.size := Nat.lt_of_lt_of_le t_380 K_383.1
  have z_392 : n0 ≤ h_381.size := Nat.le_trans z_376 K_383.1
  have b_393 : h0.size ≤ h_381.size := Nat.le_trans b_377 K_383.1
  have K_394 : Keep h0 h_381 [] := K_378.trans K_383 (allS (Or.inr g_370) all0)
  have O_395 : Old Z n0 h_381 := O_379.keep K_383 (allS g_369 all0)
  have f_386 := Sta.ext O_395.2 hSAD
  have f_387 := Sta.ext O_395.2 hSHB
  have f_388 := Sta.ext O_395.2 hSLB
  show Go _ _ _ _ _ _ _ _ _ _ _ _ h_381 (0 + 1 + 0) (0 + 1 + 0) 12 #[.val (.ref r), .val (.int 0), .val (.int 1), .val (.ref a_363), .unset, .unset] [(.int q_382)]
  rcases hq_384 with ⟨b0, rfl, A_396, e_397⟩ | ⟨rfl, hq_384⟩
  · show Go _ _ _ _ _ _ _ _ _ _ _ _ h_381 (0 + 1 + 0) (0 + 1 + 0) 12 #[.val (.ref r), .val (.int 0), .val (.int 1), .val (.ref a_363), .unset, .unset] [(.int 1)]
    refine Go.istore (pc' := 14) (Ls' := #[.val (.ref r), .val (.int 0), .val (.int 1), .val (.ref a_363), .val (.int 1), .unset]) d9_12 rfl rfl ?_
    refine Go.iload (pc' := 16) d9_14 rfl rfl ?_
    refine Go.iloadN (pc' := 17) d9_16 rfl rfl ?_
    refine Go.icmp (pc1 := 57) (pc2 := 20) d9_17 (by decide) (by decide) rfl (fun (c_398 : (1 : Int) = (1 : Int)) => ?_) (fun (c_398 : (1 : Int) ≠ (1 : Int)) => ?_)
    rotate_left
    · exact absurd c_398 (by decide)
    refine Go.aloadN (pc' := 58) d9_57 rfl rfl rfl ?_
    exact Go.retA d9_58 rfl rfl rfl ⟨a_363, rfl, K_394, g_370, t_391, Or.inl ⟨b0, A_396, e_397⟩⟩ (by decide) (by decide)
  · show Go _ _ _ _ _ _ _ _ _ _ _ _ h_381 (0 + 1 + 0) (0 + 1 + 0) 12 #[.val (.ref r), .val (.int 0), .val (.int 1), .val (.ref a_363), .unset, .unset] [(.int 0)]
    refine Go.istore (pc' := 14) (Ls' := #[.val (.ref r), .val (.int 0), .val (.int 1), .val (.ref a_363), .val (.int 0), .unset]) d9_12 rfl rfl ?_
    refine Go.iload (pc' := 16) d9_14 rfl rfl ?_
    refine Go.iloadN (pc' := 17) d9_16 rfl rfl ?_
    refine Go.icmp (pc1 := 57) (pc2 := 20) d9_17 (by decide) (by decide) rfl (fun (c_399 : (0 : Int) = (1 : Int)) => ?_) (fun (c_399 : (0 : Int) ≠ (1 : Int)) => ?_)
    · exact absurd c_399 (by decide)
    refine Go.aloadN (pc' := 21) d9_20 rfl rfl rfl ?_
    refine Go.iloadN (pc' := 22) d9_21 rfl rfl ?_
    refine Go.iloadN (pc' := 23) d9_22 rfl rfl ?_
    refine Go.callS (pc' := 26) (argsL := [(.ref r), (.int 0), (.int 1)]) (rest := []) (W := 0) (own_w hw 93 rfl) (own_w hw 94 rfl) (own_w hw 47 rfl) (own_w hw 95 rfl) (by decide) (m_tb1 l Z a0 hw r c0 h_381 n0 z_392 O_395 hSAD hSHB hSLB f_385 hc0) d9_23 rfl pd4 rfl rfl (Nat.le_of_eq rfl) (by decide) (by decide) (by decide) (by decide) rfl ?_
    rintro _ h_400 ⟨p_401, l0, g0, rfl, K_402, A_403, q_404, t_405, e_406⟩
    have n_407 : r ≠ p_401 := Nat.ne_of_lt (Nat.lt_of_lt_of_le t_390 q_404)
    have n_408 : a_363 ≠ p_401 := Nat.ne_of_lt (Nat.lt_of_lt_of_le t_391 q_404)
    have g_409 : n0 ≤ p_401 := Nat.le_trans z_392 q_404
    have g_410 : h0.size ≤ p_401 := Nat.le_trans b_393 q_404
    have f_411 : Ary Z h_400 r .char [(.int c0)] := f_385.sm (Sm.keep K_402 nin0)
    have t_415 : r < h_400.size := Nat.lt_of_lt_of_le t_390 K_402.1
    have t_416 : a_363 < h_400.size := Nat.lt_of_lt_of_le t_391 K_402.1
    have z_417 : n0 ≤ h_400.size := Nat.le_trans z_392 K_402.1
    have b_418 : h0.size ≤ h_400.size := Nat.le_trans b_393 K_402.1
    have K_419 : Keep h0 h_400 [] := K_394.trans K_402 all0
    have O_420 : Old Z n0 h_400 := O_395.keep K_402 all0
    have f_412 := Sta.ext O_420.2 hSAD
    have f_413 := Sta.ext O_420.2 hSHB
    have f_414 := Sta.ext O_420.2 hSLB
    show Go _ _ _ _ _ _ _ _ _ _ _ _ h_400 (0 + 1 + 0 + 1) (0 + 1 + 0 + 2) 26 #[.val (.ref r), .val (.int 0), .val (.int 1), .val (.ref a_363), .val (.int 0), .unset] [(.ref p_401)]
    refine Go.astore (pc' := 28) (Ls' := #[.val (.ref r), .val (.int 0), .val (.int 1), .val (.ref a_363), .val (.int 0), .val (.ref p_401)]) d9_26 rfl rfl rfl ?_
    refine Go.aload (pc' := 30) d9_28 rfl rfl rfl ?_
    refine Go.iload (pc' := 32) d9_30 rfl rfl ?_
    refine Go.callS (pc' := 35) (argsL := [(.ref p_401), (.int 0)]) (rest := []) (W := 0) (own_w hw 109 rfl) (own_w hw 110 rfl) (own_w hw 47 rfl) (own_w hw 111 rfl) (by decide) (m_gc l Z a0 hw p_401 [.int l0, .int g0] (0 : Int32) l0 g0 0 h_400 n0 z_417 O_420 hSAD hSHB hSLB A_403 rfl (by decide) rfl rfl) d9_32 rfl pd5 rfl rfl (Nat.le_of_eq rfl) (by decide) (by decide) (by decide) (by decide) rfl ?_
    rintro _ _ ⟨y, rfl, rfl, hy⟩
    show Go _ _ _ _ _ _ _ _ _ _ _ _ h_400 (0 + 1 + 0 + 1 + 0) (0 + 1 + 0 + 2 + 0) 35 #[.val (.ref r), .val (.int 0), .val (.int 1), .val (.ref a_363), .val (.int 0), .val (.ref p_401)] [(.int y)]
    refine Go.sipush (pc' := 38) (v := (255 : Int32)) d9_35 rfl rfl ?_
    refine Go.icmp (pc1 := 54) (pc2 := 41) d9_38 (by decide) (by decide) rfl (fun (c_421 : (255 : Int) < y.toInt) => ?_) (fun (c_421 : y.toInt ≤ (255 : Int)) => ?_)
    rotate_left
    · exfalso; omega
    refine Go.aload (pc' := 56) d9_54 rfl rfl rfl ?_
    exact Go.retA d9_56 rfl rfl rfl ⟨p_401, rfl, K_419, g_410, t_405, Or.inr ⟨l0, g0, A_403, e_406⟩⟩ (by decide) (by decide)
set_option maxRecDepth 65536 in
set_option maxHeartbeats 40000000 in
theorem m_c5_2 (l : Launch) (Z : State) (a0 : Array Value) (hw : ∀ d ∈ tables_1, d.before a0 Z = true) (r o : Addr) (c0 c1 : Int32) (h0 : Heap) (n0 : Nat) (z0 : n0 ≤ h0.size) (hR : Ary Z h0 r .char [.int c0, .int c1]) (hA : Ary Z h0 o .byte [.int (0 : Int32), .int (0 : Int32)]) (hg : n0 ≤ o) (hne : r ≠ o) (hc0 : 0 ≤ c0.toInt ∧ c0.toInt < 65536) (hc1 : 0 ≤ c1.toInt ∧ c1.toInt < 65536) : Mt .n l Z (⟨"java/lang/StringUTF16", "compress", "([CI[BII)I"⟩ : MethodName) jdk_52_method_21_code 7 (some .int) ({ frames := 0, cells := 0, slots := 0, locals := 0 } : Room) n0 (fun v h => ∃ q : Int32, v = some (.int q) ∧ Keep h0 h [o] ∧ ((∃ b0 b1 : Int32, q = (2 : Int32) ∧ Ary Z h o .byte [.int b0, .int b1] ∧ b0.toInt % 256 = c0.toInt ∧ b1.toInt % 256 = c1.toInt) ∨ ((q = (0 : Int32) ∧ 255 < c0.toInt) ∨ (q = (1 : Int32) ∧ 255 < c1.toInt)))) h0 #[(.ref r), (.int 0), (.ref o), (.int 0), (.int 2)] := by
  refine Mt.go (Ls := #[.val (.ref r), .val (.int 0), .val (.ref o), .val (.int 0), .val (.int 2), .unset, .unset]) (by first | exact plainFor_of_name (by decide +kernel) | decide +kernel | (simp [plainFor]; done)) (fun m => by first | (simp [entryFrame, mkF, argsToLocals, Value.category]; done) | rfl) ?_
  show Go _ _ _ _ _ _ _ _ _ _ _ _ h0 0 0 0 #[.val (.ref r), .val (.int 0), .val (.ref o), .val (.int 0), .val (.int 2), .unset, .unset] []
  refine Go.iconst (pc' := 1) (v := (0 : Int32)) d10_0 rfl rfl ?_
  refine Go.istore (pc' := 3) (Ls' := #[.val (.ref r), .val (.int 0), .val (.ref o), .val (.int 0), .val (.int 2), .val (.int 0), .unset]) d10_1 rfl rfl ?_
  refine Go.iload (pc' := 5) d10_3 rfl rfl ?_
  refine Go.iload (pc' := 7) d10_5 rfl rfl ?_
  refine Go.icmp (pc1 := 44) (pc2 := 10) d10_7 (by decide) (by decide) rfl (fun (c_422 : (2 : Int) ≤ (0 : Int)) => ?_) (fun (c_422 : (0 : Int) < (2 : Int)) => ?_)
  · exact absurd c_422 (by decide)
  refine Go.aloadN (pc' := 11) d10_10 rfl rfl rfl ?_
  refine Go.iloadN (pc' := 12) d10_11 rfl rfl ?_
  refine Go.ldC (pc' := 13) (k := 0) (v := (.int c0)) hR rfl rfl d10_12 rfl ?_
  refine Go.istore (pc' := 15) (Ls' := #[.val (.ref r), .val (.int 0), .val (.ref o), .val (.int 0), .val (.int 2), .val (.int 0), .val (.int c0)]) d10_13 rfl rfl ?_
  refine Go.iload (pc' := 17) d10_15 rfl rfl ?_
  refine Go.sipush (pc' := 20) (v := (255 : Int32)) d10_17 rfl rfl ?_
  refine Go.icmp (pc1 := 26) (pc2 := 23) d10_20 (by decide) (by decide) rfl (fun (c_423 : c0.toInt ≤ (255 : Int)) => ?_) (fun (c_423 : (255 : Int) < c0.toInt) => ?_)
  · refine Go.aloadN (pc' := 27) d10_26 rfl rfl rfl ?_
    refine Go.iloadN (pc' := 28) d10_27 rfl rfl ?_
    refine Go.iload (pc' := 30) d10_28 rfl rfl ?_
    refine Go.i2b (pc' := 31) d10_30 rfl ?_
    generalize eb_424 : c0.toInt8.toInt32 = b_424
    have k_425 : b_424.toInt % 256 = c0.toInt ∧ -128 ≤ b_424.toInt ∧ b_424.toInt < 128 := by
      rw [← eb_424]
      have := c_i2b c0
      have := rng32 c0.toInt8.toInt32
      have := rng32 c0
      have := hc0
      omega
    have nb_424 : nar .byte b_424 = b_424 := own_nb k_425.2
    refine Go.stB (pc' := 32) (k := 0) hA rfl (by show 0 < 2; decide) d10_31 hg rfl ?_
    intro h_426 W_427 A_428
    rw [nb_424] at W_427 A_428
    have f_429 : Ary Z h_426 r .char [(.int c0), (.int c1)] := hR.sm (Sm.wr W_427 hne)
    have t_430 : r < h_426.size := Nat.lt_of_lt_of_le hR.lt (Nat.le_of_eq W_427.size.symm)
    have t_431 : o < h_426.size := Nat.lt_of_lt_of_le hA.lt (Nat.le_of_eq W_427.size.symm)
    have z_432 : n0 ≤ h_426.size := Nat.le_trans z0 (Nat.le_of_eq W_427.size.symm)
    have b_433 : h0.size ≤ h_426.size := Nat.le_trans (Nat.le_refl _) (Nat.le_of_eq W_427.size.symm)
    have K_434 : Keep h0 h_426 [o] := (Keep.refl _ _).wr W_427 (Or.inl (List.mem_of_getElem? (i := 0) rfl))
    change Ary Z h_426 o .byte [(.int b_424), (.int 0)] at A_428
    refine Go.iinc (pc' := 35) (w := (1 : Int32)) (Ls' := #[.val (.ref r), .val (.int 1), .val (.ref o), .val (.int 0), .val (.int 2), .val (.int 0), .val (.int c0)]) d10_32 rfl rfl rfl rfl ?_
    refine Go.iinc (pc' := 38) (w := (1 : Int32)) (Ls' := #[.val (.ref r), .val (.int 1), .val (.ref o), .val (.int 1), .val (.int 2), .val (.int 0), .val (.int c0)]) d10_35 rfl rfl rfl rfl ?_
    refine Go.iinc (pc' := 41) (w := (1 : Int32)) (Ls' := #[.val (.ref r), .val (.int 1), .val (.ref o), .val (.int 1), .val (.int 2), .val (.int 1), .val (.int c0)]) d10_38 rfl rfl rfl rfl ?_
    refine Go.goto (pc' := 3) d10_41 (by decide) (by decide) ?_
    refine Go.iload (pc' := 5) d10_3 rfl rfl ?_
    refine Go.iload (pc' := 7) d10_5 rfl rfl ?_
    refine Go.icmp (pc1 := 44) (pc2 := 10) d10_7 (by decide) (by decide) rfl (fun (c_435 : (2 : Int) ≤ (1 : Int)) => ?_) (fun (c_435 : (1 : Int) < (2 : Int)) => ?_)
    · exact absurd c_435 (by decide)
    refine Go.aloadN (pc' := 11) d10_10 rfl rfl rfl ?_
    refine Go.iloadN (pc' := 12) d10_11 rfl rfl ?_
    refine Go.ldC (pc' := 13) (k := 1) (v := (.int c1)) f_429 rfl rfl d10_12 rfl ?_
    refine Go.istore (pc' := 15) (Ls' := #[.val (.ref r), .val (.int 1), .val (.ref o), .val (.int 1), .val (.int 2), .val (.int 1), .val (.int c1)]) d10_13 rfl rfl ?_
    refine Go.iload (pc' := 17) d10_15 rfl rfl ?_
    refine Go.sipush (pc' := 20) (v := (255 : Int32)) d10_17 rfl rfl ?_
    refine Go.icmp (pc1 := 26) (pc2 := 23) d10_20 (by decide) (by decide) rfl (fun (c_436 : c1.toInt ≤ (255 : Int)) => ?_) (fun (c_436 : (255 : Int) < c1.toInt) => ?_)
    · refine Go.aloadN (pc' := 27) d10_26 rfl rfl rfl ?_
      refine Go.iloadN (pc' := 28) d10_27 rfl rfl ?_
      refine Go.iload (pc' := 30) d10_28 rfl rfl ?_
      refine Go.i2b (pc' := 31) d10_30 rfl ?_
      generalize eb_437 : c1.toInt8.toInt32 = b_437
      have k_438 : b_437.toInt % 256 = c1.toInt ∧ -128 ≤ b_437.toInt ∧ b_437.toInt < 128 := by
        rw [← eb_437]
        have := c_i2b c1
        have := rng32 c1.toInt8.toInt32
        have := rng32 c1
        have := hc1
        omega
      have nb_437 : nar .byte b_437 = b_437 := own_nb k_438.2
      refine Go.stB (pc' := 32) (k := 1) A_428 rfl (by show 1 < 2; decide) d10_31 hg rfl ?_
      intro h_439 W_440 A_441
      rw [nb_437] at W_440 A_441
      have f_442 : Ary Z h_439 r .char [(.int c0), (.int c1)] := f_429.sm (Sm.wr W_440 hne)
      have t_443 : r < h_439.size := Nat.lt_of_lt_of_le t_430 (Nat.le_of_eq W_440.size.symm)
      have t_444 : o < h_439.size := Nat.lt_of_lt_of_le t_431 (Nat.le_of_eq W_440.size.symm)
      have z_445 : n0 ≤ h_439.size := Nat.le_trans z_432 (Nat.le_of_eq W_440.size.symm)
      have b_446 : h0.size ≤ h_439.size := Nat.le_trans b_433 (Nat.le_of_eq W_440.size.symm)
      have K_447 : Keep h0 h_439 [o] := K_434.wr W_440 (Or.inl (List.mem_of_getElem? (i := 0) rfl))
      change Ary Z h_439 o .byte [(.int b_424), (.int b_437)] at A_441
      refine Go.iinc (pc' := 35) (w := (2 : Int32)) (Ls' := #[.val (.ref r), .val (.int 2), .val (.ref o), .val (.int 1), .val (.int 2), .val (.int 1), .val (.int c1)]) d10_32 rfl rfl rfl rfl ?_
      refine Go.iinc (pc' := 38) (w := (2 : Int32)) (Ls' := #[.val (.ref r), .val (.int 2), .val (.ref o), .val (.int 2), .val (.int 2), .val (.int 1), .val (.int c1)]) d10_35 rfl rfl rfl rfl ?_
      refine Go.iinc (pc' := 41) (w := (2 : Int32)) (Ls' := #[.val (.ref r), .val (.int 2), .val (.ref o), .val (.int 2), .val (.int 2), .val (.int 2), .val (.int c1)]) d10_38 rfl rfl rfl rfl ?_
      refine Go.goto (pc' := 3) d10_41 (by decide) (by decide) ?_
      refine Go.iload (pc' := 5) d10_3 rfl rfl ?_
      refine Go.iload (pc' := 7) d10_5 rfl rfl ?_
      refine Go.icmp (pc1 := 44) (pc2 := 10) d10_7 (by decide) (by decide) rfl (fun (c_448 : (2 : Int) ≤ (2 : Int)) => ?_) (fun (c_448 : (2 : Int) < (2 : Int)) => ?_)
      rotate_left
      · exact absurd c_448 (by decide)
      refine Go.iload (pc' := 46) d10_44 rfl rfl ?_
      exact Go.retI d10_46 rfl ⟨_, rfl, K_447, Or.inl ⟨b_424, b_437, rfl, A_441, k_425.1, k_438.1⟩⟩ (by decide) (by decide)
    · refine Go.iload (pc' := 25) d10_23 rfl rfl ?_
      exact Go.retI d10_25 rfl ⟨_, rfl, K_434, Or.inr (Or.inr (⟨rfl, by omega⟩))⟩ (by decide) (by decide)
  · refine Go.iload (pc' := 25) d10_23 rfl rfl ?_
    exact Go.retI d10_25 rfl ⟨_, rfl, (Keep.refl _ _), Or.inr (Or.inl ⟨rfl, by omega⟩)⟩ (by decide) (by decide)
set_option maxRecDepth 65536 in
set_option maxHeartbeats 40000000 in
theorem m_c3_2 (l : Launch) (Z : State) (a0 : Array Value) (hw : ∀ d ∈ tables_1, d.before a0 Z = true) (r : Addr) (c0 c1 : Int32) (h0 : Heap) (n0 : Nat) (z0 : n0 ≤ h0.size) (hO : Old Z n0 h0) (hSAD : Sta Z Z.heap "java/lang/StringUTF16" "$assertionsDisabled" "Z" (.int 1)) (hSHB : Sta Z Z.heap "java/lang/StringUTF16" "HI_BYTE_SHIFT" "I" (.int 0)) (hSLB : Sta Z Z.heap "java/lang/StringUTF16" "LO_BYTE_SHIFT" "I" (.int 8)) (hR : Ary Z h0 r .char [.int c0, .int c1]) (hc0 : 0 ≤ c0.toInt ∧ c0.toInt < 65536) (hc1 : 0 ≤ c1.toInt ∧ c1.toInt < 65536)  : Mt .n l Z (⟨"java/lang/StringUTF16", "compress", "([CII)[B"⟩ : MethodName) jdk_52_method_16_code 6 (some (.array .byte)) ({ frames := 3, cells := 2, slots := 6, locals := 40 } : Room) n0 (fun v h => ∃ o : Addr, v = some (.ref o) ∧ Keep h0 h [] ∧ h0.size ≤ o ∧ o < h.size ∧ ((∃ b0 b1 : Int32, Ary Z h o .byte [.int b0, .int b1] ∧ b0.toInt % 256 = c0.toInt ∧ b1.toInt % 256 = c1.toInt) ∨ (∃ l0 g0 l1 g1 : Int32, Ary Z h o .byte [.int l0, .int g0, .int l1, .int g1] ∧ l0.toInt % 256 + 256 * (g0.toInt % 256) = c0.toInt ∧ l1.toInt % 256 + 256 * (g1.toInt % 256) = c1.toInt))) h0 #[(.ref r), (.int 0), (.int 2)] := by
  refine Mt.go (Ls := #[.val (.ref r), .val (.int 0), .val (.int 2), .unset, .unset, .unset]) (by first | exact plainFor_of_name (by decide +kernel) | decide +kernel | (simp [plainFor]; done)) (fun m => by first | (simp [entryFrame, mkF, argsToLocals, Value.category]; done) | rfl) ?_
  show Go _ _ _ _ _ _ _ _ _ _ _ _ h0 0 0 0 #[.val (.ref r), .val (.int 0), .val (.int 2), .unset, .unset, .unset] []
  have hTAD := Sta.ext hO.2 hSAD
  have hTHB := Sta.ext hO.2 hSHB
  have hTLB := Sta.ext hO.2 hSLB
  refine Go.iloadN (pc' := 1) d9_0 rfl rfl ?_
  refine Go.newA (pc' := 3) (k := 2) (ty := .byte) (cap := 2) (own_w hw 20 rfl) rfl rfl (by decide) (by decide) d9_1 (by decide) (by decide) rfl ?_
  intro h_449 a_450 q_451 E_452 A_453
  have n_455 : r ≠ a_450 := Nat.ne_of_lt (q_451 ▸ hR.lt)
  have g_456 : n0 ≤ a_450 := q_451 ▸ z0
  have g_457 : h0.size ≤ a_450 := q_451 ▸ (Nat.le_refl _)
  have f_461 : Ary Z h_449 r .char [(.int c0), (.int c1)] := hR.sm (Sm.ext E_452)
  have t_462 : r < h_449.size := Nat.lt_of_lt_of_le hR.lt E_452.1
  have z_463 : n0 ≤ h_449.size := Nat.le_trans z0 E_452.1
  have b_464 : h0.size ≤ h_449.size := Nat.le_trans (Nat.le_refl _) E_452.1
  have K_465 : Keep h0 h_449 [] := (Keep.refl _ _).ext E_452
  have O_466 : Old Z n0 h_449 := hO.ext E_452
  have f_458 := Sta.ext O_466.2 hSAD
  have f_459 := Sta.ext O_466.2 hSHB
  have f_460 := Sta.ext O_466.2 hSLB
  have t_467 : a_450 < h_449.size := A_453.lt
  change Ary Z h_449 a_450 .byte [(.int 0), (.int 0)] at A_453
  refine Go.astoreN (pc' := 4) (Ls' := #[.val (.ref r), .val (.int 0), .val (.int 2), .val (.ref a_450), .unset, .unset]) d9_3 rfl rfl rfl ?_
  refine Go.aloadN (pc' := 5) d9_4 rfl rfl rfl ?_
  refine Go.iloadN (pc' := 6) d9_5 rfl rfl ?_
  refine Go.aloadN (pc' := 7) d9_6 rfl rfl rfl ?_
  refine Go.iconst (pc' := 8) (v := (0 : Int32)) d9_7 rfl rfl ?_
  refine Go.iloadN (pc' := 9) d9_8 rfl rfl ?_
  refine Go.callS (pc' := 12) (argsL := [(.ref r), (.int 0), (.ref a_450), (.int 0), (.int 2)]) (rest := []) (W := 0) (own_w hw 49 rfl) (own_w hw 50 rfl) (own_w hw 47 rfl) (own_w hw 51 rfl) (by decide) (m_c5_2 l Z a0 hw r a_450 c0 c1 h_449 n0 z_463 f_461 A_453 g_456 n_455 hc0 hc1) d9_9 rfl pd3 rfl rfl (Nat.le_of_eq rfl) (by decide) (by decide) (by decide) (by decide) rfl ?_
  rintro _ h_468 ⟨q_469, rfl, K_470, hq_471⟩
  have f_472 : Ary Z h_468 r .char [(.int c0), (.int c1)] := f_461.sm (Sm.keep K_470 (ninS n_455 nin0))
  have t_477 : r < h_468.size := Nat.lt_of_lt_of_le t_462 K_470.1
  have t_478 : a_450 < h_468.size := Nat.lt_of_lt_of_le t_467 K_470.1
  have z_479 : n0 ≤ h_468.size := Nat.le_trans z_463 K_470.1
  have b_480 : h0.size ≤ h_468.size := Nat.le_trans b_464 K_470.1
  have K_481 : Keep h0 h_468 [] := K_465.trans K_470 (allS (Or.inr g_457) all0)
  have O_482 : Old Z n0 h_468 := O_466.keep K_470 (allS g_456 all0)
  have f_473 := Sta.ext O_482.2 hSAD
  have f_474 := Sta.ext O_482.2 hSHB
  have f_475 := Sta.ext O_482.2 hSLB
  show Go _ _ _ _ _ _ _ _ _ _ _ _ h_468 (0 + 1 + 0) (0 + 2 + 0) 12 #[.val (.ref r), .val (.int 0), .val (.int 2), .val (.ref a_450), .unset, .unset] [(.int q_469)]
  rcases hq_471 with ⟨b0, b1, rfl, A_483, e_484, e_485⟩ | ⟨rfl, hq_471⟩ | ⟨rfl, hq_471⟩
  · show Go _ _ _ _ _ _ _ _ _ _ _ _ h_468 (0 + 1 + 0) (0 + 2 + 0) 12 #[.val (.ref r), .val (.int 0), .val (.int 2), .val (.ref a_450), .unset, .unset] [(.int 2)]
    refine Go.istore (pc' := 14) (Ls' := #[.val (.ref r), .val (.int 0), .val (.int 2), .val (.ref a_450), .val (.int 2), .unset]) d9_12 rfl rfl ?_
    refine Go.iload (pc' := 16) d9_14 rfl rfl ?_
    refine Go.iloadN (pc' := 17) d9_16 rfl rfl ?_
    refine Go.icmp (pc1 := 57) (pc2 := 20) d9_17 (by decide) (by decide) rfl (fun (c_486 : (2 : Int) = (2 : Int)) => ?_) (fun (c_486 : (2 : Int) ≠ (2 : Int)) => ?_)
    rotate_left
    · exact absurd c_486 (by decide)
    refine Go.aloadN (pc' := 58) d9_57 rfl rfl rfl ?_
    exact Go.retA d9_58 rfl rfl rfl ⟨a_450, rfl, K_481, g_457, t_478, Or.inl ⟨b0, b1, A_483, e_484, e_485⟩⟩ (by decide) (by decide)
  · show Go _ _ _ _ _ _ _ _ _ _ _ _ h_468 (0 + 1 + 0) (0 + 2 + 0) 12 #[.val (.ref r), .val (.int 0), .val (.int 2), .val (.ref a_450), .unset, .unset] [(.int 0)]
    refine Go.istore (pc' := 14) (Ls' := #[.val (.ref r), .val (.int 0), .val (.int 2), .val (.ref a_450), .val (.int 0), .unset]) d9_12 rfl rfl ?_
    refine Go.iload (pc' := 16) d9_14 rfl rfl ?_
    refine Go.iloadN (pc' := 17) d9_16 rfl rfl ?_
    refine Go.icmp (pc1 := 57) (pc2 := 20) d9_17 (by decide) (by decide) rfl (fun (c_487 : (0 : Int) = (2 : Int)) => ?_) (fun (c_487 : (0 : Int) ≠ (2 : Int)) => ?_)
    · exact absurd c_487 (by decide)
    refine Go.aloadN (pc' := 21) d9_20 rfl rfl rfl ?_
    refine Go.iloadN (pc' := 22) d9_21 rfl rfl ?_
    refine Go.iloadN (pc' := 23) d9_22 rfl rfl ?_
    refine Go.callS (pc' := 26) (argsL := [(.ref r), (.int 0), (.int 2)]) (rest := []) (W := 0) (own_w hw 93 rfl) (own_w hw 94 rfl) (own_w hw 47 rfl) (own_w hw 95 rfl) (by decide) (m_tb2 l Z a0 hw r c0 c1 h_468 n0 z_479 O_482 hSAD hSHB hSLB f_472 hc0 hc1) d9_23 rfl pd4 rfl rfl (Nat.le_of_eq rfl) (by decide) (by decide) (by decide) (by decide) rfl ?_
    rintro _ h_488 ⟨p_489, l0, g0, l1, g1, rfl, K_490, A_491, q_492, t_493, e_494, e_495⟩
    have n_496 : r ≠ p_489 := Nat.ne_of_lt (Nat.lt_of_lt_of_le t_477 q_492)
    have n_497 : a_450 ≠ p_489 := Nat.ne_of_lt (Nat.lt_of_lt_of_le t_478 q_492)
    have g_498 : n0 ≤ p_489 := Nat.le_trans z_479 q_492
    have g_499 : h0.size ≤ p_489 := Nat.le_trans b_480 q_492
    have f_500 : Ary Z h_488 r .char [(.int c0), (.int c1)] := f_472.sm (Sm.keep K_490 nin0)
    have t_504 : r < h_488.size := Nat.lt_of_lt_of_le t_477 K_490.1
    have t_505 : a_450 < h_488.size := Nat.lt_of_lt_of_le t_478 K_490.1
    have z_506 : n0 ≤ h_488.size := Nat.le_trans z_479 K_490.1
    have b_507 : h0.size ≤ h_488.size := Nat.le_trans b_480 K_490.1
    have K_508 : Keep h0 h_488 [] := K_481.trans K_490 all0
    have O_509 : Old Z n0 h_488 := O_482.keep K_490 all0
    have f_501 := Sta.ext O_509.2 hSAD
    have f_502 := Sta.ext O_509.2 hSHB
    have f_503 := Sta.ext O_509.2 hSLB
    show Go _ _ _ _ _ _ _ _ _ _ _ _ h_488 (0 + 1 + 0 + 1) (0 + 2 + 0 + 4) 26 #[.val (.ref r), .val (.int 0), .val (.int 2), .val (.ref a_450), .val (.int 0), .unset] [(.ref p_489)]
    refine Go.astore (pc' := 28) (Ls' := #[.val (.ref r), .val (.int 0), .val (.int 2), .val (.ref a_450), .val (.int 0), .val (.ref p_489)]) d9_26 rfl rfl rfl ?_
    refine Go.aload (pc' := 30) d9_28 rfl rfl rfl ?_
    refine Go.iload (pc' := 32) d9_30 rfl rfl ?_
    refine Go.callS (pc' := 35) (argsL := [(.ref p_489), (.int 0)]) (rest := []) (W := 0) (own_w hw 109 rfl) (own_w hw 110 rfl) (own_w hw 47 rfl) (own_w hw 111 rfl) (by decide) (m_gc l Z a0 hw p_489 [.int l0, .int g0, .int l1, .int g1] (0 : Int32) l0 g0 0 h_488 n0 z_506 O_509 hSAD hSHB hSLB A_491 rfl (by decide) rfl rfl) d9_32 rfl pd5 rfl rfl (Nat.le_of_eq rfl) (by decide) (by decide) (by decide) (by decide) rfl ?_
    rintro _ _ ⟨y, rfl, rfl, hy⟩
    show Go _ _ _ _ _ _ _ _ _ _ _ _ h_488 (0 + 1 + 0 + 1 + 0) (0 + 2 + 0 + 4 + 0) 35 #[.val (.ref r), .val (.int 0), .val (.int 2), .val (.ref a_450), .val (.int 0), .val (.ref p_489)] [(.int y)]
    refine Go.sipush (pc' := 38) (v := (255 : Int32)) d9_35 rfl rfl ?_
    refine Go.icmp (pc1 := 54) (pc2 := 41) d9_38 (by decide) (by decide) rfl (fun (c_510 : (255 : Int) < y.toInt) => ?_) (fun (c_510 : y.toInt ≤ (255 : Int)) => ?_)
    rotate_left
    · exfalso; omega
    refine Go.aload (pc' := 56) d9_54 rfl rfl rfl ?_
    exact Go.retA d9_56 rfl rfl rfl ⟨p_489, rfl, K_508, g_499, t_493, Or.inr ⟨l0, g0, l1, g1, A_491, e_494, e_495⟩⟩ (by decide) (by decide)
  · show Go _ _ _ _ _ _ _ _ _ _ _ _ h_468 (0 + 1 + 0) (0 + 2 + 0) 12 #[.val (.ref r), .val (.int 0), .val (.int 2), .val (.ref a_450), .unset, .unset] [(.int 1)]
    refine Go.istore (pc' := 14) (Ls' := #[.val (.ref r), .val (.int 0), .val (.int 2), .val (.ref a_450), .val (.int 1), .unset]) d9_12 rfl rfl ?_
    refine Go.iload (pc' := 16) d9_14 rfl rfl ?_
    refine Go.iloadN (pc' := 17) d9_16 rfl rfl ?_
    refine Go.icmp (pc1 := 57) (pc2 := 20) d9_17 (by decide) (by decide) rfl (fun (c_511 : (1 : Int) = (2 : Int)) => ?_) (fun (c_511 : (1 : Int) ≠ (2 : Int)) => ?_)
    · exact absurd c_511 (by decide)
    refine Go.aloadN (pc' := 21) d9_20 rfl rfl rfl ?_
    refine Go.iloadN (pc' := 22) d9_21 rfl rfl ?_
    refine Go.iloadN (pc' := 23) d9_22 rfl rfl ?_
    refine Go.callS (pc' := 26) (argsL := [(.ref r), (.int 0), (.int 2)]) (rest := []) (W := 0) (own_w hw 93 rfl) (own_w hw 94 rfl) (own_w hw 47 rfl) (own_w hw 95 rfl) (by decide) (m_tb2 l Z a0 hw r c0 c1 h_468 n0 z_479 O_482 hSAD hSHB hSLB f_472 hc0 hc1) d9_23 rfl pd4 rfl rfl (Nat.le_of_eq rfl) (by decide) (by decide) (by decide) (by decide) rfl ?_
    rintro _ h_512 ⟨p_513, l0, g0, l1, g1, rfl, K_514, A_515, q_516, t_517, e_518, e_519⟩
    have n_520 : r ≠ p_513 := Nat.ne_of_lt (Nat.lt_of_lt_of_le t_477 q_516)
    have n_521 : a_450 ≠ p_513 := Nat.ne_of_lt (Nat.lt_of_lt_of_le t_478 q_516)
    have g_522 : n0 ≤ p_513 := Nat.le_trans z_479 q_516
    have g_523 : h0.size ≤ p_513 := Nat.le_trans b_480 q_516
    have f_524 : Ary Z h_512 r .char [(.int c0), (.int c1)] := f_472.sm (Sm.keep K_514 nin0)
    have t_528 : r < h_512.size := Nat.lt_of_lt_of_le t_477 K_514.1
    have t_529 : a_450 < h_512.size := Nat.lt_of_lt_of_le t_478 K_514.1
    have z_530 : n0 ≤ h_512.size := Nat.le_trans z_479 K_514.1
    have b_531 : h0.size ≤ h_512.size := Nat.le_trans b_480 K_514.1
    have K_532 : Keep h0 h_512 [] := K_481.trans K_514 all0
    have O_533 : Old Z n0 h_512 := O_482.keep K_514 all0
    have f_525 := Sta.ext O_533.2 hSAD
    have f_526 := Sta.ext O_533.2 hSHB
    have f_527 := Sta.ext O_533.2 hSLB
    show Go _ _ _ _ _ _ _ _ _ _ _ _ h_512 (0 + 1 + 0 + 1) (0 + 2 + 0 + 4) 26 #[.val (.ref r), .val (.int 0), .val (.int 2), .val (.ref a_450), .val (.int 1), .unset] [(.ref p_513)]
    refine Go.astore (pc' := 28) (Ls' := #[.val (.ref r), .val (.int 0), .val (.int 2), .val (.ref a_450), .val (.int 1), .val (.ref p_513)]) d9_26 rfl rfl rfl ?_
    refine Go.aload (pc' := 30) d9_28 rfl rfl rfl ?_
    refine Go.iload (pc' := 32) d9_30 rfl rfl ?_
    refine Go.callS (pc' := 35) (argsL := [(.ref p_513), (.int 1)]) (rest := []) (W := 0) (own_w hw 109 rfl) (own_w hw 110 rfl) (own_w hw 47 rfl) (own_w hw 111 rfl) (by decide) (m_gc l Z a0 hw p_513 [.int l0, .int g0, .int l1, .int g1] (1 : Int32) l1 g1 1 h_512 n0 z_530 O_533 hSAD hSHB hSLB A_515 rfl (by decide) rfl rfl) d9_32 rfl pd5 rfl rfl (Nat.le_of_eq rfl) (by decide) (by decide) (by decide) (by decide) rfl ?_
    rintro _ _ ⟨y, rfl, rfl, hy⟩
    show Go _ _ _ _ _ _ _ _ _ _ _ _ h_512 (0 + 1 + 0 + 1 + 0) (0 + 2 + 0 + 4 + 0) 35 #[.val (.ref r), .val (.int 0), .val (.int 2), .val (.ref a_450), .val (.int 1), .val (.ref p_513)] [(.int y)]
    refine Go.sipush (pc' := 38) (v := (255 : Int32)) d9_35 rfl rfl ?_
    refine Go.icmp (pc1 := 54) (pc2 := 41) d9_38 (by decide) (by decide) rfl (fun (c_534 : (255 : Int) < y.toInt) => ?_) (fun (c_534 : y.toInt ≤ (255 : Int)) => ?_)
    rotate_left
    · exfalso; omega
    refine Go.aload (pc' := 56) d9_54 rfl rfl rfl ?_
    exact Go.retA d9_56 rfl rfl rfl ⟨p_513, rfl, K_532, g_523, t_517, Or.inr ⟨l0, g0, l1, g1, A_515, e_518, e_519⟩⟩ (by decide) (by decide)
set_option maxRecDepth 65536 in
set_option maxHeartbeats 40000000 in
theorem m_c5_3 (l : Launch) (Z : State) (a0 : Array Value) (hw : ∀ d ∈ tables_1, d.before a0 Z = true) (r o : Addr) (c0 c1 c2 : Int32) (h0 : Heap) (n0 : Nat) (z0 : n0 ≤ h0.size) (hR : Ary Z h0 r .char [.int c0, .int c1, .int c2]) (hA : Ary Z h0 o .byte [.int (0 : Int32), .int (0 : Int32), .int (0 : Int32)]) (hg : n0 ≤ o) (hne : r ≠ o) (hc0 : 0 ≤ c0.toInt ∧ c0.toInt < 65536) (hc1 : 0 ≤ c1.toInt ∧ c1.toInt < 65536) (hc2 : 0 ≤ c2.toInt ∧ c2.toInt < 65536) : Mt .n l Z (⟨"java/lang/StringUTF16", "compress", "([CI[BII)I"⟩ : MethodName) jdk_52_method_21_code 7 (some .int) ({ frames := 0, cells := 0, slots := 0, locals := 0 } : Room) n0 (fun v h => ∃ q : Int32, v = some (.int q) ∧ Keep h0 h [o] ∧ ((∃ b0 b1 b2 : Int32, q = (3 : Int32) ∧ Ary Z h o .byte [.int b0, .int b1, .int b2] ∧ b0.toInt % 256 = c0.toInt ∧ b1.toInt % 256 = c1.toInt ∧ b2.toInt % 256 = c2.toInt) ∨ ((q = (0 : Int32) ∧ 255 < c0.toInt) ∨ (q = (1 : Int32) ∧ 255 < c1.toInt) ∨ (q = (2 : Int32) ∧ 255 < c2.toInt)))) h0 #[(.ref r), (.int 0), (.ref o), (.int 0), (.int 3)] := by
  refine Mt.go (Ls := #[.val (.ref r), .val (.int 0), .val (.ref o), .val (.int 0), .val (.int 3), .unset, .unset]) (by first | exact plainFor_of_name (by decide +kernel) | decide +kernel | (simp [plainFor]; done)) (fun m => by first | (simp [entryFrame, mkF, argsToLocals, Value.category]; done) | rfl) ?_
  show Go _ _ _ _ _ _ _ _ _ _ _ _ h0 0 0 0 #[.val (.ref r), .val (.int 0), .val (.ref o), .val (.int 0), .val (.int 3), .unset, .unset] []
  refine Go.iconst (pc' := 1) (v := (0 : Int32)) d10_0 rfl rfl ?_
  refine Go.istore (pc' := 3) (Ls' := #[.val (.ref r), .val (.int 0), .val (.ref o), .val (.int 0), .val (.int 3), .val (.int 0), .unset]) d10_1 rfl rfl ?_
  refine Go.iload (pc' := 5) d10_3 rfl rfl ?_
  refine Go.iload (pc' := 7) d10_5 rfl rfl ?_
  refine Go.icmp (pc1 := 44) (pc2 := 10) d10_7 (by decide) (by decide) rfl (fun (c_535 : (3 : Int) ≤ (0 : Int)) => ?_) (fun (c_535 : (0 : Int) < (3 : Int)) => ?_)
  · exact absurd c_535 (by decide)
  refine Go.aloadN (pc' := 11) d10_10 rfl rfl rfl ?_
  refine Go.iloadN (pc' := 12) d10_11 rfl rfl ?_
  refine Go.ldC (pc' := 13) (k := 0) (v := (.int c0)) hR rfl rfl d10_12 rfl ?_
  refine Go.istore (pc' := 15) (Ls' := #[.val (.ref r), .val (.int 0), .val (.ref o), .val (.int 0), .val (.int 3), .val (.int 0), .val (.int c0)]) d10_13 rfl rfl ?_
  refine Go.iload (pc' := 17) d10_15 rfl rfl ?_
  refine Go.sipush (pc' := 20) (v := (255 : Int32)) d10_17 rfl rfl ?_
  refine Go.icmp (pc1 := 26) (pc2 := 23) d10_20 (by decide) (by decide) rfl (fun (c_536 : c0.toInt ≤ (255 : Int)) => ?_) (fun (c_536 : (255 : Int) < c0.toInt) => ?_)
  · refine Go.aloadN (pc' := 27) d10_26 rfl rfl rfl ?_
    refine Go.iloadN (pc' := 28) d10_27 rfl rfl ?_
    refine Go.iload (pc' := 30) d10_28 rfl rfl ?_
    refine Go.i2b (pc' := 31) d10_30 rfl ?_
    generalize eb_537 : c0.toInt8.toInt32 = b_537
    have k_538 : b_537.toInt % 256 = c0.toInt ∧ -128 ≤ b_537.toInt ∧ b_537.toInt < 128 := by
      rw [← eb_537]
      have := c_i2b c0
      have := rng32 c0.toInt8.toInt32
      have := rng32 c0
      have := hc0
      omega
    have nb_537 : nar .byte b_537 = b_537 := own_nb k_538.2
    refine Go.stB (pc' := 32) (k := 0) hA rfl (by show 0 < 3; decide) d10_31 hg rfl ?_
    intro h_539 W_540 A_541
    rw [nb_537] at W_540 A_541
    have f_542 : Ary Z h_539 r .char [(.int c0), (.int c1), (.int c2)] := hR.sm (Sm.wr W_540 hne)
    have t_543 : r < h_539.size := Nat.lt_of_lt_of_le hR.lt (Nat.le_of_eq W_540.size.symm)
    have t_544 : o < h_539.size := Nat.lt_of_lt_of_le hA.lt (Nat.le_of_eq W_540.size.symm)
    have z_545 : n0 ≤ h_539.size := Nat.le_trans z0 (Nat.le_of_eq W_540.size.symm)
    have b_546 : h0.size ≤ h_539.size := Nat.le_trans (Nat.le_refl _) (Nat.le_of_eq W_540.size.symm)
    have K_547 : Keep h0 h_539 [o] := (Keep.refl _ _).wr W_540 (Or.inl (List.mem_of_getElem? (i := 0) rfl))
    change Ary Z h_539 o .byte [(.int b_537), (.int 0), (.int 0)] at A_541
    refine Go.iinc (pc' := 35) (w := (1 : Int32)) (Ls' := #[.val (.ref r), .val (.int 1), .val (.ref o), .val (.int 0), .val (.int 3), .val (.int 0), .val (.int c0)]) d10_32 rfl rfl rfl rfl ?_
    refine Go.iinc (pc' := 38) (w := (1 : Int32)) (Ls' := #[.val (.ref r), .val (.int 1), .val (.ref o), .val (.int 1), .val (.int 3), .val (.int 0), .val (.int c0)]) d10_35 rfl rfl rfl rfl ?_
    refine Go.iinc (pc' := 41) (w := (1 : Int32)) (Ls' := #[.val (.ref r), .val (.int 1), .val (.ref o), .val (.int 1), .val (.int 3), .val (.int 1), .val (.int c0)]) d10_38 rfl rfl rfl rfl ?_
    refine Go.goto (pc' := 3) d10_41 (by decide) (by decide) ?_
    refine Go.iload (pc' := 5) d10_3 rfl rfl ?_
    refine Go.iload (pc' := 7) d10_5 rfl rfl ?_
    refine Go.icmp (pc1 := 44) (pc2 := 10) d10_7 (by decide) (by decide) rfl (fun (c_548 : (3 : Int) ≤ (1 : Int)) => ?_) (fun (c_548 : (1 : Int) < (3 : Int)) => ?_)
    · exact absurd c_548 (by decide)
    refine Go.aloadN (pc' := 11) d10_10 rfl rfl rfl ?_
    refine Go.iloadN (pc' := 12) d10_11 rfl rfl ?_
    refine Go.ldC (pc' := 13) (k := 1) (v := (.int c1)) f_542 rfl rfl d10_12 rfl ?_
    refine Go.istore (pc' := 15) (Ls' := #[.val (.ref r), .val (.int 1), .val (.ref o), .val (.int 1), .val (.int 3), .val (.int 1), .val (.int c1)]) d10_13 rfl rfl ?_
    refine Go.iload (pc' := 17) d10_15 rfl rfl ?_
    refine Go.sipush (pc' := 20) (v := (255 : Int32)) d10_17 rfl rfl ?_
    refine Go.icmp (pc1 := 26) (pc2 := 23) d10_20 (by decide) (by decide) rfl (fun (c_549 : c1.toInt ≤ (255 : Int)) => ?_) (fun (c_549 : (255 : Int) < c1.toInt) => ?_)
    · refine Go.aloadN (pc' := 27) d10_26 rfl rfl rfl ?_
      refine Go.iloadN (pc' := 28) d10_27 rfl rfl ?_
      refine Go.iload (pc' := 30) d10_28 rfl rfl ?_
      refine Go.i2b (pc' := 31) d10_30 rfl ?_
      generalize eb_550 : c1.toInt8.toInt32 = b_550
      have k_551 : b_550.toInt % 256 = c1.toInt ∧ -128 ≤ b_550.toInt ∧ b_550.toInt < 128 := by
        rw [← eb_550]
        have := c_i2b c1
        have := rng32 c1.toInt8.toInt32
        have := rng32 c1
        have := hc1
        omega
      have nb_550 : nar .byte b_550 = b_550 := own_nb k_551.2
      refine Go.stB (pc' := 32) (k := 1) A_541 rfl (by show 1 < 3; decide) d10_31 hg rfl ?_
      intro h_552 W_553 A_554
      rw [nb_550] at W_553 A_554
      have f_555 : Ary Z h_552 r .char [(.int c0), (.int c1), (.int c2)] := f_542.sm (Sm.wr W_553 hne)
      have t_556 : r < h_552.size := Nat.lt_of_lt_of_le t_543 (Nat.le_of_eq W_553.size.symm)
      have t_557 : o < h_552.size := Nat.lt_of_lt_of_le t_544 (Nat.le_of_eq W_553.size.symm)
      have z_558 : n0 ≤ h_552.size := Nat.le_trans z_545 (Nat.le_of_eq W_553.size.symm)
      have b_559 : h0.size ≤ h_552.size := Nat.le_trans b_546 (Nat.le_of_eq W_553.size.symm)
      have K_560 : Keep h0 h_552 [o] := K_547.wr W_553 (Or.inl (List.mem_of_getElem? (i := 0) rfl))
      change Ary Z h_552 o .byte [(.int b_537), (.int b_550), (.int 0)] at A_554
      refine Go.iinc (pc' := 35) (w := (2 : Int32)) (Ls' := #[.val (.ref r), .val (.int 2), .val (.ref o), .val (.int 1), .val (.int 3), .val (.int 1), .val (.int c1)]) d10_32 rfl rfl rfl rfl ?_
      refine Go.iinc (pc' := 38) (w := (2 : Int32)) (Ls' := #[.val (.ref r), .val (.int 2), .val (.ref o), .val (.int 2), .val (.int 3), .val (.int 1), .val (.int c1)]) d10_35 rfl rfl rfl rfl ?_
      refine Go.iinc (pc' := 41) (w := (2 : Int32)) (Ls' := #[.val (.ref r), .val (.int 2), .val (.ref o), .val (.int 2), .val (.int 3), .val (.int 2), .val (.int c1)]) d10_38 rfl rfl rfl rfl ?_
      refine Go.goto (pc' := 3) d10_41 (by decide) (by decide) ?_
      refine Go.iload (pc' := 5) d10_3 rfl rfl ?_
      refine Go.iload (pc' := 7) d10_5 rfl rfl ?_
      refine Go.icmp (pc1 := 44) (pc2 := 10) d10_7 (by decide) (by decide) rfl (fun (c_561 : (3 : Int) ≤ (2 : Int)) => ?_) (fun (c_561 : (2 : Int) < (3 : Int)) => ?_)
      · exact absurd c_561 (by decide)
      refine Go.aloadN (pc' := 11) d10_10 rfl rfl rfl ?_
      refine Go.iloadN (pc' := 12) d10_11 rfl rfl ?_
      refine Go.ldC (pc' := 13) (k := 2) (v := (.int c2)) f_555 rfl rfl d10_12 rfl ?_
      refine Go.istore (pc' := 15) (Ls' := #[.val (.ref r), .val (.int 2), .val (.ref o), .val (.int 2), .val (.int 3), .val (.int 2), .val (.int c2)]) d10_13 rfl rfl ?_
      refine Go.iload (pc' := 17) d10_15 rfl rfl ?_
      refine Go.sipush (pc' := 20) (v := (255 : Int32)) d10_17 rfl rfl ?_
      refine Go.icmp (pc1 := 26) (pc2 := 23) d10_20 (by decide) (by decide) rfl (fun (c_562 : c2.toInt ≤ (255 : Int)) => ?_) (fun (c_562 : (255 : Int) < c2.toInt) => ?_)
      · refine Go.aloadN (pc' := 27) d10_26 rfl rfl rfl ?_
        refine Go.iloadN (pc' := 28) d10_27 rfl rfl ?_
        refine Go.iload (pc' := 30) d10_28 rfl rfl ?_
        refine Go.i2b (pc' := 31) d10_30 rfl ?_
        generalize eb_563 : c2.toInt8.toInt32 = b_563
        have k_564 : b_563.toInt % 256 = c2.toInt ∧ -128 ≤ b_563.toInt ∧ b_563.toInt < 128 := by
          rw [← eb_563]
          have := c_i2b c2
          have := rng32 c2.toInt8.toInt32
          have := rng32 c2
          have := hc2
          omega
        have nb_563 : nar .byte b_563 = b_563 := own_nb k_564.2
        refine Go.stB (pc' := 32) (k := 2) A_554 rfl (by show 2 < 3; decide) d10_31 hg rfl ?_
        intro h_565 W_566 A_567
        rw [nb_563] at W_566 A_567
        have f_568 : Ary Z h_565 r .char [(.int c0), (.int c1), (.int c2)] := f_555.sm (Sm.wr W_566 hne)
        have t_569 : r < h_565.size := Nat.lt_of_lt_of_le t_556 (Nat.le_of_eq W_566.size.symm)
        have t_570 : o < h_565.size := Nat.lt_of_lt_of_le t_557 (Nat.le_of_eq W_566.size.symm)
        have z_571 : n0 ≤ h_565.size := Nat.le_trans z_558 (Nat.le_of_eq W_566.size.symm)
        have b_572 : h0.size ≤ h_565.size := Nat.le_trans b_559 (Nat.le_of_eq W_566.size.symm)
        have K_573 : Keep h0 h_565 [o] := K_560.wr W_566 (Or.inl (List.mem_of_getElem? (i := 0) rfl))
        change Ary Z h_565 o .byte [(.int b_537), (.int b_550), (.int b_563)] at A_567
        refine Go.iinc (pc' := 35) (w := (3 : Int32)) (Ls' := #[.val (.ref r), .val (.int 3), .val (.ref o), .val (.int 2), .val (.int 3), .val (.int 2), .val (.int c2)]) d10_32 rfl rfl rfl rfl ?_
        refine Go.iinc (pc' := 38) (w := (3 : Int32)) (Ls' := #[.val (.ref r), .val (.int 3), .val (.ref o), .val (.int 3), .val (.int 3), .val (.int 2), .val (.int c2)]) d10_35 rfl rfl rfl rfl ?_
        refine Go.iinc (pc' := 41) (w := (3 : Int32)) (Ls' := #[.val (.ref r), .val (.int 3), .val (.ref o), .val (.int 3), .val (.int 3), .val (.int 3), .val (.int c2)]) d10_38 rfl rfl rfl rfl ?_
        refine Go.goto (pc' := 3) d10_41 (by decide) (by decide) ?_
        refine Go.iload (pc' := 5) d10_3 rfl rfl ?_
        refine Go.iload (pc' := 7) d10_5 rfl rfl ?_
        refine Go.icmp (pc1 := 44) (pc2 := 10) d10_7 (by decide) (by decide) rfl (fun (c_574 : (3 : Int) ≤ (3 : Int)) => ?_) (fun (c_574 : (3 : Int) < (3 : Int)) => ?_)
        rotate_left
        · exact absurd c_574 (by decide)
        refine Go.iload (pc' := 46) d10_44 rfl rfl ?_
        exact Go.retI d10_46 rfl ⟨_, rfl, K_573, Or.inl ⟨b_537, b_550, b_563, rfl, A_567, k_538.1, k_551.1, k_564.1⟩⟩ (by decide) (by decide)
      · refine Go.iload (pc' := 25) d10_23 rfl rfl ?_
        exact Go.retI d10_25 rfl ⟨_, rfl, K_560, Or.inr (Or.inr (Or.inr (⟨rfl, by omega⟩)))⟩ (by decide) (by decide)
    · refine Go.iload (pc' := 25) d10_23 rfl rfl ?_
      exact Go.retI d10_25 rfl ⟨_, rfl, K_547, Or.inr (Or.inr (Or.inl ⟨rfl, by omega⟩))⟩ (by decide) (by decide)
  · refine Go.iload (pc' := 25) d10_23 rfl rfl ?_
    exact Go.retI d10_25 rfl ⟨_, rfl, (Keep.refl _ _), Or.inr (Or.inl ⟨rfl, by omega⟩)⟩ (by decide) (by decide)
set_option maxRecDepth 65536 in
set_option maxHeartbeats 40000000 in
theorem m_c3_3 (l : Launch) (Z : State) (a0 : Array Value) (hw : ∀ d ∈ tables_1, d.before a0 Z = true) (r : Addr) (c0 c1 c2 : Int32) (h0 : Heap) (n0 : Nat) (z0 : n0 ≤ h0.size) (hO : Old Z n0 h0) (hSAD : Sta Z Z.heap "java/lang/StringUTF16" "$assertionsDisabled" "Z" (.int 1)) (hSHB : Sta Z Z.heap "java/lang/StringUTF16" "HI_BYTE_SHIFT" "I" (.int 0)) (hSLB : Sta Z Z.heap "java/lang/StringUTF16" "LO_BYTE_SHIFT" "I" (.int 8)) (hR : Ary Z h0 r .char [.int c0, .int c1, .int c2]) (hc0 : 0 ≤ c0.toInt ∧ c0.toInt < 65536) (hc1 : 0 ≤ c1.toInt ∧ c1.toInt < 65536) (hc2 : 0 ≤ c2.toInt ∧ c2.toInt < 65536)  : Mt .n l Z (⟨"java/lang/StringUTF16", "compress", "([CII)[B"⟩ : MethodName) jdk_52_method_16_code 6 (some (.array .byte)) ({ frames := 3, cells := 2, slots := 9, locals := 40 } : Room) n0 (fun v h => ∃ o : Addr, v = some (.ref o) ∧ Keep h0 h [] ∧ h0.size ≤ o ∧ o < h.size ∧ ((∃ b0 b1 b2 : Int32, Ary Z h o .byte [.int b0, .int b1, .int b2] ∧ b0.toInt % 256 = c0.toInt ∧ b1.toInt % 256 = c1.toInt ∧ b2.toInt % 256 = c2.toInt) ∨ (∃ l0 g0 l1 g1 l2 g2 : Int32, Ary Z h o .byte [.int l0, .int g0, .int l1, .int g1, .int l2, .int g2] ∧ l0.toInt % 256 + 256 * (g0.toInt % 256) = c0.toInt ∧ l1.toInt % 256 + 256 * (g1.toInt % 256) = c1.toInt ∧ l2.toInt % 256 + 256 * (g2.toInt % 256) = c2.toInt))) h0 #[(.ref r), (.int 0), (.int 3)] := by
  refine Mt.go (Ls := #[.val (.ref r), .val (.int 0), .val (.int 3), .unset, .unset, .unset]) (by first | exact plainFor_of_name (by decide +kernel) | decide +kernel | (simp [plainFor]; done)) (fun m => by first | (simp [entryFrame, mkF, argsToLocals, Value.category]; done) | rfl) ?_
  show Go _ _ _ _ _ _ _ _ _ _ _ _ h0 0 0 0 #[.val (.ref r), .val (.int 0), .val (.int 3), .unset, .unset, .unset] []
  have hTAD := Sta.ext hO.2 hSAD
  have hTHB := Sta.ext hO.2 hSHB
  have hTLB := Sta.ext hO.2 hSLB
  refine Go.iloadN (pc' := 1) d9_0 rfl rfl ?_
  refine Go.newA (pc' := 3) (k := 3) (ty := .byte) (cap := 3) (own_w hw 20 rfl) rfl rfl (by decide) (by decide) d9_1 (by decide) (by decide) rfl ?_
  intro h_575 a_576 q_577 E_578 A_579
  have n_581 : r ≠ a_576 := Nat.ne_of_lt (q_577 ▸ hR.lt)
  have g_582 : n0 ≤ a_576 := q_577 ▸ z0
  have g_583 : h0.size ≤ a_576 := q_577 ▸ (Nat.le_refl _)
  have f_587 : Ary Z h_575 r .char [(.int c0), (.int c1), (.int c2)] := hR.sm (Sm.ext E_578)
  have t_588 : r < h_575.size := Nat.lt_of_lt_of_le hR.lt E_578.1
  have z_589 : n0 ≤ h_575.size := Nat.le_trans z0 E_578.1
  have b_590 : h0.size ≤ h_575.size := Nat.le_trans (Nat.le_refl _) E_578.1
  have K_591 : Keep h0 h_575 [] := (Keep.refl _ _).ext E_578
  have O_592 : Old Z n0 h_575 := hO.ext E_578
  have f_584 := Sta.ext O_592.2 hSAD
  have f_585 := Sta.ext O_592.2 hSHB
  have f_586 := Sta.ext O_592.2 hSLB
  have t_593 : a_576 < h_575.size := A_579.lt
  change Ary Z h_575 a_576 .byte [(.int 0), (.int 0), (.int 0)] at A_579
  refine Go.astoreN (pc' := 4) (Ls' := #[.val (.ref r), .val (.int 0), .val (.int 3), .val (.ref a_576), .unset, .unset]) d9_3 rfl rfl rfl ?_
  refine Go.aloadN (pc' := 5) d9_4 rfl rfl rfl ?_
  refine Go.iloadN (pc' := 6) d9_5 rfl rfl ?_
  refine Go.aloadN (pc' := 7) d9_6 rfl rfl rfl ?_
  refine Go.iconst (pc' := 8) (v := (0 : Int32)) d9_7 rfl rfl ?_
  refine Go.iloadN (pc' := 9) d9_8 rfl rfl ?_
  refine Go.callS (pc' := 12) (argsL := [(.ref r), (.int 0), (.ref a_576), (.int 0), (.int 3)]) (rest := []) (W := 0) (own_w hw 49 rfl) (own_w hw 50 rfl) (own_w hw 47 rfl) (own_w hw 51 rfl) (by decide) (m_c5_3 l Z a0 hw r a_576 c0 c1 c2 h_575 n0 z_589 f_587 A_579 g_582 n_581 hc0 hc1 hc2) d9_9 rfl pd3 rfl rfl (Nat.le_of_eq rfl) (by decide) (by decide) (by decide) (by decide) rfl ?_
  rintro _ h_594 ⟨q_595, rfl, K_596, hq_597⟩
  have f_598 : Ary Z h_594 r .char [(.int c0), (.int c1), (.int c2)] := f_587.sm (Sm.keep K_596 (ninS n_581 nin0))
  have t_603 : r < h_594.size := Nat.lt_of_lt_of_le t_588 K_596.1
  have t_604 : a_576 < h_594.size := Nat.lt_of_lt_of_le t_593 K_596.1
  have z_605 : n0 ≤ h_594.size := Nat.le_trans z_589 K_596.1
  have b_606 : h0.size ≤ h_594.size := Nat.le_trans b_590 K_596.1
  have K_607 : Keep h0 h_594 [] := K_591.trans K_596 (allS (Or.inr g_583) all0)
  have O_608 : Old Z n0 h_594 := O_592.keep K_596 (allS g_582 all0)
  have f_599 := Sta.ext O_608.2 hSAD
  have f_600 := Sta.ext O_608.2 hSHB
  have f_601 := Sta.ext O_608.2 hSLB
  show Go _ _ _ _ _ _ _ _ _ _ _ _ h_594 (0 + 1 + 0) (0 + 3 + 0) 12 #[.val (.ref r), .val (.int 0), .val (.int 3), .val (.ref a_576), .unset, .unset] [(.int q_595)]
  rcases hq_597 with ⟨b0, b1, b2, rfl, A_609, e_610, e_611, e_612⟩ | ⟨rfl, hq_597⟩ | ⟨rfl, hq_597⟩ | ⟨rfl, hq_597⟩
  · show Go _ _ _ _ _ _ _ _ _ _ _ _ h_594 (0 + 1 + 0) (0 + 3 + 0) 12 #[.val (.ref r), .val (.int 0), .val (.int 3), .val (.ref a_576), .unset, .unset] [(.int 3)]
    refine Go.istore (pc' := 14) (Ls' := #[.val (.ref r), .val (.int 0), .val (.int 3), .val (.ref a_576), .val (.int 3), .unset]) d9_12 rfl rfl ?_
    refine Go.iload (pc' := 16) d9_14 rfl rfl ?_
    refine Go.iloadN (pc' := 17) d9_16 rfl rfl ?_
    refine Go.icmp (pc1 := 57) (pc2 := 20) d9_17 (by decide) (by decide) rfl (fun (c_613 : (3 : Int) = (3 : Int)) => ?_) (fun (c_613 : (3 : Int) ≠ (3 : Int)) => ?_)
    rotate_left
    · exact absurd c_613 (by decide)
    refine Go.aloadN (pc' := 58) d9_57 rfl rfl rfl ?_
    exact Go.retA d9_58 rfl rfl rfl ⟨a_576, rfl, K_607, g_583, t_604, Or.inl ⟨b0, b1, b2, A_609, e_610, e_611, e_612⟩⟩ (by decide) (by decide)
  · show Go _ _ _ _ _ _ _ _ _ _ _ _ h_594 (0 + 1 + 0) (0 + 3 + 0) 12 #[.val (.ref r), .val (.int 0), .val (.int 3), .val (.ref a_576), .unset, .unset] [(.int 0)]
    refine Go.istore (pc' := 14) (Ls' := #[.val (.ref r), .val (.int 0), .val (.int 3), .val (.ref a_576), .val (.int 0), .unset]) d9_12 rfl rfl ?_
    refine Go.iload (pc' := 16) d9_14 rfl rfl ?_
    refine Go.iloadN (pc' := 17) d9_16 rfl rfl ?_
    refine Go.icmp (pc1 := 57) (pc2 := 20) d9_17 (by decide) (by decide) rfl (fun (c_614 : (0 : Int) = (3 : Int)) => ?_) (fun (c_614 : (0 : Int) ≠ (3 : Int)) => ?_)
    · exact absurd c_614 (by decide)
    refine Go.aloadN (pc' := 21) d9_20 rfl rfl rfl ?_
    refine Go.iloadN (pc' := 22) d9_21 rfl rfl ?_
    refine Go.iloadN (pc' := 23) d9_22 rfl rfl ?_
    refine Go.callS (pc' := 26) (argsL := [(.ref r), (.int 0), (.int 3)]) (rest := []) (W := 0) (own_w hw 93 rfl) (own_w hw 94 rfl) (own_w hw 47 rfl) (own_w hw 95 rfl) (by decide) (m_tb3 l Z a0 hw r c0 c1 c2 h_594 n0 z_605 O_608 hSAD hSHB hSLB f_598 hc0 hc1 hc2) d9_23 rfl pd4 rfl rfl (Nat.le_of_eq rfl) (by decide) (by decide) (by decide) (by decide) rfl ?_
    rintro _ h_615 ⟨p_616, l0, g0, l1, g1, l2, g2, rfl, K_617, A_618, q_619, t_620, e_621, e_622, e_623⟩
    have n_624 : r ≠ p_616 := Nat.ne_of_lt (Nat.lt_of_lt_of_le t_603 q_619)
    have n_625 : a_576 ≠ p_616 := Nat.ne_of_lt (Nat.lt_of_lt_of_le t_604 q_619)
    have g_626 : n0 ≤ p_616 := Nat.le_trans z_605 q_619
    have g_627 : h0.size ≤ p_616 := Nat.le_trans b_606 q_619
    have f_628 : Ary Z h_615 r .char [(.int c0), (.int c1), (.int c2)] := f_598.sm (Sm.keep K_617 nin0)
    have t_632 : r < h_615.size := Nat.lt_of_lt_of_le t_603 K_617.1
    have t_633 : a_576 < h_615.size := Nat.lt_of_lt_of_le t_604 K_617.1
    have z_634 : n0 ≤ h_615.size := Nat.le_trans z_605 K_617.1
    have b_635 : h0.size ≤ h_615.size := Nat.le_trans b_606 K_617.1
    have K_636 : Keep h0 h_615 [] := K_607.trans K_617 all0
    have O_637 : Old Z n0 h_615 := O_608.keep K_617 all0
    have f_629 := Sta.ext O_637.2 hSAD
    have f_630 := Sta.ext O_637.2 hSHB
    have f_631 := Sta.ext O_637.2 hSLB
    show Go _ _ _ _ _ _ _ _ _ _ _ _ h_615 (0 + 1 + 0 + 1) (0 + 3 + 0 + 6) 26 #[.val (.ref r), .val (.int 0), .val (.int 3), .val (.ref a_576), .val (.int 0), .unset] [(.ref p_616)]
    refine Go.astore (pc' := 28) (Ls' := #[.val (.ref r), .val (.int 0), .val (.int 3), .val (.ref a_576), .val (.int 0), .val (.ref p_616)]) d9_26 rfl rfl rfl ?_
    refine Go.aload (pc' := 30) d9_28 rfl rfl rfl ?_
    refine Go.iload (pc' := 32) d9_30 rfl rfl ?_
    refine Go.callS (pc' := 35) (argsL := [(.ref p_616), (.int 0)]) (rest := []) (W := 0) (own_w hw 109 rfl) (own_w hw 110 rfl) (own_w hw 47 rfl) (own_w hw 111 rfl) (by decide) (m_gc l Z a0 hw p_616 [.int l0, .int g0, .int l1, .int g1, .int l2, .int g2] (0 : Int32) l0 g0 0 h_615 n0 z_634 O_637 hSAD hSHB hSLB A_618 rfl (by decide) rfl rfl) d9_32 rfl pd5 rfl rfl (Nat.le_of_eq rfl) (by decide) (by decide) (by decide) (by decide) rfl ?_
    rintro _ _ ⟨y, rfl, rfl, hy⟩
    show Go _ _ _ _ _ _ _ _ _ _ _ _ h_615 (0 + 1 + 0 + 1 + 0) (0 + 3 + 0 + 6 + 0) 35 #[.val (.ref r), .val (.int 0), .val (.int 3), .val (.ref a_576), .val (.int 0), .val (.ref p_616)] [(.int y)]
    refine Go.sipush (pc' := 38) (v := (255 : Int32)) d9_35 rfl rfl ?_
    refine Go.icmp (pc1 := 54) (pc2 := 41) d9_38 (by decide) (by decide) rfl (fun (c_638 : (255 : Int) < y.toInt) => ?_) (fun (c_638 : y.toInt ≤ (255 : Int)) => ?_)
    rotate_left
    · exfalso; omega
    refine Go.aload (pc' := 56) d9_54 rfl rfl rfl ?_
    exact Go.retA d9_56 rfl rfl rfl ⟨p_616, rfl, K_636, g_627, t_620, Or.inr ⟨l0, g0, l1, g1, l2, g2, A_618, e_621, e_622, e_623⟩⟩ (by decide) (by decide)
  · show Go _ _ _ _ _ _ _ _ _ _ _ _ h_594 (0 + 1 + 0) (0 + 3 + 0) 12 #[.val (.ref r), .val (.int 0), .val (.int 3), .val (.ref a_576), .unset, .unset] [(.int 1)]
    refine Go.istore (pc' := 14) (Ls' := #[.val (.ref r), .val (.int 0), .val (.int 3), .val (.ref a_576), .val (.int 1), .unset]) d9_12 rfl rfl ?_
    refine Go.iload (pc' := 16) d9_14 rfl rfl ?_
    refine Go.iloadN (pc' := 17) d9_16 rfl rfl ?_
    refine Go.icmp (pc1 := 57) (pc2 := 20) d9_17 (by decide) (by decide) rfl (fun (c_639 : (1 : Int) = (3 : Int)) => ?_) (fun (c_639 : (1 : Int) ≠ (3 : Int)) => ?_)
    · exact absurd c_639 (by decide)
    refine Go.aloadN (pc' := 21) d9_20 rfl rfl rfl ?_
    refine Go.iloadN (pc' := 22) d9_21 rfl rfl ?_
    refine Go.iloadN (pc' := 23) d9_22 rfl rfl ?_
    refine Go.callS (pc' := 26) (argsL := [(.ref r), (.int 0), (.int 3)]) (rest := []) (W := 0) (own_w hw 93 rfl) (own_w hw 94 rfl) (own_w hw 47 rfl) (own_w hw 95 rfl) (by decide) (m_tb3 l Z a0 hw r c0 c1 c2 h_594 n0 z_605 O_608 hSAD hSHB hSLB f_598 hc0 hc1 hc2) d9_23 rfl pd4 rfl rfl (Nat.le_of_eq rfl) (by decide) (by decide) (by decide) (by decide) rfl ?_
    rintro _ h_640 ⟨p_641, l0, g0, l1, g1, l2, g2, rfl, K_642, A_643, q_644, t_645, e_646, e_647, e_648⟩
    have n_649 : r ≠ p_641 := Nat.ne_of_lt (Nat.lt_of_lt_of_le t_603 q_644)
    have n_650 : a_576 ≠ p_641 := Nat.ne_of_lt (Nat.lt_of_lt_of_le t_604 q_644)
    have g_651 : n0 ≤ p_641 := Nat.le_trans z_605 q_644
    have g_652 : h0.size ≤ p_641 := Nat.le_trans b_606 q_644
    have f_653 : Ary Z h_640 r .char [(.int c0), (.int c1), (.int c2)] := f_598.sm (Sm.keep K_642 nin0)
    have t_657 : r < h_640.size := Nat.lt_of_lt_of_le t_603 K_642.1
    have t_658 : a_576 < h_640.size := Nat.lt_of_lt_of_le t_604 K_642.1
    have z_659 : n0 ≤ h_640.size := Nat.le_trans z_605 K_642.1
    have b_660 : h0.size ≤ h_640.size := Nat.le_trans b_606 K_642.1
    have K_661 : Keep h0 h_640 [] := K_607.trans K_642 all0
    have O_662 : Old Z n0 h_640 := O_608.keep K_642 all0
    have f_654 := Sta.ext O_662.2 hSAD
    have f_655 := Sta.ext O_662.2 hSHB
    have f_656 := Sta.ext O_662.2 hSLB
    show Go _ _ _ _ _ _ _ _ _ _ _ _ h_640 (0 + 1 + 0 + 1) (0 + 3 + 0 + 6) 26 #[.val (.ref r), .val (.int 0), .val (.int 3), .val (.ref a_576), .val (.int 1), .unset] [(.ref p_641)]
    refine Go.astore (pc' := 28) (Ls' := #[.val (.ref r), .val (.int 0), .val (.int 3), .val (.ref a_576), .val (.int 1), .val (.ref p_641)]) d9_26 rfl rfl rfl ?_
    refine Go.aload (pc' := 30) d9_28 rfl rfl rfl ?_
    refine Go.iload (pc' := 32) d9_30 rfl rfl ?_
    refine Go.callS (pc' := 35) (argsL := [(.ref p_641), (.int 1)]) (rest := []) (W := 0) (own_w hw 109 rfl) (own_w hw 110 rfl) (own_w hw 47 rfl) (own_w hw 111 rfl) (by decide) (m_gc l Z a0 hw p_641 [.int l0, .int g0, .int l1, .int g1, .int l2, .int g2] (1 : Int32) l1 g1 1 h_640 n0 z_659 O_662 hSAD hSHB hSLB A_643 rfl (by decide) rfl rfl) d9_32 rfl pd5 rfl rfl (Nat.le_of_eq rfl) (by decide) (by decide) (by decide) (by decide) rfl ?_
    rintro _ _ ⟨y, rfl, rfl, hy⟩
    show Go _ _ _ _ _ _ _ _ _ _ _ _ h_640 (0 + 1 + 0 + 1 + 0) (0 + 3 + 0 + 6 + 0) 35 #[.val (.ref r), .val (.int 0), .val (.int 3), .val (.ref a_576), .val (.int 1), .val (.ref p_641)] [(.int y)]
    refine Go.sipush (pc' := 38) (v := (255 : Int32)) d9_35 rfl rfl ?_
    refine Go.icmp (pc1 := 54) (pc2 := 41) d9_38 (by decide) (by decide) rfl (fun (c_663 : (255 : Int) < y.toInt) => ?_) (fun (c_663 : y.toInt ≤ (255 : Int)) => ?_)
    rotate_left
    · exfalso; omega
    refine Go.aload (pc' := 56) d9_54 rfl rfl rfl ?_
    exact Go.retA d9_56 rfl rfl rfl ⟨p_641, rfl, K_661, g_652, t_645, Or.inr ⟨l0, g0, l1, g1, l2, g2, A_643, e_646, e_647, e_648⟩⟩ (by decide) (by decide)
  · show Go _ _ _ _ _ _ _ _ _ _ _ _ h_594 (0 + 1 + 0) (0 + 3 + 0) 12 #[.val (.ref r), .val (.int 0), .val (.int 3), .val (.ref a_576), .unset, .unset] [(.int 2)]
    refine Go.istore (pc' := 14) (Ls' := #[.val (.ref r), .val (.int 0), .val (.int 3), .val (.ref a_576), .val (.int 2), .unset]) d9_12 rfl rfl ?_
    refine Go.iload (pc' := 16) d9_14 rfl rfl ?_
    refine Go.iloadN (pc' := 17) d9_16 rfl rfl ?_
    refine Go.icmp (pc1 := 57) (pc2 := 20) d9_17 (by decide) (by decide) rfl (fun (c_664 : (2 : Int) = (3 : Int)) => ?_) (fun (c_664 : (2 : Int) ≠ (3 : Int)) => ?_)
    · exact absurd c_664 (by decide)
    refine Go.aloadN (pc' := 21) d9_20 rfl rfl rfl ?_
    refine Go.iloadN (pc' := 22) d9_21 rfl rfl ?_
    refine Go.iloadN (pc' := 23) d9_22 rfl rfl ?_
    refine Go.callS (pc' := 26) (argsL := [(.ref r), (.int 0), (.int 3)]) (rest := []) (W := 0) (own_w hw 93 rfl) (own_w hw 94 rfl) (own_w hw 47 rfl) (own_w hw 95 rfl) (by decide) (m_tb3 l Z a0 hw r c0 c1 c2 h_594 n0 z_605 O_608 hSAD hSHB hSLB f_598 hc0 hc1 hc2) d9_23 rfl pd4 rfl rfl (Nat.le_of_eq rfl) (by decide) (by decide) (by decide) (by decide) rfl ?_
    rintro _ h_665 ⟨p_666, l0, g0, l1, g1, l2, g2, rfl, K_667, A_668, q_669, t_670, e_671, e_672, e_673⟩
    have n_674 : r ≠ p_666 := Nat.ne_of_lt (Nat.lt_of_lt_of_le t_603 q_669)
    have n_675 : a_576 ≠ p_666 := Nat.ne_of_lt (Nat.lt_of_lt_of_le t_604 q_669)
    have g_676 : n0 ≤ p_666 := Nat.le_trans z_605 q_669
    have g_677 : h0.size ≤ p_666 := Nat.le_trans b_606 q_669
    have f_678 : Ary Z h_665 r .char [(.int c0), (.int c1), (.int c2)] := f_598.sm (Sm.keep K_667 nin0)
    have t_682 : r < h_665.size := Nat.lt_of_lt_of_le t_603 K_667.1
    have t_683 : a_576 < h_665.size := Nat.lt_of_lt_of_le t_604 K_667.1
    have z_684 : n0 ≤ h_665.size := Nat.le_trans z_605 K_667.1
    have b_685 : h0.size ≤ h_665.size := Nat.le_trans b_606 K_667.1
    have K_686 : Keep h0 h_665 [] := K_607.trans K_667 all0
    have O_687 : Old Z n0 h_665 := O_608.keep K_667 all0
    have f_679 := Sta.ext O_687.2 hSAD
    have f_680 := Sta.ext O_687.2 hSHB
    have f_681 := Sta.ext O_687.2 hSLB
    show Go _ _ _ _ _ _ _ _ _ _ _ _ h_665 (0 + 1 + 0 + 1) (0 + 3 + 0 + 6) 26 #[.val (.ref r), .val (.int 0), .val (.int 3), .val (.ref a_576), .val (.int 2), .unset] [(.ref p_666)]
    refine Go.astore (pc' := 28) (Ls' := #[.val (.ref r), .val (.int 0), .val (.int 3), .val (.ref a_576), .val (.int 2), .val (.ref p_666)]) d9_26 rfl rfl rfl ?_
    refine Go.aload (pc' := 30) d9_28 rfl rfl rfl ?_
    refine Go.iload (pc' := 32) d9_30 rfl rfl ?_
    refine Go.callS (pc' := 35) (argsL := [(.ref p_666), (.int 2)]) (rest := []) (W := 0) (own_w hw 109 rfl) (own_w hw 110 rfl) (own_w hw 47 rfl) (own_w hw 111 rfl) (by decide) (m_gc l Z a0 hw p_666 [.int l0, .int g0, .int l1, .int g1, .int l2, .int g2] (2 : Int32) l2 g2 2 h_665 n0 z_684 O_687 hSAD hSHB hSLB A_668 rfl (by decide) rfl rfl) d9_32 rfl pd5 rfl rfl (Nat.le_of_eq rfl) (by decide) (by decide) (by decide) (by decide) rfl ?_
    rintro _ _ ⟨y, rfl, rfl, hy⟩
    show Go _ _ _ _ _ _ _ _ _ _ _ _ h_665 (0 + 1 + 0 + 1 + 0) (0 + 3 + 0 + 6 + 0) 35 #[.val (.ref r), .val (.int 0), .val (.int 3), .val (.ref a_576), .val (.int 2), .val (.ref p_666)] [(.int y)]
    refine Go.sipush (pc' := 38) (v := (255 : Int32)) d9_35 rfl rfl ?_
    refine Go.icmp (pc1 := 54) (pc2 := 41) d9_38 (by decide) (by decide) rfl (fun (c_688 : (255 : Int) < y.toInt) => ?_) (fun (c_688 : y.toInt ≤ (255 : Int)) => ?_)
    rotate_left
    · exfalso; omega
    refine Go.aload (pc' := 56) d9_54 rfl rfl rfl ?_
    exact Go.retA d9_56 rfl rfl rfl ⟨p_666, rfl, K_686, g_677, t_670, Or.inr ⟨l0, g0, l1, g1, l2, g2, A_668, e_671, e_672, e_673⟩⟩ (by decide) (by decide)
set_option maxRecDepth 65536 in
set_option maxHeartbeats 40000000 in
theorem m_c5_4 (l : Launch) (Z : State) (a0 : Array Value) (hw : ∀ d ∈ tables_1, d.before a0 Z = true) (r o : Addr) (c0 c1 c2 c3 : Int32) (h0 : Heap) (n0 : Nat) (z0 : n0 ≤ h0.size) (hR : Ary Z h0 r .char [.int c0, .int c1, .int c2, .int c3]) (hA : Ary Z h0 o .byte [.int (0 : Int32), .int (0 : Int32), .int (0 : Int32), .int (0 : Int32)]) (hg : n0 ≤ o) (hne : r ≠ o) (hc0 : 0 ≤ c0.toInt ∧ c0.toInt < 65536) (hc1 : 0 ≤ c1.toInt ∧ c1.toInt < 65536) (hc2 : 0 ≤ c2.toInt ∧ c2.toInt < 65536) (hc3 : 0 ≤ c3.toInt ∧ c3.toInt < 65536) : Mt .n l Z (⟨"java/lang/StringUTF16", "compress", "([CI[BII)I"⟩ : MethodName) jdk_52_method_21_code 7 (some .int) ({ frames := 0, cells := 0, slots := 0, locals := 0 } : Room) n0 (fun v h => ∃ q : Int32, v = some (.int q) ∧ Keep h0 h [o] ∧ ((∃ b0 b1 b2 b3 : Int32, q = (4 : Int32) ∧ Ary Z h o .byte [.int b0, .int b1, .int b2, .int b3] ∧ b0.toInt % 256 = c0.toInt ∧ b1.toInt % 256 = c1.toInt ∧ b2.toInt % 256 = c2.toInt ∧ b3.toInt % 256 = c3.toInt) ∨ ((q = (0 : Int32) ∧ 255 < c0.toInt) ∨ (q = (1 : Int32) ∧ 255 < c1.toInt) ∨ (q = (2 : Int32) ∧ 255 < c2.toInt) ∨ (q = (3 : Int32) ∧ 255 < c3.toInt)))) h0 #[(.ref r), (.int 0), (.ref o), (.int 0), (.int 4)] := by
  refine Mt.go (Ls := #[.val (.ref r), .val (.int 0), .val (.ref o), .val (.int 0), .val (.int 4), .unset, .unset]) (by first | exact plainFor_of_name (by decide +kernel) | decide +kernel | (simp [plainFor]; done)) (fun m => by first | (simp [entryFrame, mkF, argsToLocals, Value.category]; done) | rfl) ?_
  show Go _ _ _ _ _ _ _ _ _ _ _ _ h0 0 0 0 #[.val (.ref r), .val (.int 0), .val (.ref o), .val (.int 0), .val (.int 4), .unset, .unset] []
  refine Go.iconst (pc' := 1) (v := (0 : Int32)) d10_0 rfl rfl ?_
  refine Go.istore (pc' := 3) (Ls' := #[.val (.ref r), .val (.int 0), .val (.ref o), .val (.int 0), .val (.int 4), .val (.int 0), .unset]) d10_1 rfl rfl ?_
  refine Go.iload (pc' := 5) d10_3 rfl rfl ?_
  refine Go.iload (pc' := 7) d10_5 rfl rfl ?_
  refine Go.icmp (pc1 := 44) (pc2 := 10) d10_7 (by decide) (by decide) rfl (fun (c_689 : (4 : Int) ≤ (0 : Int)) => ?_) (fun (c_689 : (0 : Int) < (4 : Int)) => ?_)
  · exact absurd c_689 (by decide)
  refine Go.aloadN (pc' := 11) d10_10 rfl rfl rfl ?_
  refine Go.iloadN (pc' := 12) d10_11 rfl rfl ?_
  refine Go.ldC (pc' := 13) (k := 0) (v := (.int c0)) hR rfl rfl d10_12 rfl ?_
  refine Go.istore (pc' := 15) (Ls' := #[.val (.ref r), .val (.int 0), .val (.ref o), .val (.int 0), .val (.int 4), .val (.int 0), .val (.int c0)]) d10_13 rfl rfl ?_
  refine Go.iload (pc' := 17) d10_15 rfl rfl ?_
  refine Go.sipush (pc' := 20) (v := (255 : Int32)) d10_17 rfl rfl ?_
  refine Go.icmp (pc1 := 26) (pc2 := 23) d10_20 (by decide) (by decide) rfl (fun (c_690 : c0.toInt ≤ (255 : Int)) => ?_) (fun (c_690 : (255 : Int) < c0.toInt) => ?_)
  · refine Go.aloadN (pc' := 27) d10_26 rfl rfl rfl ?_
    refine Go.iloadN (pc' := 28) d10_27 rfl rfl ?_
    refine Go.iload (pc' := 30) d10_28 rfl rfl ?_
    refine Go.i2b (pc' := 31) d10_30 rfl ?_
    generalize eb_691 : c0.toInt8.toInt32 = b_691
    have k_692 : b_691.toInt % 256 = c0.toInt ∧ -128 ≤ b_691.toInt ∧ b_691.toInt < 128 := by
      rw [← eb_691]
      have := c_i2b c0
      have := rng32 c0.toInt8.toInt32
      have := rng32 c0
      have := hc0
      omega
    have nb_691 : nar .byte b_691 = b_691 := own_nb k_692.2
    refine Go.stB (pc' := 32) (k := 0) hA rfl (by show 0 < 4; decide) d10_31 hg rfl ?_
    intro h_693 W_694 A_695
    rw [nb_691] at W_694 A_695
    have f_696 : Ary Z h_693 r .char [(.int c0), (.int c1), (.int c2), (.int c3)] := hR.sm (Sm.wr W_694 hne)
    have t_697 : r < h_693.size := Nat.lt_of_lt_of_le hR.lt (Nat.le_of_eq W_694.size.symm)
    have t_698 : o < h_693.size := Nat.lt_of_lt_of_le hA.lt (Nat.le_of_eq W_694.size.symm)
    have z_699 : n0 ≤ h_693.size := Nat.le_trans z0 (Nat.le_of_eq W_694.size.symm)
    have b_700 : h0.size ≤ h_693.size := Nat.le_trans (Nat.le_refl _) (Nat.le_of_eq W_694.size.symm)
    have K_701 : Keep h0 h_693 [o] := (Keep.refl _ _).wr W_694 (Or.inl (List.mem_of_getElem? (i := 0) rfl))
    change Ary Z h_693 o .byte [(.int b_691), (.int 0), (.int 0), (.int 0)] at A_695
    refine Go.iinc (pc' := 35) (w := (1 : Int32)) (Ls' := #[.val (.ref r), .val (.int 1), .val (.ref o), .val (.int 0), .val (.int 4), .val (.int 0), .val (.int c0)]) d10_32 rfl rfl rfl rfl ?_
    refine Go.iinc (pc' := 38) (w := (1 : Int32)) (Ls' := #[.val (.ref r), .val (.int 1), .val (.ref o), .val (.int 1), .val (.int 4), .val (.int 0), .val (.int c0)]) d10_35 rfl rfl rfl rfl ?_
    refine Go.iinc (pc' := 41) (w := (1 : Int32)) (Ls' := #[.val (.ref r), .val (.int 1), .val (.ref o), .val (.int 1), .val (.int 4), .val (.int 1), .val (.int c0)]) d10_38 rfl rfl rfl rfl ?_
    refine Go.goto (pc' := 3) d10_41 (by decide) (by decide) ?_
    refine Go.iload (pc' := 5) d10_3 rfl rfl ?_
    refine Go.iload (pc' := 7) d10_5 rfl rfl ?_
    refine Go.icmp (pc1 := 44) (pc2 := 10) d10_7 (by decide) (by decide) rfl (fun (c_702 : (4 : Int) ≤ (1 : Int)) => ?_) (fun (c_702 : (1 : Int) < (4 : Int)) => ?_)
    · exact absurd c_702 (by decide)
    refine Go.aloadN (pc' := 11) d10_10 rfl rfl rfl ?_
    refine Go.iloadN (pc' := 12) d10_11 rfl rfl ?_
    refine Go.ldC (pc' := 13) (k := 1) (v := (.int c1)) f_696 rfl rfl d10_12 rfl ?_
    refine Go.istore (pc' := 15) (Ls' := #[.val (.ref r), .val (.int 1), .val (.ref o), .val (.int 1), .val (.int 4), .val (.int 1), .val (.int c1)]) d10_13 rfl rfl ?_
    refine Go.iload (pc' := 17) d10_15 rfl rfl ?_
    refine Go.sipush (pc' := 20) (v := (255 : Int32)) d10_17 rfl rfl ?_
    refine Go.icmp (pc1 := 26) (pc2 := 23) d10_20 (by decide) (by decide) rfl (fun (c_703 : c1.toInt ≤ (255 : Int)) => ?_) (fun (c_703 : (255 : Int) < c1.toInt) => ?_)
    · refine Go.aloadN (pc' := 27) d10_26 rfl rfl rfl ?_
      refine Go.iloadN (pc' := 28) d10_27 rfl rfl ?_
      refine Go.iload (pc' := 30) d10_28 rfl rfl ?_
      refine Go.i2b (pc' := 31) d10_30 rfl ?_
      generalize eb_704 : c1.toInt8.toInt32 = b_704
      have k_705 : b_704.toInt % 256 = c1.toInt ∧ -128 ≤ b_704.toInt ∧ b_704.toInt < 128 := by
        rw [← eb_704]
        have := c_i2b c1
        have := rng32 c1.toInt8.toInt32
        have := rng32 c1
        have := hc1
        omega
      have nb_704 : nar .byte b_704 = b_704 := own_nb k_705.2
      refine Go.stB (pc' := 32) (k := 1) A_695 rfl (by show 1 < 4; decide) d10_31 hg rfl ?_
      intro h_706 W_707 A_708
      rw [nb_704] at W_707 A_708
      have f_709 : Ary Z h_706 r .char [(.int c0), (.int c1), (.int c2), (.int c3)] := f_696.sm (Sm.wr W_707 hne)
      have t_710 : r < h_706.size := Nat.lt_of_lt_of_le t_697 (Nat.le_of_eq W_707.size.symm)
      have t_711 : o < h_706.size := Nat.lt_of_lt_of_le t_698 (Nat.le_of_eq W_707.size.symm)
      have z_712 : n0 ≤ h_706.size := Nat.le_trans z_699 (Nat.le_of_eq W_707.size.symm)
      have b_713 : h0.size ≤ h_706.size := Nat.le_trans b_700 (Nat.le_of_eq W_707.size.symm)
      have K_714 : Keep h0 h_706 [o] := K_701.wr W_707 (Or.inl (List.mem_of_getElem? (i := 0) rfl))
      change Ary Z h_706 o .byte [(.int b_691), (.int b_704), (.int 0), (.int 0)] at A_708
      refine Go.iinc (pc' := 35) (w := (2 : Int32)) (Ls' := #[.val (.ref r), .val (.int 2), .val (.ref o), .val (.int 1), .val (.int 4), .val (.int 1), .val (.int c1)]) d10_32 rfl rfl rfl rfl ?_
      refine Go.iinc (pc' := 38) (w := (2 : Int32)) (Ls' := #[.val (.ref r), .val (.int 2), .val (.ref o), .val (.int 2), .val (.int 4), .val (.int 1), .val (.int c1)]) d10_35 rfl rfl rfl rfl ?_
      refine Go.iinc (pc' := 41) (w := (2 : Int32)) (Ls' := #[.val (.ref r), .val (.int 2), .val (.ref o), .val (.int 2), .val (.int 4), .val (.int 2), .val (.int c1)]) d10_38 rfl rfl rfl rfl ?_
      refine Go.goto (pc' := 3) d10_41 (by decide) (by decide) ?_
      refine Go.iload (pc' := 5) d10_3 rfl rfl ?_
      refine Go.iload (pc' := 7) d10_5 rfl rfl ?_
      refine Go.icmp (pc1 := 44) (pc2 := 10) d10_7 (by decide) (by decide) rfl (fun (c_715 : (4 : Int) ≤ (2 : Int)) => ?_) (fun (c_715 : (2 : Int) < (4 : Int)) => ?_)
      · exact absurd c_715 (by decide)
      refine Go.aloadN (pc' := 11) d10_10 rfl rfl rfl ?_
      refine Go.iloadN (pc' := 12) d10_11 rfl rfl ?_
      refine Go.ldC (pc' := 13) (k := 2) (v := (.int c2)) f_709 rfl rfl d10_12 rfl ?_
      refine Go.istore (pc' := 15) (Ls' := #[.val (.ref r), .val (.int 2), .val (.ref o), .val (.int 2), .val (.int 4), .val (.int 2), .val (.int c2)]) d10_13 rfl rfl ?_
      refine Go.iload (pc' := 17) d10_15 rfl rfl ?_
      refine Go.sipush (pc' := 20) (v := (255 : Int32)) d10_17 rfl rfl ?_
      refine Go.icmp (pc1 := 26) (pc2 := 23) d10_20 (by decide) (by decide) rfl (fun (c_716 : c2.toInt ≤ (255 : Int)) => ?_) (fun (c_716 : (255 : Int) < c2.toInt) => ?_)
      · refine Go.aloadN (pc' := 27) d10_26 rfl rfl rfl ?_
        refine Go.iloadN (pc' := 28) d10_27 rfl rfl ?_
        refine Go.iload (pc' := 30) d10_28 rfl rfl ?_
        refine Go.i2b (pc' := 31) d10_30 rfl ?_
        generalize eb_717 : c2.toInt8.toInt32 = b_717
        have k_718 : b_717.toInt % 256 = c2.toInt ∧ -128 ≤ b_717.toInt ∧ b_717.toInt < 128 := by
          rw [← eb_717]
          have := c_i2b c2
          have := rng32 c2.toInt8.toInt32
          have := rng32 c2
          have := hc2
          omega
        have nb_717 : nar .byte b_717 = b_717 := own_nb k_718.2
        refine Go.stB (pc' := 32) (k := 2) A_708 rfl (by show 2 < 4; decide) d10_31 hg rfl ?_
        intro h_719 W_720 A_721
        rw [nb_717] at W_720 A_721
        have f_722 : Ary Z h_719 r .char [(.int c0), (.int c1), (.int c2), (.int c3)] := f_709.sm (Sm.wr W_720 hne)
        have t_723 : r < h_719.size := Nat.lt_of_lt_of_le t_710 (Nat.le_of_eq W_720.size.symm)
        have t_724 : o < h_719.size := Nat.lt_of_lt_of_le t_711 (Nat.le_of_eq W_720.size.symm)
        have z_725 : n0 ≤ h_719.size := Nat.le_trans z_712 (Nat.le_of_eq W_720.size.symm)
        have b_726 : h0.size ≤ h_719.size := Nat.le_trans b_713 (Nat.le_of_eq W_720.size.symm)
        have K_727 : Keep h0 h_719 [o] := K_714.wr W_720 (Or.inl (List.mem_of_getElem? (i := 0) rfl))
        change Ary Z h_719 o .byte [(.int b_691), (.int b_704), (.int b_717), (.int 0)] at A_721
        refine Go.iinc (pc' := 35) (w := (3 : Int32)) (Ls' := #[.val (.ref r), .val (.int 3), .val (.ref o), .val (.int 2), .val (.int 4), .val (.int 2), .val (.int c2)]) d10_32 rfl rfl rfl rfl ?_
        refine Go.iinc (pc' := 38) (w := (3 : Int32)) (Ls' := #[.val (.ref r), .val (.int 3), .val (.ref o), .val (.int 3), .val (.int 4), .val (.int 2), .val (.int c2)]) d10_35 rfl rfl rfl rfl ?_
        refine Go.iinc (pc' := 41) (w := (3 : Int32)) (Ls' := #[.val (.ref r), .val (.int 3), .val (.ref o), .val (.int 3), .val (.int 4), .val (.int 3), .val (.int c2)]) d10_38 rfl rfl rfl rfl ?_
        refine Go.goto (pc' := 3) d10_41 (by decide) (by decide) ?_
        refine Go.iload (pc' := 5) d10_3 rfl rfl ?_
        refine Go.iload (pc' := 7) d10_5 rfl rfl ?_
        refine Go.icmp (pc1 := 44) (pc2 := 10) d10_7 (by decide) (by decide) rfl (fun (c_728 : (4 : Int) ≤ (3 : Int)) => ?_) (fun (c_728 : (3 : Int) < (4 : Int)) => ?_)
        · exact absurd c_728 (by decide)
        refine Go.aloadN (pc' := 11) d10_10 rfl rfl rfl ?_
        refine Go.iloadN (pc' := 12) d10_11 rfl rfl ?_
        refine Go.ldC (pc' := 13) (k := 3) (v := (.int c3)) f_722 rfl rfl d10_12 rfl ?_
        refine Go.istore (pc' := 15) (Ls' := #[.val (.ref r), .val (.int 3), .val (.ref o), .val (.int 3), .val (.int 4), .val (.int 3), .val (.int c3)]) d10_13 rfl rfl ?_
        refine Go.iload (pc' := 17) d10_15 rfl rfl ?_
        refine Go.sipush (pc' := 20) (v := (255 : Int32)) d10_17 rfl rfl ?_
        refine Go.icmp (pc1 := 26) (pc2 := 23) d10_20 (by decide) (by decide) rfl (fun (c_729 : c3.toInt ≤ (255 : Int)) => ?_) (fun (c_729 : (255 : Int) < c3.toInt) => ?_)
        · refine Go.aloadN (pc' := 27) d10_26 rfl rfl rfl ?_
          refine Go.iloadN (pc' := 28) d10_27 rfl rfl ?_
          refine Go.iload (pc' := 30) d10_28 rfl rfl ?_
          refine Go.i2b (pc' := 31) d10_30 rfl ?_
          generalize eb_730 : c3.toInt8.toInt32 = b_730
          have k_731 : b_730.toInt % 256 = c3.toInt ∧ -128 ≤ b_730.toInt ∧ b_730.toInt < 128 := by
            rw [← eb_730]
            have := c_i2b c3
            have := rng32 c3.toInt8.toInt32
            have := rng32 c3
            have := hc3
            omega
          have nb_730 : nar .byte b_730 = b_730 := own_nb k_731.2
          refine Go.stB (pc' := 32) (k := 3) A_721 rfl (by show 3 < 4; decide) d10_31 hg rfl ?_
          intro h_732 W_733 A_734
          rw [nb_730] at W_733 A_734
          have f_735 : Ary Z h_732 r .char [(.int c0), (.int c1), (.int c2), (.int c3)] := f_722.sm (Sm.wr W_733 hne)
          have t_736 : r < h_732.size := Nat.lt_of_lt_of_le t_723 (Nat.le_of_eq W_733.size.symm)
          have t_737 : o < h_732.size := Nat.lt_of_lt_of_le t_724 (Nat.le_of_eq W_733.size.symm)
          have z_738 : n0 ≤ h_732.size := Nat.le_trans z_725 (Nat.le_of_eq W_733.size.symm)
          have b_739 : h0.size ≤ h_732.size := Nat.le_trans b_726 (Nat.le_of_eq W_733.size.symm)
          have K_740 : Keep h0 h_732 [o] := K_727.wr W_733 (Or.inl (List.mem_of_getElem? (i := 0) rfl))
          change Ary Z h_732 o .byte [(.int b_691), (.int b_704), (.int b_717), (.int b_730)] at A_734
          refine Go.iinc (pc' := 35) (w := (4 : Int32)) (Ls' := #[.val (.ref r), .val (.int 4), .val (.ref o), .val (.int 3), .val (.int 4), .val (.int 3), .val (.int c3)]) d10_32 rfl rfl rfl rfl ?_
          refine Go.iinc (pc' := 38) (w := (4 : Int32)) (Ls' := #[.val (.ref r), .val (.int 4), .val (.ref o), .val (.int 4), .val (.int 4), .val (.int 3), .val (.int c3)]) d10_35 rfl rfl rfl rfl ?_
          refine Go.iinc (pc' := 41) (w := (4 : Int32)) (Ls' := #[.val (.ref r), .val (.int 4), .val (.ref o), .val (.int 4), .val (.int 4), .val (.int 4), .val (.int c3)]) d10_38 rfl rfl rfl rfl ?_
          refine Go.goto (pc' := 3) d10_41 (by decide) (by decide) ?_
          refine Go.iload (pc' := 5) d10_3 rfl rfl ?_
          refine Go.iload (pc' := 7) d10_5 rfl rfl ?_
          refine Go.icmp (pc1 := 44) (pc2 := 10) d10_7 (by decide) (by decide) rfl (fun (c_741 : (4 : Int) ≤ (4 : Int)) => ?_) (fun (c_741 : (4 : Int) < (4 : Int)) => ?_)
          rotate_left
          · exact absurd c_741 (by decide)
          refine Go.iload (pc' := 46) d10_44 rfl rfl ?_
          exact Go.retI d10_46 rfl ⟨_, rfl, K_740, Or.inl ⟨b_691, b_704, b_717, b_730, rfl, A_734, k_692.1, k_705.1, k_718.1, k_731.1⟩⟩ (by decide) (by decide)
        · refine Go.iload (pc' := 25) d10_23 rfl rfl ?_
          exact Go.retI d10_25 rfl ⟨_, rfl, K_727, Or.inr (Or.inr (Or.inr (Or.inr (⟨rfl, by omega⟩))))⟩ (by decide) (by decide)
      · refine Go.iload (pc' := 25) d10_23 rfl rfl ?_
        exact Go.retI d10_25 rfl ⟨_, rfl, K_714, Or.inr (Or.inr (Or.inr (Or.inl ⟨rfl, by omega⟩)))⟩ (by decide) (by decide)
    · refine Go.iload (pc' := 25) d10_23 rfl rfl ?_
      exact Go.retI d10_25 rfl ⟨_, rfl, K_701, Or.inr (Or.inr (Or.inl ⟨rfl, by omega⟩))⟩ (by decide) (by decide)
  · refine Go.iload (pc' := 25) d10_23 rfl rfl ?_
    exact Go.retI d10_25 rfl ⟨_, rfl, (Keep.refl _ _), Or.inr (Or.inl ⟨rfl, by omega⟩)⟩ (by decide) (by decide)
set_option maxRecDepth 65536 in
set_option maxHeartbeats 40000000 in
theorem m_c3_4 (l : Launch) (Z : State) (a0 : Array Value) (hw : ∀ d ∈ tables_1, d.before a0 Z = true) (r : Addr) (c0 c1 c2 c3 : Int32) (h0 : Heap) (n0 : Nat) (z0 : n0 ≤ h0.size) (hO : Old Z n0 h0) (hSAD : Sta Z Z.heap "java/lang/StringUTF16" "$assertionsDisabled" "Z" (.int 1)) (hSHB : Sta Z Z.heap "java/lang/StringUTF16" "HI_BYTE_SHIFT" "I" (.int 0)) (hSLB : Sta Z Z.heap "java/lang/StringUTF16" "LO_BYTE_SHIFT" "I" (.int 8)) (hR : Ary Z h0 r .char [.int c0, .int c1, .int c2, .int c3]) (hc0 : 0 ≤ c0.toInt ∧ c0.toInt < 65536) (hc1 : 0 ≤ c1.toInt ∧ c1.toInt < 65536) (hc2 : 0 ≤ c2.toInt ∧ c2.toInt < 65536) (hc3 : 0 ≤ c3.toInt ∧ c3.toInt < 65536)  : Mt .n l Z (⟨"java/lang/StringUTF16", "compress", "([CII)[B"⟩ : MethodName) jdk_52_method_16_code 6 (some (.array .byte)) ({ frames := 3, cells := 2, slots := 12, locals := 40 } : Room) n0 (fun v h => ∃ o : Addr, v = some (.ref o) ∧ Keep h0 h [] ∧ h0.size ≤ o ∧ o < h.size ∧ ((∃ b0 b1 b2 b3 : Int32, Ary Z h o .byte [.int b0, .int b1, .int b2, .int b3] ∧ b0.toInt % 256 = c0.toInt ∧ b1.toInt % 256 = c1.toInt ∧ b2.toInt % 256 = c2.toInt ∧ b3.toInt % 256 = c3.toInt) ∨ (∃ l0 g0 l1 g1 l2 g2 l3 g3 : Int32, Ary Z h o .byte [.int l0, .int g0, .int l1, .int g1, .int l2, .int g2, .int l3, .int g3] ∧ l0.toInt % 256 + 256 * (g0.toInt % 256) = c0.toInt ∧ l1.toInt % 256 + 256 * (g1.toInt % 256) = c1.toInt ∧ l2.toInt % 256 + 256 * (g2.toInt % 256) = c2.toInt ∧ l3.toInt % 256 + 256 * (g3.toInt % 256) = c3.toInt))) h0 #[(.ref r), (.int 0), (.int 4)] := by
  refine Mt.go (Ls := #[.val (.ref r), .val (.int 0), .val (.int 4), .unset, .unset, .unset]) (by first | exact plainFor_of_name (by decide +kernel) | decide +kernel | (simp [plainFor]; done)) (fun m => by first | (simp [entryFrame, mkF, argsToLocals, Value.category]; done) | rfl) ?_
  show Go _ _ _ _ _ _ _ _ _ _ _ _ h0 0 0 0 #[.val (.ref r), .val (.int 0), .val (.int 4), .unset, .unset, .unset] []
  have hTAD := Sta.ext hO.2 hSAD
  have hTHB := Sta.ext hO.2 hSHB
  have hTLB := Sta.ext hO.2 hSLB
  refine Go.iloadN (pc' := 1) d9_0 rfl rfl ?_
  refine Go.newA (pc' := 3) (k := 4) (ty := .byte) (cap := 4) (own_w hw 20 rfl) rfl rfl (by decide) (by decide) d9_1 (by decide) (by decide) rfl ?_
  intro h_742 a_743 q_744 E_745 A_746
  have n_748 : r ≠ a_743 := Nat.ne_of_lt (q_744 ▸ hR.lt)
  have g_749 : n0 ≤ a_743 := q_744 ▸ z0
  have g_750 : h0.size ≤ a_743 := q_744 ▸ (Nat.le_refl _)
  have f_754 : Ary Z h_742 r .char [(.int c0), (.int c1), (.int c2), (.int c3)] := hR.sm (Sm.ext E_745)
  have t_755 : r < h_742.size := Nat.lt_of_lt_of_le hR.lt E_745.1
  have z_756 : n0 ≤ h_742.size := Nat.le_trans z0 E_745.1
  have b_757 : h0.size ≤ h_742.size := Nat.le_trans (Nat.le_refl _) E_745.1
  have K_758 : Keep h0 h_742 [] := (Keep.refl _ _).ext E_745
  have O_759 : Old Z n0 h_742 := hO.ext E_745
  have f_751 := Sta.ext O_759.2 hSAD
  have f_752 := Sta.ext O_759.2 hSHB
  have f_753 := Sta.ext O_759.2 hSLB
  have t_760 : a_743 < h_742.size := A_746.lt
  change Ary Z h_742 a_743 .byte [(.int 0), (.int 0), (.int 0), (.int 0)] at A_746
  refine Go.astoreN (pc' := 4) (Ls' := #[.val (.ref r), .val (.int 0), .val (.int 4), .val (.ref a_743), .unset, .unset]) d9_3 rfl rfl rfl ?_
  refine Go.aloadN (pc' := 5) d9_4 rfl rfl rfl ?_
  refine Go.iloadN (pc' := 6) d9_5 rfl rfl ?_
  refine Go.aloadN (pc' := 7) d9_6 rfl rfl rfl ?_
  refine Go.iconst (pc' := 8) (v := (0 : Int32)) d9_7 rfl rfl ?_
  refine Go.iloadN (pc' := 9) d9_8 rfl rfl ?_
  refine Go.callS (pc' := 12) (argsL := [(.ref r), (.int 0), (.ref a_743), (.int 0), (.int 4)]) (rest := []) (W := 0) (own_w hw 49 rfl) (own_w hw 50 rfl) (own_w hw 47 rfl) (own_w hw 51 rfl) (by decide) (m_c5_4 l Z a0 hw r a_743 c0 c1 c2 c3 h_742 n0 z_756 f_754 A_746 g_749 n_748 hc0 hc1 hc2 hc3) d9_9 rfl pd3 rfl rfl (Nat.le_of_eq rfl) (by decide) (by decide) (by decide) (by decide) rfl ?_
  rintro _ h_761 ⟨q_762, rfl, K_763, hq_764⟩
  have f_765 : Ary Z h_761 r .char [(.int c0), (.int c1), (.int c2), (.int c3)] := f_754.sm (Sm.keep K_763 (ninS n_748 nin0))
  have t_770 : r < h_761.size := Nat.lt_of_lt_of_le t_755 K_763.1
  have t_771 : a_743 < h_761.size := Nat.lt_of_lt_of_le t_760 K_763.1
  have z_772 : n0 ≤ h_761.size := Nat.le_trans z_756 K_763.1
  have b_773 : h0.size ≤ h_761.size := Nat.le_trans b_757 K_763.1
  have K_774 : Keep h0 h_761 [] := K_758.trans K_763 (allS (Or.inr g_750) all0)
  have O_775 : Old Z n0 h_761 := O_759.keep K_763 (allS g_749 all0)
  have f_766 := Sta.ext O_775.2 hSAD
  have f_767 := Sta.ext O_775.2 hSHB
  have f_768 := Sta.ext O_775.2 hSLB
  show Go _ _ _ _ _ _ _ _ _ _ _ _ h_761 (0 + 1 + 0) (0 + 4 + 0) 12 #[.val (.ref r), .val (.int 0), .val (.int 4), .val (.ref a_743), .unset, .unset] [(.int q_762)]
  rcases hq_764 with ⟨b0, b1, b2, b3, rfl, A_776, e_777, e_778, e_779, e_780⟩ | ⟨rfl, hq_764⟩ | ⟨rfl, hq_764⟩ | ⟨rfl, hq_764⟩ | ⟨rfl, hq_764⟩
  · show Go _ _ _ _ _ _ _ _ _ _ _ _ h_761 (0 + 1 + 0) (0 + 4 + 0) 12 #[.val (.ref r), .val (.int 0), .val (.int 4), .val (.ref a_743), .unset, .unset] [(.int 4)]
    refine Go.istore (pc' := 14) (Ls' := #[.val (.ref r), .val (.int 0), .val (.int 4), .val (.ref a_743), .val (.int 4), .unset]) d9_12 rfl rfl ?_
    refine Go.iload (pc' := 16) d9_14 rfl rfl ?_
    refine Go.iloadN (pc' := 17) d9_16 rfl rfl ?_
    refine Go.icmp (pc1 := 57) (pc2 := 20) d9_17 (by decide) (by decide) rfl (fun (c_781 : (4 : Int) = (4 : Int)) => ?_) (fun (c_781 : (4 : Int) ≠ (4 : Int)) => ?_)
    rotate_left
    · exact absurd c_781 (by decide)
    refine Go.aloadN (pc' := 58) d9_57 rfl rfl rfl ?_
    exact Go.retA d9_58 rfl rfl rfl ⟨a_743, rfl, K_774, g_750, t_771, Or.inl ⟨b0, b1, b2, b3, A_776, e_777, e_778, e_779, e_780⟩⟩ (by decide) (by decide)
  · show Go _ _ _ _ _ _ _ _ _ _ _ _ h_761 (0 + 1 + 0) (0 + 4 + 0) 12 #[.val (.ref r), .val (.int 0), .val (.int 4), .val (.ref a_743), .unset, .unset] [(.int 0)]
    refine Go.istore (pc' := 14) (Ls' := #[.val (.ref r), .val (.int 0), .val (.int 4), .val (.ref a_743), .val (.int 0), .unset]) d9_12 rfl rfl ?_
    refine Go.iload (pc' := 16) d9_14 rfl rfl ?_
    refine Go.iloadN (pc' := 17) d9_16 rfl rfl ?_
    refine Go.icmp (pc1 := 57) (pc2 := 20) d9_17 (by decide) (by decide) rfl (fun (c_782 : (0 : Int) = (4 : Int)) => ?_) (fun (c_782 : (0 : Int) ≠ (4 : Int)) => ?_)
    · exact absurd c_782 (by decide)
    refine Go.aloadN (pc' := 21) d9_20 rfl rfl rfl ?_
    refine Go.iloadN (pc' := 22) d9_21 rfl rfl ?_
    refine Go.iloadN (pc' := 23) d9_22 rfl rfl ?_
    refine Go.callS (pc' := 26) (argsL := [(.ref r), (.int 0), (.int 4)]) (rest := []) (W := 0) (own_w hw 93 rfl) (own_w hw 94 rfl) (own_w hw 47 rfl) (own_w hw 95 rfl) (by decide) (m_tb4 l Z a0 hw r c0 c1 c2 c3 h_761 n0 z_772 O_775 hSAD hSHB hSLB f_765 hc0 hc1 hc2 hc3) d9_23 rfl pd4 rfl rfl (Nat.le_of_eq rfl) (by decide) (by decide) (by decide) (by decide) rfl ?_
    rintro _ h_783 ⟨p_784, l0, g0, l1, g1, l2, g2, l3, g3, rfl, K_785, A_786, q_787, t_788, e_789, e_790, e_791, e_792⟩
    have n_793 : r ≠ p_784 := Nat.ne_of_lt (Nat.lt_of_lt_of_le t_770 q_787)
    have n_794 : a_743 ≠ p_784 := Nat.ne_of_lt (Nat.lt_of_lt_of_le t_771 q_787)
    have g_795 : n0 ≤ p_784 := Nat.le_trans z_772 q_787
    have g_796 : h0.size ≤ p_784 := Nat.le_trans b_773 q_787
    have f_797 : Ary Z h_783 r .char [(.int c0), (.int c1), (.int c2), (.int c3)] := f_765.sm (Sm.keep K_785 nin0)
    have t_801 : r < h_783.size := Nat.lt_of_lt_of_le t_770 K_785.1
    have t_802 : a_743 < h_783.size := Nat.lt_of_lt_of_le t_771 K_785.1
    have z_803 : n0 ≤ h_783.size := Nat.le_trans z_772 K_785.1
    have b_804 : h0.size ≤ h_783.size := Nat.le_trans b_773 K_785.1
    have K_805 : Keep h0 h_783 [] := K_774.trans K_785 all0
    have O_806 : Old Z n0 h_783 := O_775.keep K_785 all0
    have f_798 := Sta.ext O_806.2 hSAD
    have f_799 := Sta.ext O_806.2 hSHB
    have f_800 := Sta.ext O_806.2 hSLB
    show Go _ _ _ _ _ _ _ _ _ _ _ _ h_783 (0 + 1 + 0 + 1) (0 + 4 + 0 + 8) 26 #[.val (.ref r), .val (.int 0), .val (.int 4), .val (.ref a_743), .val (.int 0), .unset] [(.ref p_784)]
    refine Go.astore (pc' := 28) (Ls' := #[.val (.ref r), .val (.int 0), .val (.int 4), .val (.ref a_743), .val (.int 0), .val (.ref p_784)]) d9_26 rfl rfl rfl ?_
    refine Go.aload (pc' := 30) d9_28 rfl rfl rfl ?_
    refine Go.iload (pc' := 32) d9_30 rfl rfl ?_
    refine Go.callS (pc' := 35) (argsL := [(.ref p_784), (.int 0)]) (rest := []) (W := 0) (own_w hw 109 rfl) (own_w hw 110 rfl) (own_w hw 47 rfl) (own_w hw 111 rfl) (by decide) (m_gc l Z a0 hw p_784 [.int l0, .int g0, .int l1, .int g1, .int l2, .int g2, .int l3, .int g3] (0 : Int32) l0 g0 0 h_783 n0 z_803 O_806 hSAD hSHB hSLB A_786 rfl (by decide) rfl rfl) d9_32 rfl pd5 rfl rfl (Nat.le_of_eq rfl) (by decide) (by decide) (by decide) (by decide) rfl ?_
    rintro _ _ ⟨y, rfl, rfl, hy⟩
    show Go _ _ _ _ _ _ _ _ _ _ _ _ h_783 (0 + 1 + 0 + 1 + 0) (0 + 4 + 0 + 8 + 0) 35 #[.val (.ref r), .val (.int 0), .val (.int 4), .val (.ref a_743), .val (.int 0), .val (.ref p_784)] [(.int y)]
    refine Go.sipush (pc' := 38) (v := (255 : Int32)) d9_35 rfl rfl ?_
    refine Go.icmp (pc1 := 54) (pc2 := 41) d9_38 (by decide) (by decide) rfl (fun (c_807 : (255 : Int) < y.toInt) => ?_) (fun (c_807 : y.toInt ≤ (255 : Int)) => ?_)
    rotate_left
    · exfalso; omega
    refine Go.aload (pc' := 56) d9_54 rfl rfl rfl ?_
    exact Go.retA d9_56 rfl rfl rfl ⟨p_784, rfl, K_805, g_796, t_788, Or.inr ⟨l0, g0, l1, g1, l2, g2, l3, g3, A_786, e_789, e_790, e_791, e_792⟩⟩ (by decide) (by decide)
  · show Go _ _ _ _ _ _ _ _ _ _ _ _ h_761 (0 + 1 + 0) (0 + 4 + 0) 12 #[.val (.ref r), .val (.int 0), .val (.int 4), .val (.ref a_743), .unset, .unset] [(.int 1)]
    refine Go.istore (pc' := 14) (Ls' := #[.val (.ref r), .val (.int 0), .val (.int 4), .val (.ref a_743), .val (.int 1), .unset]) d9_12 rfl rfl ?_
    refine Go.iload (pc' := 16) d9_14 rfl rfl ?_
    refine Go.iloadN (pc' := 17) d9_16 rfl rfl ?_
    refine Go.icmp (pc1 := 57) (pc2 := 20) d9_17 (by decide) (by decide) rfl (fun (c_808 : (1 : Int) = (4 : Int)) => ?_) (fun (c_808 : (1 : Int) ≠ (4 : Int)) => ?_)
    · exact absurd c_808 (by decide)
    refine Go.aloadN (pc' := 21) d9_20 rfl rfl rfl ?_
    refine Go.iloadN (pc' := 22) d9_21 rfl rfl ?_
    refine Go.iloadN (pc' := 23) d9_22 rfl rfl ?_
    refine Go.callS (pc' := 26) (argsL := [(.ref r), (.int 0), (.int 4)]) (rest := []) (W := 0) (own_w hw 93 rfl) (own_w hw 94 rfl) (own_w hw 47 rfl) (own_w hw 95 rfl) (by decide) (m_tb4 l Z a0 hw r c0 c1 c2 c3 h_761 n0 z_772 O_775 hSAD hSHB hSLB f_765 hc0 hc1 hc2 hc3) d9_23 rfl pd4 rfl rfl (Nat.le_of_eq rfl) (by decide) (by decide) (by decide) (by decide) rfl ?_
    rintro _ h_809 ⟨p_810, l0, g0, l1, g1, l2, g2, l3, g3, rfl, K_811, A_812, q_813, t_814, e_815, e_816, e_817, e_818⟩
    have n_819 : r ≠ p_810 := Nat.ne_of_lt (Nat.lt_of_lt_of_le t_770 q_813)
    have n_820 : a_743 ≠ p_810 := Nat.ne_of_lt (Nat.lt_of_lt_of_le t_771 q_813)
    have g_821 : n0 ≤ p_810 := Nat.le_trans z_772 q_813
    have g_822 : h0.size ≤ p_810 := Nat.le_trans b_773 q_813
    have f_823 : Ary Z h_809 r .char [(.int c0), (.int c1), (.int c2), (.int c3)] := f_765.sm (Sm.keep K_811 nin0)
    have t_827 : r < h_809.size := Nat.lt_of_lt_of_le t_770 K_811.1
    have t_828 : a_743 < h_809.size := Nat.lt_of_lt_of_le t_771 K_811.1
    have z_829 : n0 ≤ h_809.size := Nat.le_trans z_772 K_811.1
    have b_830 : h0.size ≤ h_809.size := Nat.le_trans b_773 K_811.1
    have K_831 : Keep h0 h_809 [] := K_774.trans K_811 all0
    have O_832 : Old Z n0 h_809 := O_775.keep K_811 all0
    have f_824 := Sta.ext O_832.2 hSAD
    have f_825 := Sta.ext O_832.2 hSHB
    have f_826 := Sta.ext O_832.2 hSLB
    show Go _ _ _ _ _ _ _ _ _ _ _ _ h_809 (0 + 1 + 0 + 1) (0 + 4 + 0 + 8) 26 #[.val (.ref r), .val (.int 0), .val (.int 4), .val (.ref a_743), .val (.int 1), .unset] [(.ref p_810)]
    refine Go.astore (pc' := 28) (Ls' := #[.val (.ref r), .val (.int 0), .val (.int 4), .val (.ref a_743), .val (.int 1), .val (.ref p_810)]) d9_26 rfl rfl rfl ?_
    refine Go.aload (pc' := 30) d9_28 rfl rfl rfl ?_
    refine Go.iload (pc' := 32) d9_30 rfl rfl ?_
    refine Go.callS (pc' := 35) (argsL := [(.ref p_810), (.int 1)]) (rest := []) (W := 0) (own_w hw 109 rfl) (own_w hw 110 rfl) (own_w hw 47 rfl) (own_w hw 111 rfl) (by decide) (m_gc l Z a0 hw p_810 [.int l0, .int g0, .int l1, .int g1, .int l2, .int g2, .int l3, .int g3] (1 : Int32) l1 g1 1 h_809 n0 z_829 O_832 hSAD hSHB hSLB A_812 rfl (by decide) rfl rfl) d9_32 rfl pd5 rfl rfl (Nat.le_of_eq rfl) (by decide) (by decide) (by decide) (by decide) rfl ?_
    rintro _ _ ⟨y, rfl, rfl, hy⟩
    show Go _ _ _ _ _ _ _ _ _ _ _ _ h_809 (0 + 1 + 0 + 1 + 0) (0 + 4 + 0 + 8 + 0) 35 #[.val (.ref r), .val (.int 0), .val (.int 4), .val (.ref a_743), .val (.int 1), .val (.ref p_810)] [(.int y)]
    refine Go.sipush (pc' := 38) (v := (255 : Int32)) d9_35 rfl rfl ?_
    refine Go.icmp (pc1 := 54) (pc2 := 41) d9_38 (by decide) (by decide) rfl (fun (c_833 : (255 : Int) < y.toInt) => ?_) (fun (c_833 : y.toInt ≤ (255 : Int)) => ?_)
    rotate_left
    · exfalso; omega
    refine Go.aload (pc' := 56) d9_54 rfl rfl rfl ?_
    exact Go.retA d9_56 rfl rfl rfl ⟨p_810, rfl, K_831, g_822, t_814, Or.inr ⟨l0, g0, l1, g1, l2, g2, l3, g3, A_812, e_815, e_816, e_817, e_818⟩⟩ (by decide) (by decide)
  · show Go _ _ _ _ _ _ _ _ _ _ _ _ h_761 (0 + 1 + 0) (0 + 4 + 0) 12 #[.val (.ref r), .val (.int 0), .val (.int 4), .val (.ref a_743), .unset, .unset] [(.int 2)]
    refine Go.istore (pc' := 14) (Ls' := #[.val (.ref r), .val (.int 0), .val (.int 4), .val (.ref a_743), .val (.int 2), .unset]) d9_12 rfl rfl ?_
    refine Go.iload (pc' := 16) d9_14 rfl rfl ?_
    refine Go.iloadN (pc' := 17) d9_16 rfl rfl ?_
    refine Go.icmp (pc1 := 57) (pc2 := 20) d9_17 (by decide) (by decide) rfl (fun (c_834 : (2 : Int) = (4 : Int)) => ?_) (fun (c_834 : (2 : Int) ≠ (4 : Int)) => ?_)
    · exact absurd c_834 (by decide)
    refine Go.aloadN (pc' := 21) d9_20 rfl rfl rfl ?_
    refine Go.iloadN (pc' := 22) d9_21 rfl rfl ?_
    refine Go.iloadN (pc' := 23) d9_22 rfl rfl ?_
    refine Go.callS (pc' := 26) (argsL := [(.ref r), (.int 0), (.int 4)]) (rest := []) (W := 0) (own_w hw 93 rfl) (own_w hw 94 rfl) (own_w hw 47 rfl) (own_w hw 95 rfl) (by decide) (m_tb4 l Z a0 hw r c0 c1 c2 c3 h_761 n0 z_772 O_775 hSAD hSHB hSLB f_765 hc0 hc1 hc2 hc3) d9_23 rfl pd4 rfl rfl (Nat.le_of_eq rfl) (by decide) (by decide) (by decide) (by decide) rfl ?_
    rintro _ h_835 ⟨p_836, l0, g0, l1, g1, l2, g2, l3, g3, rfl, K_837, A_838, q_839, t_840, e_841, e_842, e_843, e_844⟩
    have n_845 : r ≠ p_836 := Nat.ne_of_lt (Nat.lt_of_lt_of_le t_770 q_839)
    have n_846 : a_743 ≠ p_836 := Nat.ne_of_lt (Nat.lt_of_lt_of_le t_771 q_839)
    have g_847 : n0 ≤ p_836 := Nat.le_trans z_772 q_839
    have g_848 : h0.size ≤ p_836 := Nat.le_trans b_773 q_839
    have f_849 : Ary Z h_835 r .char [(.int c0), (.int c1), (.int c2), (.int c3)] := f_765.sm (Sm.keep K_837 nin0)
    have t_853 : r < h_835.size := Nat.lt_of_lt_of_le t_770 K_837.1
    have t_854 : a_743 < h_835.size := Nat.lt_of_lt_of_le t_771 K_837.1
    have z_855 : n0 ≤ h_835.size := Nat.le_trans z_772 K_837.1
    have b_856 : h0.size ≤ h_835.size := Nat.le_trans b_773 K_837.1
    have K_857 : Keep h0 h_835 [] := K_774.trans K_837 all0
    have O_858 : Old Z n0 h_835 := O_775.keep K_837 all0
    have f_850 := Sta.ext O_858.2 hSAD
    have f_851 := Sta.ext O_858.2 hSHB
    have f_852 := Sta.ext O_858.2 hSLB
    show Go _ _ _ _ _ _ _ _ _ _ _ _ h_835 (0 + 1 + 0 + 1) (0 + 4 + 0 + 8) 26 #[.val (.ref r), .val (.int 0), .val (.int 4), .val (.ref a_743), .val (.int 2), .unset] [(.ref p_836)]
    refine Go.astore (pc' := 28) (Ls' := #[.val (.ref r), .val (.int 0), .val (.int 4), .val (.ref a_743), .val (.int 2), .val (.ref p_836)]) d9_26 rfl rfl rfl ?_
    refine Go.aload (pc' := 30) d9_28 rfl rfl rfl ?_
    refine Go.iload (pc' := 32) d9_30 rfl rfl ?_
    refine Go.callS (pc' := 35) (argsL := [(.ref p_836), (.int 2)]) (rest := []) (W := 0) (own_w hw 109 rfl) (own_w hw 110 rfl) (own_w hw 47 rfl) (own_w hw 111 rfl) (by decide) (m_gc l Z a0 hw p_836 [.int l0, .int g0, .int l1, .int g1, .int l2, .int g2, .int l3, .int g3] (2 : Int32) l2 g2 2 h_835 n0 z_855 O_858 hSAD hSHB hSLB A_838 rfl (by decide) rfl rfl) d9_32 rfl pd5 rfl rfl (Nat.le_of_eq rfl) (by decide) (by decide) (by decide) (by decide) rfl ?_
    rintro _ _ ⟨y, rfl, rfl, hy⟩
    show Go _ _ _ _ _ _ _ _ _ _ _ _ h_835 (0 + 1 + 0 + 1 + 0) (0 + 4 + 0 + 8 + 0) 35 #[.val (.ref r), .val (.int 0), .val (.int 4), .val (.ref a_743), .val (.int 2), .val (.ref p_836)] [(.int y)]
    refine Go.sipush (pc' := 38) (v := (255 : Int32)) d9_35 rfl rfl ?_
    refine Go.icmp (pc1 := 54) (pc2 := 41) d9_38 (by decide) (by decide) rfl (fun (c_859 : (255 : Int) < y.toInt) => ?_) (fun (c_859 : y.toInt ≤ (255 : Int)) => ?_)
    rotate_left
    · exfalso; omega
    refine Go.aload (pc' := 56) d9_54 rfl rfl rfl ?_
    exact Go.retA d9_56 rfl rfl rfl ⟨p_836, rfl, K_857, g_848, t_840, Or.inr ⟨l0, g0, l1, g1, l2, g2, l3, g3, A_838, e_841, e_842, e_843, e_844⟩⟩ (by decide) (by decide)
  · show Go _ _ _ _ _ _ _ _ _ _ _ _ h_761 (0 + 1 + 0) (0 + 4 + 0) 12 #[.val (.ref r), .val (.int 0), .val (.int 4), .val (.ref a_743), .unset, .unset] [(.int 3)]
    refine Go.istore (pc' := 14) (Ls' := #[.val (.ref r), .val (.int 0), .val (.int 4), .val (.ref a_743), .val (.int 3), .unset]) d9_12 rfl rfl ?_
    refine Go.iload (pc' := 16) d9_14 rfl rfl ?_
    refine Go.iloadN (pc' := 17) d9_16 rfl rfl ?_
    refine Go.icmp (pc1 := 57) (pc2 := 20) d9_17 (by decide) (by decide) rfl (fun (c_860 : (3 : Int) = (4 : Int)) => ?_) (fun (c_860 : (3 : Int) ≠ (4 : Int)) => ?_)
    · exact absurd c_860 (by decide)
    refine Go.aloadN (pc' := 21) d9_20 rfl rfl rfl ?_
    refine Go.iloadN (pc' := 22) d9_21 rfl rfl ?_
    refine Go.iloadN (pc' := 23) d9_22 rfl rfl ?_
    refine Go.callS (pc' := 26) (argsL := [(.ref r), (.int 0), (.int 4)]) (rest := []) (W := 0) (own_w hw 93 rfl) (own_w hw 94 rfl) (own_w hw 47 rfl) (own_w hw 95 rfl) (by decide) (m_tb4 l Z a0 hw r c0 c1 c2 c3 h_761 n0 z_772 O_775 hSAD hSHB hSLB f_765 hc0 hc1 hc2 hc3) d9_23 rfl pd4 rfl rfl (Nat.le_of_eq rfl) (by decide) (by decide) (by decide) (by decide) rfl ?_
    rintro _ h_861 ⟨p_862, l0, g0, l1, g1, l2, g2, l3, g3, rfl, K_863, A_864, q_865, t_866, e_867, e_868, e_869, e_870⟩
    have n_871 : r ≠ p_862 := Nat.ne_of_lt (Nat.lt_of_lt_of_le t_770 q_865)
    have n_872 : a_743 ≠ p_862 := Nat.ne_of_lt (Nat.lt_of_lt_of_le t_771 q_865)
    have g_873 : n0 ≤ p_862 := Nat.le_trans z_772 q_865
    have g_874 : h0.size ≤ p_862 := Nat.le_trans b_773 q_865
    have f_875 : Ary Z h_861 r .char [(.int c0), (.int c1), (.int c2), (.int c3)] := f_765.sm (Sm.keep K_863 nin0)
    have t_879 : r < h_861.size := Nat.lt_of_lt_of_le t_770 K_863.1
    have t_880 : a_743 < h_861.size := Nat.lt_of_lt_of_le t_771 K_863.1
    have z_881 : n0 ≤ h_861.size := Nat.le_trans z_772 K_863.1
    have b_882 : h0.size ≤ h_861.size := Nat.le_trans b_773 K_863.1
    have K_883 : Keep h0 h_861 [] := K_774.trans K_863 all0
    have O_884 : Old Z n0 h_861 := O_775.keep K_863 all0
    have f_876 := Sta.ext O_884.2 hSAD
    have f_877 := Sta.ext O_884.2 hSHB
    have f_878 := Sta.ext O_884.2 hSLB
    show Go _ _ _ _ _ _ _ _ _ _ _ _ h_861 (0 + 1 + 0 + 1) (0 + 4 + 0 + 8) 26 #[.val (.ref r), .val (.int 0), .val (.int 4), .val (.ref a_743), .val (.int 3), .unset] [(.ref p_862)]
    refine Go.astore (pc' := 28) (Ls' := #[.val (.ref r), .val (.int 0), .val (.int 4), .val (.ref a_743), .val (.int 3), .val (.ref p_862)]) d9_26 rfl rfl rfl ?_
    refine Go.aload (pc' := 30) d9_28 rfl rfl rfl ?_
    refine Go.iload (pc' := 32) d9_30 rfl rfl ?_
    refine Go.callS (pc' := 35) (argsL := [(.ref p_862), (.int 3)]) (rest := []) (W := 0) (own_w hw 109 rfl) (own_w hw 110 rfl) (own_w hw 47 rfl) (own_w hw 111 rfl) (by decide) (m_gc l Z a0 hw p_862 [.int l0, .int g0, .int l1, .int g1, .int l2, .int g2, .int l3, .int g3] (3 : Int32) l3 g3 3 h_861 n0 z_881 O_884 hSAD hSHB hSLB A_864 rfl (by decide) rfl rfl) d9_32 rfl pd5 rfl rfl (Nat.le_of_eq rfl) (by decide) (by decide) (by decide) (by decide) rfl ?_
    rintro _ _ ⟨y, rfl, rfl, hy⟩
    show Go _ _ _ _ _ _ _ _ _ _ _ _ h_861 (0 + 1 + 0 + 1 + 0) (0 + 4 + 0 + 8 + 0) 35 #[.val (.ref r), .val (.int 0), .val (.int 4), .val (.ref a_743), .val (.int 3), .val (.ref p_862)] [(.int y)]
    refine Go.sipush (pc' := 38) (v := (255 : Int32)) d9_35 rfl rfl ?_
    refine Go.icmp (pc1 := 54) (pc2 := 41) d9_38 (by decide) (by decide) rfl (fun (c_885 : (255 : Int) < y.toInt) => ?_) (fun (c_885 : y.toInt ≤ (255 : Int)) => ?_)
    rotate_left
    · exfalso; omega
    refine Go.aload (pc' := 56) d9_54 rfl rfl rfl ?_
    exact Go.retA d9_56 rfl rfl rfl ⟨p_862, rfl, K_883, g_874, t_866, Or.inr ⟨l0, g0, l1, g1, l2, g2, l3, g3, A_864, e_867, e_868, e_869, e_870⟩⟩ (by decide) (by decide)
set_option maxRecDepth 65536 in
set_option maxHeartbeats 40000000 in
theorem m_cl1_0 (l : Launch) (Z : State) (a0 : Array Value) (hw : ∀ d ∈ tables_1, d.before a0 Z = true) (o : Addr) (A : List Value) (h0 : Heap) (n0 : Nat) (z0 : n0 ≤ h0.size) (hA : Ary Z h0 o .byte A) (hL : A.length = 1) : Mt .n l Z (⟨"java/lang/StringUTF16", "coderFromArrayLen", "([BI)B"⟩ : MethodName) jdk_52_method_15_code 2 (some .byte) ({ frames := 0, cells := 0, slots := 0, locals := 0 } : Room) n0 (fun v h => v = some (.int 0) ∧ h0 = h) h0 #[(.ref o), (.int 1)] := by
  refine Mt.go (Ls := #[.val (.ref o), .val (.int 1)]) (by first | exact plainFor_of_name (by decide +kernel) | decide +kernel | (simp [plainFor]; done)) (fun m => by first | (simp [entryFrame, mkF, argsToLocals, Value.category]; done) | rfl) ?_
  show Go _ _ _ _ _ _ _ _ _ _ _ _ h0 0 0 0 #[.val (.ref o), .val (.int 1)] []
  refine Go.iloadN (pc' := 1) d11_0 rfl rfl ?_
  refine Go.aloadN (pc' := 2) d11_1 rfl rfl rfl ?_
  refine Go.alen (pc' := 3) (z := (1 : Int32)) hA (by rw [hL]; rfl) d11_2 rfl ?_
  refine Go.isub (pc' := 4) d11_3 rfl ?_
  show Go _ _ _ _ _ _ _ _ _ _ _ _ h0 0 0 4 #[.val (.ref o), .val (.int 1)] [(.int 0)]
  refine Go.bipush (pc' := 6) (v := (31 : Int32)) d11_4 rfl rfl ?_
  refine Go.iushr (pc' := 7) d11_6 rfl ?_
  refine Go.i2b (pc' := 8) d11_7 rfl ?_
  generalize er_886 : (((0 : Int32).toUInt32 >>> ((31 : Int32) &&& 31).toUInt32).toInt32).toInt8.toInt32 = r_886
  have k_887 : r_886.toInt = 0 := by
    rw [← er_886]
    have : (0 : Int32).toInt = 0 := by decide
    have : (31 : Int32).toInt = 31 := by decide
    have := c_iushr (0 : Int32) (31 : Int32) 31 (by decide) (by decide)
    have := rng32 (((0 : Int32).toUInt32 >>> ((31 : Int32) &&& 31).toUInt32).toInt32)
    have := c_i2b (((0 : Int32).toUInt32 >>> ((31 : Int32) &&& 31).toUInt32).toInt32)
    have := rng32 ((((0 : Int32).toUInt32 >>> ((31 : Int32) &&& 31).toUInt32).toInt32).toInt8.toInt32)
    omega
  obtain rfl : r_886 = (0 : Int32) := Int32.toInt_inj.mp k_887
  exact Go.retN (t := .byte) d11_8 rfl (by simp) rfl ⟨rfl, rfl⟩ (by decide) (by decide)
set_option maxRecDepth 65536 in
set_option maxHeartbeats 40000000 in
theorem m_cl1_1 (l : Launch) (Z : State) (a0 : Array Value) (hw : ∀ d ∈ tables_1, d.before a0 Z = true) (o : Addr) (A : List Value) (h0 : Heap) (n0 : Nat) (z0 : n0 ≤ h0.size) (hA : Ary Z h0 o .byte A) (hL : A.length = 2) : Mt .n l Z (⟨"java/lang/StringUTF16", "coderFromArrayLen", "([BI)B"⟩ : MethodName) jdk_52_method_15_code 2 (some .byte) ({ frames := 0, cells := 0, slots := 0, locals := 0 } : Room) n0 (fun v h => v = some (.int 1) ∧ h0 = h) h0 #[(.ref o), (.int 1)] := by
  refine Mt.go (Ls := #[.val (.ref o), .val (.int 1)]) (by first | exact plainFor_of_name (by decide +kernel) | decide +kernel | (simp [plainFor]; done)) (fun m => by first | (simp [entryFrame, mkF, argsToLocals, Value.category]; done) | rfl) ?_
  show Go _ _ _ _ _ _ _ _ _ _ _ _ h0 0 0 0 #[.val (.ref o), .val (.int 1)] []
  refine Go.iloadN (pc' := 1) d11_0 rfl rfl ?_
  refine Go.aloadN (pc' := 2) d11_1 rfl rfl rfl ?_
  refine Go.alen (pc' := 3) (z := (2 : Int32)) hA (by rw [hL]; rfl) d11_2 rfl ?_
  refine Go.isub (pc' := 4) d11_3 rfl ?_
  show Go _ _ _ _ _ _ _ _ _ _ _ _ h0 0 0 4 #[.val (.ref o), .val (.int 1)] [(.int (-1 : Int32))]
  refine Go.bipush (pc' := 6) (v := (31 : Int32)) d11_4 rfl rfl ?_
  refine Go.iushr (pc' := 7) d11_6 rfl ?_
  refine Go.i2b (pc' := 8) d11_7 rfl ?_
  generalize er_888 : (((-1 : Int32).toUInt32 >>> ((31 : Int32) &&& 31).toUInt32).toInt32).toInt8.toInt32 = r_888
  have k_889 : r_888.toInt = 1 := by
    rw [← er_888]
    have : (-1 : Int32).toInt = -1 := by decide
    have : (31 : Int32).toInt = 31 := by decide
    have := c_iushr (-1 : Int32) (31 : Int32) 31 (by decide) (by decide)
    have := rng32 (((-1 : Int32).toUInt32 >>> ((31 : Int32) &&& 31).toUInt32).toInt32)
    have := c_i2b (((-1 : Int32).toUInt32 >>> ((31 : Int32) &&& 31).toUInt32).toInt32)
    have := rng32 ((((-1 : Int32).toUInt32 >>> ((31 : Int32) &&& 31).toUInt32).toInt32).toInt8.toInt32)
    omega
  obtain rfl : r_888 = (1 : Int32) := Int32.toInt_inj.mp k_889
  exact Go.retN (t := .byte) d11_8 rfl (by simp) rfl ⟨rfl, rfl⟩ (by decide) (by decide)
set_option maxRecDepth 65536 in
set_option maxHeartbeats 40000000 in
theorem m_cl2_0 (l : Launch) (Z : State) (a0 : Array Value) (hw : ∀ d ∈ tables_1, d.before a0 Z = true) (o : Addr) (A : List Value) (h0 : Heap) (n0 : Nat) (z0 : n0 ≤ h0.size) (hA : Ary Z h0 o .byte A) (hL : A.length = 2) : Mt .n l Z (⟨"java/lang/StringUTF16", "coderFromArrayLen", "([BI)B"⟩ : MethodName) jdk_52_method_15_code 2 (some .byte) ({ frames := 0, cells := 0, slots := 0, locals := 0 } : Room) n0 (fun v h => v = some (.int 0) ∧ h0 = h) h0 #[(.ref o), (.int 2)] := by
  refine Mt.go (Ls := #[.val (.ref o), .val (.int 2)]) (by first | exact plainFor_of_name (by decide +kernel) | decide +kernel | (simp [plainFor]; done)) (fun m => by first | (simp [entryFrame, mkF, argsToLocals, Value.category]; done) | rfl) ?_
  show Go _ _ _ _ _ _ _ _ _ _ _ _ h0 0 0 0 #[.val (.ref o), .val (.int 2)] []
  refine Go.iloadN (pc' := 1) d11_0 rfl rfl ?_
  refine Go.aloadN (pc' := 2) d11_1 rfl rfl rfl ?_
  refine Go.alen (pc' := 3) (z := (2 : Int32)) hA (by rw [hL]; rfl) d11_2 rfl ?_
  refine Go.isub (pc' := 4) d11_3 rfl ?_
  show Go _ _ _ _ _ _ _ _ _ _ _ _ h0 0 0 4 #[.val (.ref o), .val (.int 2)] [(.int 0)]
  refine Go.bipush (pc' := 6) (v := (31 : Int32)) d11_4 rfl rfl ?_
  refine Go.iushr (pc' := 7) d11_6 rfl ?_
  refine Go.i2b (pc' := 8) d11_7 rfl ?_
  generalize er_890 : (((0 : Int32).toUInt32 >>> ((31 : Int32) &&& 31).toUInt32).toInt32).toInt8.toInt32 = r_890
  have k_891 : r_890.toInt = 0 := by
    rw [← er_890]
    have : (0 : Int32).toInt = 0 := by decide
    have : (31 : Int32).toInt = 31 := by decide
    have := c_iushr (0 : Int32) (31 : Int32) 31 (by decide) (by decide)
    have := rng32 (((0 : Int32).toUInt32 >>> ((31 : Int32) &&& 31).toUInt32).toInt32)
    have := c_i2b (((0 : Int32).toUInt32 >>> ((31 : Int32) &&& 31).toUInt32).toInt32)
    have := rng32 ((((0 : Int32).toUInt32 >>> ((31 : Int32) &&& 31).toUInt32).toInt32).toInt8.toInt32)
    omega
  obtain rfl : r_890 = (0 : Int32) := Int32.toInt_inj.mp k_891
  exact Go.retN (t := .byte) d11_8 rfl (by simp) rfl ⟨rfl, rfl⟩ (by decide) (by decide)
set_option maxRecDepth 65536 in
set_option maxHeartbeats 40000000 in
theorem m_cl2_1 (l : Launch) (Z : State) (a0 : Array Value) (hw : ∀ d ∈ tables_1, d.before a0 Z = true) (o : Addr) (A : List Value) (h0 : Heap) (n0 : Nat) (z0 : n0 ≤ h0.size) (hA : Ary Z h0 o .byte A) (hL : A.length = 4) : Mt .n l Z (⟨"java/lang/StringUTF16", "coderFromArrayLen", "([BI)B"⟩ : MethodName) jdk_52_method_15_code 2 (some .byte) ({ frames := 0, cells := 0, slots := 0, locals := 0 } : Room) n0 (fun v h => v = some (.int 1) ∧ h0 = h) h0 #[(.ref o), (.int 2)] := by
  refine Mt.go (Ls := #[.val (.ref o), .val (.int 2)]) (by first | exact plainFor_of_name (by decide +kernel) | decide +kernel | (simp [plainFor]; done)) (fun m => by first | (simp [entryFrame, mkF, argsToLocals, Value.category]; done) | rfl) ?_
  show Go _ _ _ _ _ _ _ _ _ _ _ _ h0 0 0 0 #[.val (.ref o), .val (.int 2)] []
  refine Go.iloadN (pc' := 1) d11_0 rfl rfl ?_
  refine Go.aloadN (pc' := 2) d11_1 rfl rfl rfl ?_
  refine Go.alen (pc' := 3) (z := (4 : Int32)) hA (by rw [hL]; rfl) d11_2 rfl ?_
  refine Go.isub (pc' := 4) d11_3 rfl ?_
  show Go _ _ _ _ _ _ _ _ _ _ _ _ h0 0 0 4 #[.val (.ref o), .val (.int 2)] [(.int (-2 : Int32))]
  refine Go.bipush (pc' := 6) (v := (31 : Int32)) d11_4 rfl rfl ?_
  refine Go.iushr (pc' := 7) d11_6 rfl ?_
  refine Go.i2b (pc' := 8) d11_7 rfl ?_
  generalize er_892 : (((-2 : Int32).toUInt32 >>> ((31 : Int32) &&& 31).toUInt32).toInt32).toInt8.toInt32 = r_892
  have k_893 : r_892.toInt = 1 := by
    rw [← er_892]
    have : (-2 : Int32).toInt = -2 := by decide
    have : (31 : Int32).toInt = 31 := by decide
    have := c_iushr (-2 : Int32) (31 : Int32) 31 (by decide) (by decide)
    have := rng32 (((-2 : Int32).toUInt32 >>> ((31 : Int32) &&& 31).toUInt32).toInt32)
    have := c_i2b (((-2 : Int32).toUInt32 >>> ((31 : Int32) &&& 31).toUInt32).toInt32)
    have := rng32 ((((-2 : Int32).toUInt32 >>> ((31 : Int32) &&& 31).toUInt32).toInt32).toInt8.toInt32)
    omega
  obtain rfl : r_892 = (1 : Int32) := Int32.toInt_inj.mp k_893
  exact Go.retN (t := .byte) d11_8 rfl (by simp) rfl ⟨rfl, rfl⟩ (by decide) (by decide)
set_option maxRecDepth 65536 in
set_option maxHeartbeats 40000000 in
theorem m_cl3_0 (l : Launch) (Z : State) (a0 : Array Value) (hw : ∀ d ∈ tables_1, d.before a0 Z = true) (o : Addr) (A : List Value) (h0 : Heap) (n0 : Nat) (z0 : n0 ≤ h0.size) (hA : Ary Z h0 o .byte A) (hL : A.length = 3) : Mt .n l Z (⟨"java/lang/StringUTF16", "coderFromArrayLen", "([BI)B"⟩ : MethodName) jdk_52_method_15_code 2 (some .byte) ({ frames := 0, cells := 0, slots := 0, locals := 0 } : Room) n0 (fun v h => v = some (.int 0) ∧ h0 = h) h0 #[(.ref o), (.int 3)] := by
  refine Mt.go (Ls := #[.val (.ref o), .val (.int 3)]) (by first | exact plainFor_of_name (by decide +kernel) | decide +kernel | (simp [plainFor]; done)) (fun m => by first | (simp [entryFrame, mkF, argsToLocals, Value.category]; done) | rfl) ?_
  show Go _ _ _ _ _ _ _ _ _ _ _ _ h0 0 0 0 #[.val (.ref o), .val (.int 3)] []
  refine Go.iloadN (pc' := 1) d11_0 rfl rfl ?_
  refine Go.aloadN (pc' := 2) d11_1 rfl rfl rfl ?_
  refine Go.alen (pc' := 3) (z := (3 : Int32)) hA (by rw [hL]; rfl) d11_2 rfl ?_
  refine Go.isub (pc' := 4) d11_3 rfl ?_
  show Go _ _ _ _ _ _ _ _ _ _ _ _ h0 0 0 4 #[.val (.ref o), .val (.int 3)] [(.int 0)]
  refine Go.bipush (pc' := 6) (v := (31 : Int32)) d11_4 rfl rfl ?_
  refine Go.iushr (pc' := 7) d11_6 rfl ?_
  refine Go.i2b (pc' := 8) d11_7 rfl ?_
  generalize er_894 : (((0 : Int32).toUInt32 >>> ((31 : Int32) &&& 31).toUInt32).toInt32).toInt8.toInt32 = r_894
  have k_895 : r_894.toInt = 0 := by
    rw [← er_894]
    have : (0 : Int32).toInt = 0 := by decide
    have : (31 : Int32).toInt = 31 := by decide
    have := c_iushr (0 : Int32) (31 : Int32) 31 (by decide) (by decide)
    have := rng32 (((0 : Int32).toUInt32 >>> ((31 : Int32) &&& 31).toUInt32).toInt32)
    have := c_i2b (((0 : Int32).toUInt32 >>> ((31 : Int32) &&& 31).toUInt32).toInt32)
    have := rng32 ((((0 : Int32).toUInt32 >>> ((31 : Int32) &&& 31).toUInt32).toInt32).toInt8.toInt32)
    omega
  obtain rfl : r_894 = (0 : Int32) := Int32.toInt_inj.mp k_895
  exact Go.retN (t := .byte) d11_8 rfl (by simp) rfl ⟨rfl, rfl⟩ (by decide) (by decide)
set_option maxRecDepth 65536 in
set_option maxHeartbeats 40000000 in
theorem m_cl3_1 (l : Launch) (Z : State) (a0 : Array Value) (hw : ∀ d ∈ tables_1, d.before a0 Z = true) (o : Addr) (A : List Value) (h0 : Heap) (n0 : Nat) (z0 : n0 ≤ h0.size) (hA : Ary Z h0 o .byte A) (hL : A.length = 6) : Mt .n l Z (⟨"java/lang/StringUTF16", "coderFromArrayLen", "([BI)B"⟩ : MethodName) jdk_52_method_15_code 2 (some .byte) ({ frames := 0, cells := 0, slots := 0, locals := 0 } : Room) n0 (fun v h => v = some (.int 1) ∧ h0 = h) h0 #[(.ref o), (.int 3)] := by
  refine Mt.go (Ls := #[.val (.ref o), .val (.int 3)]) (by first | exact plainFor_of_name (by decide +kernel) | decide +kernel | (simp [plainFor]; done)) (fun m => by first | (simp [entryFrame, mkF, argsToLocals, Value.category]; done) | rfl) ?_
  show Go _ _ _ _ _ _ _ _ _ _ _ _ h0 0 0 0 #[.val (.ref o), .val (.int 3)] []
  refine Go.iloadN (pc' := 1) d11_0 rfl rfl ?_
  refine Go.aloadN (pc' := 2) d11_1 rfl rfl rfl ?_
  refine Go.alen (pc' := 3) (z := (6 : Int32)) hA (by rw [hL]; rfl) d11_2 rfl ?_
  refine Go.isub (pc' := 4) d11_3 rfl ?_
  show Go _ _ _ _ _ _ _ _ _ _ _ _ h0 0 0 4 #[.val (.ref o), .val (.int 3)] [(.int (-3 : Int32))]
  refine Go.bipush (pc' := 6) (v := (31 : Int32)) d11_4 rfl rfl ?_
  refine Go.iushr (pc' := 7) d11_6 rfl ?_
  refine Go.i2b (pc' := 8) d11_7 rfl ?_
  generalize er_896 : (((-3 : Int32).toUInt32 >>> ((31 : Int32) &&& 31).toUInt32).toInt32).toInt8.toInt32 = r_896
  have k_897 : r_896.toInt = 1 := by
    rw [← er_896]
    have : (-3 : Int32).toInt = -3 := by decide
    have : (31 : Int32).toInt = 31 := by decide
    have := c_iushr (-3 : Int32) (31 : Int32) 31 (by decide) (by decide)
    have := rng32 (((-3 : Int32).toUInt32 >>> ((31 : Int32) &&& 31).toUInt32).toInt32)
    have := c_i2b (((-3 : Int32).toUInt32 >>> ((31 : Int32) &&& 31).toUInt32).toInt32)
    have := rng32 ((((-3 : Int32).toUInt32 >>> ((31 : Int32) &&& 31).toUInt32).toInt32).toInt8.toInt32)
    omega
  obtain rfl : r_896 = (1 : Int32) := Int32.toInt_inj.mp k_897
  exact Go.retN (t := .byte) d11_8 rfl (by simp) rfl ⟨rfl, rfl⟩ (by decide) (by decide)
set_option maxRecDepth 65536 in
set_option maxHeartbeats 40000000 in
theorem m_cl4_0 (l : Launch) (Z : State) (a0 : Array Value) (hw : ∀ d ∈ tables_1, d.before a0 Z = true) (o : Addr) (A : List Value) (h0 : Heap) (n0 : Nat) (z0 : n0 ≤ h0.size) (hA : Ary Z h0 o .byte A) (hL : A.length = 4) : Mt .n l Z (⟨"java/lang/StringUTF16", "coderFromArrayLen", "([BI)B"⟩ : MethodName) jdk_52_method_15_code 2 (some .byte) ({ frames := 0, cells := 0, slots := 0, locals := 0 } : Room) n0 (fun v h => v = some (.int 0) ∧ h0 = h) h0 #[(.ref o), (.int 4)] := by
  refine Mt.go (Ls := #[.val (.ref o), .val (.int 4)]) (by first | exact plainFor_of_name (by decide +kernel) | decide +kernel | (simp [plainFor]; done)) (fun m => by first | (simp [entryFrame, mkF, argsToLocals, Value.category]; done) | rfl) ?_
  show Go _ _ _ _ _ _ _ _ _ _ _ _ h0 0 0 0 #[.val (.ref o), .val (.int 4)] []
  refine Go.iloadN (pc' := 1) d11_0 rfl rfl ?_
  refine Go.aloadN (pc' := 2) d11_1 rfl rfl rfl ?_
  refine Go.alen (pc' := 3) (z := (4 : Int32)) hA (by rw [hL]; rfl) d11_2 rfl ?_
  refine Go.isub (pc' := 4) d11_3 rfl ?_
  show Go _ _ _ _ _ _ _ _ _ _ _ _ h0 0 0 4 #[.val (.ref o), .val (.int 4)] [(.int 0)]
  refine Go.bipush (pc' := 6) (v := (31 : Int32)) d11_4 rfl rfl ?_
  refine Go.iushr (pc' := 7) d11_6 rfl ?_
  refine Go.i2b (pc' := 8) d11_7 rfl ?_
  generalize er_898 : (((0 : Int32).toUInt32 >>> ((31 : Int32) &&& 31).toUInt32).toInt32).toInt8.toInt32 = r_898
  have k_899 : r_898.toInt = 0 := by
    rw [← er_898]
    have : (0 : Int32).toInt = 0 := by decide
    have : (31 : Int32).toInt = 31 := by decide
    have := c_iushr (0 : Int32) (31 : Int32) 31 (by decide) (by decide)
    have := rng32 (((0 : Int32).toUInt32 >>> ((31 : Int32) &&& 31).toUInt32).toInt32)
    have := c_i2b (((0 : Int32).toUInt32 >>> ((31 : Int32) &&& 31).toUInt32).toInt32)
    have := rng32 ((((0 : Int32).toUInt32 >>> ((31 : Int32) &&& 31).toUInt32).toInt32).toInt8.toInt32)
    omega
  obtain rfl : r_898 = (0 : Int32) := Int32.toInt_inj.mp k_899
  exact Go.retN (t := .byte) d11_8 rfl (by simp) rfl ⟨rfl, rfl⟩ (by decide) (by decide)
set_option maxRecDepth 65536 in
set_option maxHeartbeats 40000000 in
theorem m_cl4_1 (l : Launch) (Z : State) (a0 : Array Value) (hw : ∀ d ∈ tables_1, d.before a0 Z = true) (o : Addr) (A : List Value) (h0 : Heap) (n0 : Nat) (z0 : n0 ≤ h0.size) (hA : Ary Z h0 o .byte A) (hL : A.length = 8) : Mt .n l Z (⟨"java/lang/StringUTF16", "coderFromArrayLen", "([BI)B"⟩ : MethodName) jdk_52_method_15_code 2 (some .byte) ({ frames := 0, cells := 0, slots := 0, locals := 0 } : Room) n0 (fun v h => v = some (.int 1) ∧ h0 = h) h0 #[(.ref o), (.int 4)] := by
  refine Mt.go (Ls := #[.val (.ref o), .val (.int 4)]) (by first | exact plainFor_of_name (by decide +kernel) | decide +kernel | (simp [plainFor]; done)) (fun m => by first | (simp [entryFrame, mkF, argsToLocals, Value.category]; done) | rfl) ?_
  show Go _ _ _ _ _ _ _ _ _ _ _ _ h0 0 0 0 #[.val (.ref o), .val (.int 4)] []
  refine Go.iloadN (pc' := 1) d11_0 rfl rfl ?_
  refine Go.aloadN (pc' := 2) d11_1 rfl rfl rfl ?_
  refine Go.alen (pc' := 3) (z := (8 : Int32)) hA (by rw [hL]; rfl) d11_2 rfl ?_
  refine Go.isub (pc' := 4) d11_3 rfl ?_
  show Go _ _ _ _ _ _ _ _ _ _ _ _ h0 0 0 4 #[.val (.ref o), .val (.int 4)] [(.int (-4 : Int32))]
  refine Go.bipush (pc' := 6) (v := (31 : Int32)) d11_4 rfl rfl ?_
  refine Go.iushr (pc' := 7) d11_6 rfl ?_
  refine Go.i2b (pc' := 8) d11_7 rfl ?_
  generalize er_900 : (((-4 : Int32).toUInt32 >>> ((31 : Int32) &&& 31).toUInt32).toInt32).toInt8.toInt32 = r_900
  have k_901 : r_900.toInt = 1 := by
    rw [← er_900]
    have : (-4 : Int32).toInt = -4 := by decide
    have : (31 : Int32).toInt = 31 := by decide
    have := c_iushr (-4 : Int32) (31 : Int32) 31 (by decide) (by decide)
    have := rng32 (((-4 : Int32).toUInt32 >>> ((31 : Int32) &&& 31).toUInt32).toInt32)
    have := c_i2b (((-4 : Int32).toUInt32 >>> ((31 : Int32) &&& 31).toUInt32).toInt32)
    have := rng32 ((((-4 : Int32).toUInt32 >>> ((31 : Int32) &&& 31).toUInt32).toInt32).toInt8.toInt32)
    omega
  obtain rfl : r_900 = (1 : Int32) := Int32.toInt_inj.mp k_901
  exact Go.retN (t := .byte) d11_8 rfl (by simp) rfl ⟨rfl, rfl⟩ (by decide) (by decide)
set_option maxRecDepth 65536 in
set_option maxHeartbeats 40000000 in
theorem m_s2_1 (l : Launch) (Z : State) (a0 : Array Value) (hw : ∀ d ∈ tables_1, d.before a0 Z = true) (a r : Addr) (c0 : Int32) (cs : Int32) (h0 : Heap) (n0 : Nat) (z0 : n0 ≤ h0.size) (hO : Old Z n0 h0) (hSCS : Sta Z Z.heap "java/lang/String" "COMPACT_STRINGS" "Z" (.int cs)) (hSAD : Sta Z Z.heap "java/lang/StringUTF16" "$assertionsDisabled" "Z" (.int 1)) (hSHB : Sta Z Z.heap "java/lang/StringUTF16" "HI_BYTE_SHIFT" "I" (.int 0)) (hSLB : Sta Z Z.heap "java/lang/StringUTF16" "LO_BYTE_SHIFT" "I" (.int 8)) (hcs : cs.toInt ≠ 0) (hE : Exa Z h0 a "java/lang/String") (hFV : Fld Z h0 a "java/lang/String" "value" "[B" .null) (hFC : Fld Z h0 a "java/lang/String" "coder" "B" (.int 0)) (hg : n0 ≤ a) (hR : Ary Z h0 r .char [.int c0]) (hc0 : 0 ≤ c0.toInt ∧ c0.toInt < 65536)  : Mt .n l Z (⟨"java/lang/String", "<init>", "([CIILjava/lang/Void;)V"⟩ : MethodName) jdk_42_method_149_code 6 none ({ frames := 4, cells := 2, slots := 3, locals := 60 } : Room) n0 (fun v h => v = none ∧ Keep h0 h [a] ∧ ∃ o : Addr, Fld Z h a "java/lang/String" "value" "[B" (.ref o) ∧ o < h.size ∧ ((Fld Z h a "java/lang/String" "coder" "B" (.int 0) ∧ ∃ b0 : Int32, Ary Z h o .byte [.int b0] ∧ b0.toInt % 256 = c0.toInt) ∨ (Fld Z h a "java/lang/String" "coder" "B" (.int 1) ∧ ∃ l0 g0 : Int32, Ary Z h o .byte [.int l0, .int g0] ∧ l0.toInt % 256 + 256 * (g0.toInt % 256) = c0.toInt))) h0 #[(.ref a), (.ref r), (.int 0), (.int 1), .null] := by
  refine Mt.go (Ls := #[.val (.ref a), .val (.ref r), .val (.int 0), .val (.int 1), .val .null, .unset]) (by first | exact plainFor_of_name (by decide +kernel) | decide +kernel | (simp [plainFor]; done)) (fun m => by first | (simp [entryFrame, mkF, argsToLocals, Value.category]; done) | rfl) ?_
  show Go _ _ _ _ _ _ _ _ _ _ _ _ h0 0 0 0 #[.val (.ref a), .val (.ref r), .val (.int 0), .val (.int 1), .val .null, .unset] []
  have hTCS := Sta.ext hO.2 hSCS
  have hTAD := Sta.ext hO.2 hSAD
  have hTHB := Sta.ext hO.2 hSHB
  have hTLB := Sta.ext hO.2 hSLB
  have n_902 : a ≠ r := by obtain ⟨_, Ag, -⟩ := hR; exact ne_arr hE (own_w hw 7 rfl) Ag
  refine Go.aloadN (pc' := 1) d3_0 rfl rfl rfl ?_
  refine Go.initO (pc' := 4) (W := 0) (own_w hw 16 rfl) (own_w hw 17 rfl) (own_w hw 18 rfl) d3_1 rfl (by decide) (Nat.le_of_eq rfl) (by decide) rfl ?_
  refine Go.iloadN (pc' := 5) d3_4 rfl rfl ?_
  refine Go.ifc (pc1 := 27) (pc2 := 8) d3_5 (by decide) (by decide) rfl (fun (c_903 : (1 : Int) ≠ 0) => ?_) (fun (c_903 : (1 : Int) = 0) => ?_)
  rotate_left
  · exact absurd c_903 (by decide)
  refine Go.getS (pc' := 30) (own_w hw 44 rfl) hTCS d3_27 rfl ?_
  refine Go.ifc (pc1 := 58) (pc2 := 33) d3_30 (by decide) (by decide) rfl (fun (c_904 : cs.toInt = 0) => ?_) (fun (c_904 : cs.toInt ≠ 0) => ?_)
  · exact absurd c_904 hcs
  refine Go.aloadN (pc' := 34) d3_33 rfl rfl rfl ?_
  refine Go.iloadN (pc' := 35) d3_34 rfl rfl ?_
  refine Go.iloadN (pc' := 36) d3_35 rfl rfl ?_
  refine Go.callS (pc' := 39) (argsL := [(.ref r), (.int 0), (.int 1)]) (rest := []) (W := 0) (own_w hw 45 rfl) (own_w hw 46 rfl) (own_w hw 47 rfl) (own_w hw 48 rfl) (by decide) (m_c3_1 l Z a0 hw r c0 h0 n0 z0 hO hSAD hSHB hSLB hR hc0 ) d3_36 rfl pd4 rfl rfl (Nat.le_of_eq rfl) (by decide) (by decide) (by decide) (by decide) rfl ?_
  rintro _ h_905 ⟨o_906, rfl, K_907, q_908, t_909, ho_910⟩
  have n_911 : a ≠ o_906 := Nat.ne_of_lt (Nat.lt_of_lt_of_le hE.lt q_908)
  have n_912 : r ≠ o_906 := Nat.ne_of_lt (Nat.lt_of_lt_of_le hR.lt q_908)
  have g_913 : n0 ≤ o_906 := Nat.le_trans z0 q_908
  have g_914 : h0.size ≤ o_906 := Nat.le_trans (Nat.le_refl _) q_908
  have f_919 : Exa Z h_905 a "java/lang/String" := hE.sm (Sm.keep K_907 nin0)
  have f_920 : Fld Z h_905 a "java/lang/String" "value" "[B" .null := hFV.sm (Sm.keep K_907 nin0)
  have f_921 : Fld Z h_905 a "java/lang/String" "coder" "B" (.int 0) := hFC.sm (Sm.keep K_907 nin0)
  have f_922 : Ary Z h_905 r .char [(.int c0)] := hR.sm (Sm.keep K_907 nin0)
  have t_923 : a < h_905.size := Nat.lt_of_lt_of_le hE.lt K_907.1
  have t_924 : r < h_905.size := Nat.lt_of_lt_of_le hR.lt K_907.1
  have z_925 : n0 ≤ h_905.size := Nat.le_trans z0 K_907.1
  have b_926 : h0.size ≤ h_905.size := Nat.le_trans (Nat.le_refl _) K_907.1
  have K_927 : Keep h0 h_905 [a] := (Keep.refl _ _).trans K_907 all0
  have O_928 : Old Z n0 h_905 := hO.keep K_907 all0
  have f_915 := Sta.ext O_928.2 hSCS
  have f_916 := Sta.ext O_928.2 hSAD
  have f_917 := Sta.ext O_928.2 hSHB
  have f_918 := Sta.ext O_928.2 hSLB
  show Go _ _ _ _ _ _ _ _ _ _ _ _ h_905 (0 + 2) (0 + 3) 39 #[.val (.ref a), .val (.ref r), .val (.int 0), .val (.int 1), .val .null, .unset] [(.ref o_906)]
  rcases ho_910 with ⟨b0, A_929, e_930⟩ | ⟨l0, g0, A_929, e_930⟩
  · refine Go.astore (pc' := 41) (Ls' := #[.val (.ref a), .val (.ref r), .val (.int 0), .val (.int 1), .val .null, .val (.ref o_906)]) d3_39 rfl rfl rfl ?_
    refine Go.aloadN (pc' := 42) d3_41 rfl rfl rfl ?_
    refine Go.aload (pc' := 44) d3_42 rfl rfl rfl ?_
    refine Go.iloadN (pc' := 45) d3_44 rfl rfl ?_
    refine Go.callS (pc' := 48) (argsL := [(.ref o_906), (.int 1)]) (rest := [(.ref a)]) (W := 1) (own_w hw 52 rfl) (own_w hw 53 rfl) (own_w hw 47 rfl) (own_w hw 54 rfl) (by decide) (m_cl1_0 l Z a0 hw o_906 [.int b0] h_905 n0 z_925 A_929 rfl) d3_45 rfl pd6 rfl rfl (Nat.le_of_eq rfl) (by decide) (by decide) (by decide) (by decide) rfl ?_
    rintro _ _ ⟨rfl, rfl⟩
    show Go _ _ _ _ _ _ _ _ _ _ _ _ h_905 (0 + 2 + 0) (0 + 3 + 0) 48 #[.val (.ref a), .val (.ref r), .val (.int 0), .val (.int 1), .val .null, .val (.ref o_906)] [(.int 0), (.ref a)]
    refine Go.putF (pc' := 51) (ty := .byte) (own_w hw 26 rfl) f_921 f_919 (Or.inr ⟨(own_w hw 22 rfl), rfl, rfl⟩) (own_w hw 7 rfl) (by decide) rfl rfl d3_48 hg rfl ?_
    intro h_931 W_932
    have f_933 : Exa Z h_931 a "java/lang/String" := Exa.wr W_932 f_919
    have f_934 : Ary Z h_931 r .char [(.int c0)] := f_922.sm (Sm.wr W_932 n_902.symm)
    have f_939 : Ary Z h_931 o_906 .byte [(.int b0)] := A_929.sm (Sm.wr W_932 n_911.symm)
    have t_940 : a < h_931.size := Nat.lt_of_lt_of_le t_923 (Nat.le_of_eq W_932.size.symm)
    have t_941 : r < h_931.size := Nat.lt_of_lt_of_le t_924 (Nat.le_of_eq W_932.size.symm)
    have t_942 : o_906 < h_931.size := Nat.lt_of_lt_of_le t_909 (Nat.le_of_eq W_932.size.symm)
    have z_943 : n0 ≤ h_931.size := Nat.le_trans z_925 (Nat.le_of_eq W_932.size.symm)
    have b_944 : h0.size ≤ h_931.size := Nat.le_trans b_926 (Nat.le_of_eq W_932.size.symm)
    have K_945 : Keep h0 h_931 [a] := K_927.wr W_932 (Or.inl (List.mem_of_getElem? (i := 0) rfl))
    have O_946 : Old Z n0 h_931 := O_928.wr W_932 hg
    have f_935 := Sta.ext O_946.2 hSCS
    have f_936 := Sta.ext O_946.2 hSAD
    have f_937 := Sta.ext O_946.2 hSHB
    have f_938 := Sta.ext O_946.2 hSLB
    have f_947 : Fld Z h_931 a "java/lang/String" "value" "[B" .null := Fld.other W_932 f_920 (Or.inr (slot_ne (Or.inr (own_w hw 21 rfl)) (Or.inr (own_w hw 22 rfl)) (by decide) (t := (.array .byte)) (t' := .byte) (by decide) (by decide)))
    have f_948 : Fld Z h_931 a "java/lang/String" "coder" "B" (.int 0) := Fld.same W_932 f_921
    refine Go.aloadN (pc' := 52) d3_51 rfl rfl rfl ?_
    refine Go.aload (pc' := 54) d3_52 rfl rfl rfl ?_
    refine Go.putF (pc' := 57) (ty := (.array .byte)) (own_w hw 25 rfl) f_947 f_933 (Or.inr ⟨(own_w hw 21 rfl), rfl, rfl⟩) (own_w hw 7 rfl) (by decide) rfl rfl d3_54 hg rfl ?_
    intro h_949 W_950
    have f_951 : Exa Z h_949 a "java/lang/String" := Exa.wr W_950 f_933
    have f_952 : Ary Z h_949 r .char [(.int c0)] := f_934.sm (Sm.wr W_950 n_902.symm)
    have f_953 : Ary Z h_949 o_906 .byte [(.int b0)] := f_939.sm (Sm.wr W_950 n_911.symm)
    have t_958 : a < h_949.size := Nat.lt_of_lt_of_le t_940 (Nat.le_of_eq W_950.size.symm)
    have t_959 : r < h_949.size := Nat.lt_of_lt_of_le t_941 (Nat.le_of_eq W_950.size.symm)
    have t_960 : o_906 < h_949.size := Nat.lt_of_lt_of_le t_942 (Nat.le_of_eq W_950.size.symm)
    have z_961 : n0 ≤ h_949.size := Nat.le_trans z_943 (Nat.le_of_eq W_950.size.symm)
    have b_962 : h0.size ≤ h_949.size := Nat.le_trans b_944 (Nat.le_of_eq W_950.size.symm)
    have K_963 : Keep h0 h_949 [a] := K_945.wr W_950 (Or.inl (List.mem_of_getElem? (i := 0) rfl))
    have O_964 : Old Z n0 h_949 := O_946.wr W_950 hg
    have f_954 := Sta.ext O_964.2 hSCS
    have f_955 := Sta.ext O_964.2 hSAD
    have f_956 := Sta.ext O_964.2 hSHB
    have f_957 := Sta.ext O_964.2 hSLB
    have f_965 : Fld Z h_949 a "java/lang/String" "value" "[B" (.ref o_906) := Fld.same W_950 f_947
    have f_966 : Fld Z h_949 a "java/lang/String" "coder" "B" (.int 0) := Fld.other W_950 f_948 (Or.inr (slot_ne (Or.inr (own_w hw 22 rfl)) (Or.inr (own_w hw 21 rfl)) (by decide) (t := .byte) (t' := (.array .byte)) (by decide) (by decide)))
    exact Go.ret0 d3_57 rfl ⟨rfl, K_963, o_906, f_965, t_960, Or.inl ⟨f_966, b0, f_953, e_930⟩⟩ (by decide) (by decide)
  · refine Go.astore (pc' := 41) (Ls' := #[.val (.ref a), .val (.ref r), .val (.int 0), .val (.int 1), .val .null, .val (.ref o_906)]) d3_39 rfl rfl rfl ?_
    refine Go.aloadN (pc' := 42) d3_41 rfl rfl rfl ?_
    refine Go.aload (pc' := 44) d3_42 rfl rfl rfl ?_
    refine Go.iloadN (pc' := 45) d3_44 rfl rfl ?_
    refine Go.callS (pc' := 48) (argsL := [(.ref o_906), (.int 1)]) (rest := [(.ref a)]) (W := 1) (own_w hw 52 rfl) (own_w hw 53 rfl) (own_w hw 47 rfl) (own_w hw 54 rfl) (by decide) (m_cl1_1 l Z a0 hw o_906 [.int l0, .int g0] h_905 n0 z_925 A_929 rfl) d3_45 rfl pd6 rfl rfl (Nat.le_of_eq rfl) (by decide) (by decide) (by decide) (by decide) rfl ?_
    rintro _ _ ⟨rfl, rfl⟩
    show Go _ _ _ _ _ _ _ _ _ _ _ _ h_905 (0 + 2 + 0) (0 + 3 + 0) 48 #[.val (.ref a), .val (.ref r), .val (.int 0), .val (.int 1), .val .null, .val (.ref o_906)] [(.int 1), (.ref a)]
    refine Go.putF (pc' := 51) (ty := .byte) (own_w hw 26 rfl) f_921 f_919 (Or.inr ⟨(own_w hw 22 rfl), rfl, rfl⟩) (own_w hw 7 rfl) (by decide) rfl rfl d3_48 hg rfl ?_
    intro h_967 W_968
    have f_969 : Exa Z h_967 a "java/lang/String" := Exa.wr W_968 f_919
    have f_970 : Ary Z h_967 r .char [(.int c0)] := f_922.sm (Sm.wr W_968 n_902.symm)
    have f_975 : Ary Z h_967 o_906 .byte [(.int l0), (.int g0)] := A_929.sm (Sm.wr W_968 n_911.symm)
    have t_976 : a < h_967.size := Nat.lt_of_lt_of_le t_923 (Nat.le_of_eq W_968.size.symm)
    have t_977 : r < h_967.size := Nat.lt_of_lt_of_le t_924 (Nat.le_of_eq W_968.size.symm)
    have t_978 : o_906 < h_967.size := Nat.lt_of_lt_of_le t_909 (Nat.le_of_eq W_968.size.symm)
    have z_979 : n0 ≤ h_967.size := Nat.le_trans z_925 (Nat.le_of_eq W_968.size.symm)
    have b_980 : h0.size ≤ h_967.size := Nat.le_trans b_926 (Nat.le_of_eq W_968.size.symm)
    have K_981 : Keep h0 h_967 [a] := K_927.wr W_968 (Or.inl (List.mem_of_getElem? (i := 0) rfl))
    have O_982 : Old Z n0 h_967 := O_928.wr W_968 hg
    have f_971 := Sta.ext O_982.2 hSCS
    have f_972 := Sta.ext O_982.2 hSAD
    have f_973 := Sta.ext O_982.2 hSHB
    have f_974 := Sta.ext O_982.2 hSLB
    have f_983 : Fld Z h_967 a "java/lang/String" "value" "[B" .null := Fld.other W_968 f_920 (Or.inr (slot_ne (Or.inr (own_w hw 21 rfl)) (Or.inr (own_w hw 22 rfl)) (by decide) (t := (.array .byte)) (t' := .byte) (by decide) (by decide)))
    have f_984 : Fld Z h_967 a "java/lang/String" "coder" "B" (.int 1) := Fld.same W_968 f_921
    refine Go.aloadN (pc' := 52) d3_51 rfl rfl rfl ?_
    refine Go.aload (pc' := 54) d3_52 rfl rfl rfl ?_
    refine Go.putF (pc' := 57) (ty := (.array .byte)) (own_w hw 25 rfl) f_983 f_969 (Or.inr ⟨(own_w hw 21 rfl), rfl, rfl⟩) (own_w hw 7 rfl) (by decide) rfl rfl d3_54 hg rfl ?_
    intro h_985 W_986
    have f_987 : Exa Z h_985 a "java/lang/String" := Exa.wr W_986 f_969
    have f_988 : Ary Z h_985 r .char [(.int c0)] := f_970.sm (Sm.wr W_986 n_902.symm)
    have f_989 : Ary Z h_985 o_906 .byte [(.int l0), (.int g0)] := f_975.sm (Sm.wr W_986 n_911.symm)
    have t_994 : a < h_985.size := Nat.lt_of_lt_of_le t_976 (Nat.le_of_eq W_986.size.symm)
    have t_995 : r < h_985.size := Nat.lt_of_lt_of_le t_977 (Nat.le_of_eq W_986.size.symm)
    have t_996 : o_906 < h_985.size := Nat.lt_of_lt_of_le t_978 (Nat.le_of_eq W_986.size.symm)
    have z_997 : n0 ≤ h_985.size := Nat.le_trans z_979 (Nat.le_of_eq W_986.size.symm)
    have b_998 : h0.size ≤ h_985.size := Nat.le_trans b_980 (Nat.le_of_eq W_986.size.symm)
    have K_999 : Keep h0 h_985 [a] := K_981.wr W_986 (Or.inl (List.mem_of_getElem? (i := 0) rfl))
    have O_1000 : Old Z n0 h_985 := O_982.wr W_986 hg
    have f_990 := Sta.ext O_1000.2 hSCS
    have f_991 := Sta.ext O_1000.2 hSAD
    have f_992 := Sta.ext O_1000.2 hSHB
    have f_993 := Sta.ext O_1000.2 hSLB
    have f_1001 : Fld Z h_985 a "java/lang/String" "value" "[B" (.ref o_906) := Fld.same W_986 f_983
    have f_1002 : Fld Z h_985 a "java/lang/String" "coder" "B" (.int 1) := Fld.other W_986 f_984 (Or.inr (slot_ne (Or.inr (own_w hw 22 rfl)) (Or.inr (own_w hw 21 rfl)) (by decide) (t := .byte) (t' := (.array .byte)) (by decide) (by decide)))
    exact Go.ret0 d3_57 rfl ⟨rfl, K_999, o_906, f_1001, t_996, Or.inr ⟨f_1002, l0, g0, f_989, e_930⟩⟩ (by decide) (by decide)
set_option maxRecDepth 65536 in
set_option maxHeartbeats 40000000 in
theorem m_s1_1 (l : Launch) (Z : State) (a0 : Array Value) (hw : ∀ d ∈ tables_1, d.before a0 Z = true) (a r : Addr) (c0 : Int32) (cs : Int32) (h0 : Heap) (n0 : Nat) (z0 : n0 ≤ h0.size) (hO : Old Z n0 h0) (hSCS : Sta Z Z.heap "java/lang/String" "COMPACT_STRINGS" "Z" (.int cs)) (hSAD : Sta Z Z.heap "java/lang/StringUTF16" "$assertionsDisabled" "Z" (.int 1)) (hSHB : Sta Z Z.heap "java/lang/StringUTF16" "HI_BYTE_SHIFT" "I" (.int 0)) (hSLB : Sta Z Z.heap "java/lang/StringUTF16" "LO_BYTE_SHIFT" "I" (.int 8)) (hcs : cs.toInt ≠ 0) (hE : Exa Z h0 a "java/lang/String") (hFV : Fld Z h0 a "java/lang/String" "value" "[B" .null) (hFC : Fld Z h0 a "java/lang/String" "coder" "B" (.int 0)) (hg : n0 ≤ a) (hR : Ary Z h0 r .char [.int c0]) (hc0 : 0 ≤ c0.toInt ∧ c0.toInt < 65536)  : Mt .n l Z (⟨"java/lang/String", "<init>", "([C)V"⟩ : MethodName) jdk_42_method_3_code 2 none ({ frames := 5, cells := 2, slots := 3, locals := 78 } : Room) n0 (fun v h => v = none ∧ Keep h0 h [a] ∧ ∃ o : Addr, Fld Z h a "java/lang/String" "value" "[B" (.ref o) ∧ o < h.size ∧ ((Fld Z h a "java/lang/String" "coder" "B" (.int 0) ∧ ∃ b0 : Int32, Ary Z h o .byte [.int b0] ∧ b0.toInt % 256 = c0.toInt) ∨ (Fld Z h a "java/lang/String" "coder" "B" (.int 1) ∧ ∃ l0 g0 : Int32, Ary Z h o .byte [.int l0, .int g0] ∧ l0.toInt % 256 + 256 * (g0.toInt % 256) = c0.toInt))) h0 #[(.ref a), (.ref r)] := by
  refine Mt.go (Ls := #[.val (.ref a), .val (.ref r)]) (by first | exact plainFor_of_name (by decide +kernel) | decide +kernel | (simp [plainFor]; done)) (fun m => by first | (simp [entryFrame, mkF, argsToLocals, Value.category]; done) | rfl) ?_
  show Go _ _ _ _ _ _ _ _ _ _ _ _ h0 0 0 0 #[.val (.ref a), .val (.ref r)] []
  have hTCS := Sta.ext hO.2 hSCS
  have hTAD := Sta.ext hO.2 hSAD
  have hTHB := Sta.ext hO.2 hSHB
  have hTLB := Sta.ext hO.2 hSLB
  have n_1003 : a ≠ r := by obtain ⟨_, Ag, -⟩ := hR; exact ne_arr hE (own_w hw 7 rfl) Ag
  refine Go.aloadN (pc' := 1) d2_0 rfl rfl rfl ?_
  refine Go.aloadN (pc' := 2) d2_1 rfl rfl rfl ?_
  refine Go.iconst (pc' := 3) (v := (0 : Int32)) d2_2 rfl rfl ?_
  refine Go.aloadN (pc' := 4) d2_3 rfl rfl rfl ?_
  refine Go.alen (pc' := 5) (z := (1 : Int32)) hR rfl d2_4 rfl ?_
  refine Go.aconstNull (pc' := 6) d2_5 rfl ?_
  refine Go.callN (pc' := 9) (argsL := [(.ref r), (.int 0), (.int 1), .null]) (rest := []) (W := 0) rfl (own_w hw 12 rfl) (own_w hw 13 rfl) (own_w hw 8 rfl) (own_w hw 15 rfl) (by decide) (m_s2_1 l Z a0 hw a r c0 cs h0 n0 z0 hO hSCS hSAD hSHB hSLB hcs hE hFV hFC hg hR hc0 ) d2_6 rfl pd7 rfl rfl (Nat.le_of_eq rfl) (by decide) (by decide) (by decide) (by decide) rfl ?_
  rintro _ h_1004 ⟨rfl, K, hs⟩
  have f_1009 : Exa Z h_1004 a "java/lang/String" := hE.keep K
  have f_1012 : Ary Z h_1004 r .char [(.int c0)] := hR.sm (Sm.keep K (ninS n_1003.symm nin0))
  have t_1013 : a < h_1004.size := Nat.lt_of_lt_of_le hE.lt K.1
  have t_1014 : r < h_1004.size := Nat.lt_of_lt_of_le hR.lt K.1
  have z_1015 : n0 ≤ h_1004.size := Nat.le_trans z0 K.1
  have b_1016 : h0.size ≤ h_1004.size := Nat.le_trans (Nat.le_refl _) K.1
  have K_1017 : Keep h0 h_1004 [a] := (Keep.refl _ _).trans K (allS (Or.inl (List.mem_of_getElem? (i := 0) rfl)) all0)
  have O_1018 : Old Z n0 h_1004 := hO.keep K (allS hg all0)
  have f_1005 := Sta.ext O_1018.2 hSCS
  have f_1006 := Sta.ext O_1018.2 hSAD
  have f_1007 := Sta.ext O_1018.2 hSHB
  have f_1008 := Sta.ext O_1018.2 hSLB
  show Go _ _ _ _ _ _ _ _ _ _ _ _ h_1004 (0 + 2) (0 + 3) 9 #[.val (.ref a), .val (.ref r)] []
  exact Go.ret0 d2_9 rfl ⟨rfl, K_1017, hs⟩ (by decide) (by decide)
set_option maxRecDepth 65536 in
set_option maxHeartbeats 40000000 in
theorem m_s2_2 (l : Launch) (Z : State) (a0 : Array Value) (hw : ∀ d ∈ tables_1, d.before a0 Z = true) (a r : Addr) (c0 c1 : Int32) (cs : Int32) (h0 : Heap) (n0 : Nat) (z0 : n0 ≤ h0.size) (hO : Old Z n0 h0) (hSCS : Sta Z Z.heap "java/lang/String" "COMPACT_STRINGS" "Z" (.int cs)) (hSAD : Sta Z Z.heap "java/lang/StringUTF16" "$assertionsDisabled" "Z" (.int 1)) (hSHB : Sta Z Z.heap "java/lang/StringUTF16" "HI_BYTE_SHIFT" "I" (.int 0)) (hSLB : Sta Z Z.heap "java/lang/StringUTF16" "LO_BYTE_SHIFT" "I" (.int 8)) (hcs : cs.toInt ≠ 0) (hE : Exa Z h0 a "java/lang/String") (hFV : Fld Z h0 a "java/lang/String" "value" "[B" .null) (hFC : Fld Z h0 a "java/lang/String" "coder" "B" (.int 0)) (hg : n0 ≤ a) (hR : Ary Z h0 r .char [.int c0, .int c1]) (hc0 : 0 ≤ c0.toInt ∧ c0.toInt < 65536) (hc1 : 0 ≤ c1.toInt ∧ c1.toInt < 65536)  : Mt .n l Z (⟨"java/lang/String", "<init>", "([CIILjava/lang/Void;)V"⟩ : MethodName) jdk_42_method_149_code 6 none ({ frames := 4, cells := 2, slots := 6, locals := 60 } : Room) n0 (fun v h => v = none ∧ Keep h0 h [a] ∧ ∃ o : Addr, Fld Z h a "java/lang/String" "value" "[B" (.ref o) ∧ o < h.size ∧ ((Fld Z h a "java/lang/String" "coder" "B" (.int 0) ∧ ∃ b0 b1 : Int32, Ary Z h o .byte [.int b0, .int b1] ∧ b0.toInt % 256 = c0.toInt ∧ b1.toInt % 256 = c1.toInt) ∨ (Fld Z h a "java/lang/String" "coder" "B" (.int 1) ∧ ∃ l0 g0 l1 g1 : Int32, Ary Z h o .byte [.int l0, .int g0, .int l1, .int g1] ∧ l0.toInt % 256 + 256 * (g0.toInt % 256) = c0.toInt ∧ l1.toInt % 256 + 256 * (g1.toInt % 256) = c1.toInt))) h0 #[(.ref a), (.ref r), (.int 0), (.int 2), .null] := by
  refine Mt.go (Ls := #[.val (.ref a), .val (.ref r), .val (.int 0), .val (.int 2), .val .null, .unset]) (by first | exact plainFor_of_name (by decide +kernel) | decide +kernel | (simp [plainFor]; done)) (fun m => by first | (simp [entryFrame, mkF, argsToLocals, Value.category]; done) | rfl) ?_
  show Go _ _ _ _ _ _ _ _ _ _ _ _ h0 0 0 0 #[.val (.ref a), .val (.ref r), .val (.int 0), .val (.int 2), .val .null, .unset] []
  have hTCS := Sta.ext hO.2 hSCS
  have hTAD := Sta.ext hO.2 hSAD
  have hTHB := Sta.ext hO.2 hSHB
  have hTLB := Sta.ext hO.2 hSLB
  have n_1019 : a ≠ r := by obtain ⟨_, Ag, -⟩ := hR; exact ne_arr hE (own_w hw 7 rfl) Ag
  refine Go.aloadN (pc' := 1) d3_0 rfl rfl rfl ?_
  refine Go.initO (pc' := 4) (W := 0) (own_w hw 16 rfl) (own_w hw 17 rfl) (own_w hw 18 rfl) d3_1 rfl (by decide) (Nat.le_of_eq rfl) (by decide) rfl ?_
  refine Go.iloadN (pc' := 5) d3_4 rfl rfl ?_
  refine Go.ifc (pc1 := 27) (pc2 := 8) d3_5 (by decide) (by decide) rfl (fun (c_1020 : (2 : Int) ≠ 0) => ?_) (fun (c_1020 : (2 : Int) = 0) => ?_)
  rotate_left
  · exact absurd c_1020 (by decide)
  refine Go.getS (pc' := 30) (own_w hw 44 rfl) hTCS d3_27 rfl ?_
  refine Go.ifc (pc1 := 58) (pc2 := 33) d3_30 (by decide) (by decide) rfl (fun (c_1021 : cs.toInt = 0) => ?_) (fun (c_1021 : cs.toInt ≠ 0) => ?_)
  · exact absurd c_1021 hcs
  refine Go.aloadN (pc' := 34) d3_33 rfl rfl rfl ?_
  refine Go.iloadN (pc' := 35) d3_34 rfl rfl ?_
  refine Go.iloadN (pc' := 36) d3_35 rfl rfl ?_
  refine Go.callS (pc' := 39) (argsL := [(.ref r), (.int 0), (.int 2)]) (rest := []) (W := 0) (own_w hw 45 rfl) (own_w hw 46 rfl) (own_w hw 47 rfl) (own_w hw 48 rfl) (by decide) (m_c3_2 l Z a0 hw r c0 c1 h0 n0 z0 hO hSAD hSHB hSLB hR hc0 hc1 ) d3_36 rfl pd4 rfl rfl (Nat.le_of_eq rfl) (by decide) (by decide) (by decide) (by decide) rfl ?_
  rintro _ h_1022 ⟨o_1023, rfl, K_1024, q_1025, t_1026, ho_1027⟩
  have n_1028 : a ≠ o_1023 := Nat.ne_of_lt (Nat.lt_of_lt_of_le hE.lt q_1025)
  have n_1029 : r ≠ o_1023 := Nat.ne_of_lt (Nat.lt_of_lt_of_le hR.lt q_1025)
  have g_1030 : n0 ≤ o_1023 := Nat.le_trans z0 q_1025
  have g_1031 : h0.size ≤ o_1023 := Nat.le_trans (Nat.le_refl _) q_1025
  have f_1036 : Exa Z h_1022 a "java/lang/String" := hE.sm (Sm.keep K_1024 nin0)
  have f_1037 : Fld Z h_1022 a "java/lang/String" "value" "[B" .null := hFV.sm (Sm.keep K_1024 nin0)
  have f_1038 : Fld Z h_1022 a "java/lang/String" "coder" "B" (.int 0) := hFC.sm (Sm.keep K_1024 nin0)
  have f_1039 : Ary Z h_1022 r .char [(.int c0), (.int c1)] := hR.sm (Sm.keep K_1024 nin0)
  have t_1040 : a < h_1022.size := Nat.lt_of_lt_of_le hE.lt K_1024.1
  have t_1041 : r < h_1022.size := Nat.lt_of_lt_of_le hR.lt K_1024.1
  have z_1042 : n0 ≤ h_1022.size := Nat.le_trans z0 K_1024.1
  have b_1043 : h0.size ≤ h_1022.size := Nat.le_trans (Nat.le_refl _) K_1024.1
  have K_1044 : Keep h0 h_1022 [a] := (Keep.refl _ _).trans K_1024 all0
  have O_1045 : Old Z n0 h_1022 := hO.keep K_1024 all0
  have f_1032 := Sta.ext O_1045.2 hSCS
  have f_1033 := Sta.ext O_1045.2 hSAD
  have f_1034 := Sta.ext O_1045.2 hSHB
  have f_1035 := Sta.ext O_1045.2 hSLB
  show Go _ _ _ _ _ _ _ _ _ _ _ _ h_1022 (0 + 2) (0 + 6) 39 #[.val (.ref a), .val (.ref r), .val (.int 0), .val (.int 2), .val .null, .unset] [(.ref o_1023)]
  rcases ho_1027 with ⟨b0, b1, A_1046, e_1047, e_1048⟩ | ⟨l0, g0, l1, g1, A_1046, e_1047, e_1048⟩
  · refine Go.astore (pc' := 41) (Ls' := #[.val (.ref a), .val (.ref r), .val (.int 0), .val (.int 2), .val .null, .val (.ref o_1023)]) d3_39 rfl rfl rfl ?_
    refine Go.aloadN (pc' := 42) d3_41 rfl rfl rfl ?_
    refine Go.aload (pc' := 44) d3_42 rfl rfl rfl ?_
    refine Go.iloadN (pc' := 45) d3_44 rfl rfl ?_
    refine Go.callS (pc' := 48) (argsL := [(.ref o_1023), (.int 2)]) (rest := [(.ref a)]) (W := 1) (own_w hw 52 rfl) (own_w hw 53 rfl) (own_w hw 47 rfl) (own_w hw 54 rfl) (by decide) (m_cl2_0 l Z a0 hw o_1023 [.int b0, .int b1] h_1022 n0 z_1042 A_1046 rfl) d3_45 rfl pd6 rfl rfl (Nat.le_of_eq rfl) (by decide) (by decide) (by decide) (by decide) rfl ?_
    rintro _ _ ⟨rfl, rfl⟩
    show Go _ _ _ _ _ _ _ _ _ _ _ _ h_1022 (0 + 2 + 0) (0 + 6 + 0) 48 #[.val (.ref a), .val (.ref r), .val (.int 0), .val (.int 2), .val .null, .val (.ref o_1023)] [(.int 0), (.ref a)]
    refine Go.putF (pc' := 51) (ty := .byte) (own_w hw 26 rfl) f_1038 f_1036 (Or.inr ⟨(own_w hw 22 rfl), rfl, rfl⟩) (own_w hw 7 rfl) (by decide) rfl rfl d3_48 hg rfl ?_
    intro h_1049 W_1050
    have f_1051 : Exa Z h_1049 a "java/lang/String" := Exa.wr W_1050 f_1036
    have f_1052 : Ary Z h_1049 r .char [(.int c0), (.int c1)] := f_1039.sm (Sm.wr W_1050 n_1019.symm)
    have f_1057 : Ary Z h_1049 o_1023 .byte [(.int b0), (.int b1)] := A_1046.sm (Sm.wr W_1050 n_1028.symm)
    have t_1058 : a < h_1049.size := Nat.lt_of_lt_of_le t_1040 (Nat.le_of_eq W_1050.size.symm)
    have t_1059 : r < h_1049.size := Nat.lt_of_lt_of_le t_1041 (Nat.le_of_eq W_1050.size.symm)
    have t_1060 : o_1023 < h_1049.size := Nat.lt_of_lt_of_le t_1026 (Nat.le_of_eq W_1050.size.symm)
    have z_1061 : n0 ≤ h_1049.size := Nat.le_trans z_1042 (Nat.le_of_eq W_1050.size.symm)
    have b_1062 : h0.size ≤ h_1049.size := Nat.le_trans b_1043 (Nat.le_of_eq W_1050.size.symm)
    have K_1063 : Keep h0 h_1049 [a] := K_1044.wr W_1050 (Or.inl (List.mem_of_getElem? (i := 0) rfl))
    have O_1064 : Old Z n0 h_1049 := O_1045.wr W_1050 hg
    have f_1053 := Sta.ext O_1064.2 hSCS
    have f_1054 := Sta.ext O_1064.2 hSAD
    have f_1055 := Sta.ext O_1064.2 hSHB
    have f_1056 := Sta.ext O_1064.2 hSLB
    have f_1065 : Fld Z h_1049 a "java/lang/String" "value" "[B" .null := Fld.other W_1050 f_1037 (Or.inr (slot_ne (Or.inr (own_w hw 21 rfl)) (Or.inr (own_w hw 22 rfl)) (by decide) (t := (.array .byte)) (t' := .byte) (by decide) (by decide)))
    have f_1066 : Fld Z h_1049 a "java/lang/String" "coder" "B" (.int 0) := Fld.same W_1050 f_1038
    refine Go.aloadN (pc' := 52) d3_51 rfl rfl rfl ?_
    refine Go.aload (pc' := 54) d3_52 rfl rfl rfl ?_
    refine Go.putF (pc' := 57) (ty := (.array .byte)) (own_w hw 25 rfl) f_1065 f_1051 (Or.inr ⟨(own_w hw 21 rfl), rfl, rfl⟩) (own_w hw 7 rfl) (by decide) rfl rfl d3_54 hg rfl ?_
    intro h_1067 W_1068
    have f_1069 : Exa Z h_1067 a "java/lang/String" := Exa.wr W_1068 f_1051
    have f_1070 : Ary Z h_1067 r .char [(.int c0), (.int c1)] := f_1052.sm (Sm.wr W_1068 n_1019.symm)
    have f_1071 : Ary Z h_1067 o_1023 .byte [(.int b0), (.int b1)] := f_1057.sm (Sm.wr W_1068 n_1028.symm)
    have t_1076 : a < h_1067.size := Nat.lt_of_lt_of_le t_1058 (Nat.le_of_eq W_1068.size.symm)
    have t_1077 : r < h_1067.size := Nat.lt_of_lt_of_le t_1059 (Nat.le_of_eq W_1068.size.symm)
    have t_1078 : o_1023 < h_1067.size := Nat.lt_of_lt_of_le t_1060 (Nat.le_of_eq W_1068.size.symm)
    have z_1079 : n0 ≤ h_1067.size := Nat.le_trans z_1061 (Nat.le_of_eq W_1068.size.symm)
    have b_1080 : h0.size ≤ h_1067.size := Nat.le_trans b_1062 (Nat.le_of_eq W_1068.size.symm)
    have K_1081 : Keep h0 h_1067 [a] := K_1063.wr W_1068 (Or.inl (List.mem_of_getElem? (i := 0) rfl))
    have O_1082 : Old Z n0 h_1067 := O_1064.wr W_1068 hg
    have f_1072 := Sta.ext O_1082.2 hSCS
    have f_1073 := Sta.ext O_1082.2 hSAD
    have f_1074 := Sta.ext O_1082.2 hSHB
    have f_1075 := Sta.ext O_1082.2 hSLB
    have f_1083 : Fld Z h_1067 a "java/lang/String" "value" "[B" (.ref o_1023) := Fld.same W_1068 f_1065
    have f_1084 : Fld Z h_1067 a "java/lang/String" "coder" "B" (.int 0) := Fld.other W_1068 f_1066 (Or.inr (slot_ne (Or.inr (own_w hw 22 rfl)) (Or.inr (own_w hw 21 rfl)) (by decide) (t := .byte) (t' := (.array .byte)) (by decide) (by decide)))
    exact Go.ret0 d3_57 rfl ⟨rfl, K_1081, o_1023, f_1083, t_1078, Or.inl ⟨f_1084, b0, b1, f_1071, e_1047, e_1048⟩⟩ (by decide) (by decide)
  · refine Go.astore (pc' := 41) (Ls' := #[.val (.ref a), .val (.ref r), .val (.int 0), .val (.int 2), .val .null, .val (.ref o_1023)]) d3_39 rfl rfl rfl ?_
    refine Go.aloadN (pc' := 42) d3_41 rfl rfl rfl ?_
    refine Go.aload (pc' := 44) d3_42 rfl rfl rfl ?_
    refine Go.iloadN (pc' := 45) d3_44 rfl rfl ?_
    refine Go.callS (pc' := 48) (argsL := [(.ref o_1023), (.int 2)]) (rest := [(.ref a)]) (W := 1) (own_w hw 52 rfl) (own_w hw 53 rfl) (own_w hw 47 rfl) (own_w hw 54 rfl) (by decide) (m_cl2_1 l Z a0 hw o_1023 [.int l0, .int g0, .int l1, .int g1] h_1022 n0 z_1042 A_1046 rfl) d3_45 rfl pd6 rfl rfl (Nat.le_of_eq rfl) (by decide) (by decide) (by decide) (by decide) rfl ?_
    rintro _ _ ⟨rfl, rfl⟩
    show Go _ _ _ _ _ _ _ _ _ _ _ _ h_1022 (0 + 2 + 0) (0 + 6 + 0) 48 #[.val (.ref a), .val (.ref r), .val (.int 0), .val (.int 2), .val .null, .val (.ref o_1023)] [(.int 1), (.ref a)]
    refine Go.putF (pc' := 51) (ty := .byte) (own_w hw 26 rfl) f_1038 f_1036 (Or.inr ⟨(own_w hw 22 rfl), rfl, rfl⟩) (own_w hw 7 rfl) (by decide) rfl rfl d3_48 hg rfl ?_
    intro h_1085 W_1086
    have f_1087 : Exa Z h_1085 a "java/lang/String" := Exa.wr W_1086 f_1036
    have f_1088 : Ary Z h_1085 r .char [(.int c0), (.int c1)] := f_1039.sm (Sm.wr W_1086 n_1019.symm)
    have f_1093 : Ary Z h_1085 o_1023 .byte [(.int l0), (.int g0), (.int l1), (.int g1)] := A_1046.sm (Sm.wr W_1086 n_1028.symm)
    have t_1094 : a < h_1085.size := Nat.lt_of_lt_of_le t_1040 (Nat.le_of_eq W_1086.size.symm)
    have t_1095 : r < h_1085.size := Nat.lt_of_lt_of_le t_1041 (Nat.le_of_eq W_1086.size.symm)
    have t_1096 : o_1023 < h_1085.size := Nat.lt_of_lt_of_le t_1026 (Nat.le_of_eq W_1086.size.symm)
    have z_1097 : n0 ≤ h_1085.size := Nat.le_trans z_1042 (Nat.le_of_eq W_1086.size.symm)
    have b_1098 : h0.size ≤ h_1085.size := Nat.le_trans b_1043 (Nat.le_of_eq W_1086.size.symm)
    have K_1099 : Keep h0 h_1085 [a] := K_1044.wr W_1086 (Or.inl (List.mem_of_getElem? (i := 0) rfl))
    have O_1100 : Old Z n0 h_1085 := O_1045.wr W_1086 hg
    have f_1089 := Sta.ext O_1100.2 hSCS
    have f_1090 := Sta.ext O_1100.2 hSAD
    have f_1091 := Sta.ext O_1100.2 hSHB
    have f_1092 := Sta.ext O_1100.2 hSLB
    have f_1101 : Fld Z h_1085 a "java/lang/String" "value" "[B" .null := Fld.other W_1086 f_1037 (Or.inr (slot_ne (Or.inr (own_w hw 21 rfl)) (Or.inr (own_w hw 22 rfl)) (by decide) (t := (.array .byte)) (t' := .byte) (by decide) (by decide)))
    have f_1102 : Fld Z h_1085 a "java/lang/String" "coder" "B" (.int 1) := Fld.same W_1086 f_1038
    refine Go.aloadN (pc' := 52) d3_51 rfl rfl rfl ?_
    refine Go.aload (pc' := 54) d3_52 rfl rfl rfl ?_
    refine Go.putF (pc' := 57) (ty := (.array .byte)) (own_w hw 25 rfl) f_1101 f_1087 (Or.inr ⟨(own_w hw 21 rfl), rfl, rfl⟩) (own_w hw 7 rfl) (by decide) rfl rfl d3_54 hg rfl ?_
    intro h_1103 W_1104
    have f_1105 : Exa Z h_1103 a "java/lang/String" := Exa.wr W_1104 f_1087
    have f_1106 : Ary Z h_1103 r .char [(.int c0), (.int c1)] := f_1088.sm (Sm.wr W_1104 n_1019.symm)
    have f_1107 : Ary Z h_1103 o_1023 .byte [(.int l0), (.int g0), (.int l1), (.int g1)] := f_1093.sm (Sm.wr W_1104 n_1028.symm)
    have t_1112 : a < h_1103.size := Nat.lt_of_lt_of_le t_1094 (Nat.le_of_eq W_1104.size.symm)
    have t_1113 : r < h_1103.size := Nat.lt_of_lt_of_le t_1095 (Nat.le_of_eq W_1104.size.symm)
    have t_1114 : o_1023 < h_1103.size := Nat.lt_of_lt_of_le t_1096 (Nat.le_of_eq W_1104.size.symm)
    have z_1115 : n0 ≤ h_1103.size := Nat.le_trans z_1097 (Nat.le_of_eq W_1104.size.symm)
    have b_1116 : h0.size ≤ h_1103.size := Nat.le_trans b_1098 (Nat.le_of_eq W_1104.size.symm)
    have K_1117 : Keep h0 h_1103 [a] := K_1099.wr W_1104 (Or.inl (List.mem_of_getElem? (i := 0) rfl))
    have O_1118 : Old Z n0 h_1103 := O_1100.wr W_1104 hg
    have f_1108 := Sta.ext O_1118.2 hSCS
    have f_1109 := Sta.ext O_1118.2 hSAD
    have f_1110 := Sta.ext O_1118.2 hSHB
    have f_1111 := Sta.ext O_1118.2 hSLB
    have f_1119 : Fld Z h_1103 a "java/lang/String" "value" "[B" (.ref o_1023) := Fld.same W_1104 f_1101
    have f_1120 : Fld Z h_1103 a "java/lang/String" "coder" "B" (.int 1) := Fld.other W_1104 f_1102 (Or.inr (slot_ne (Or.inr (own_w hw 22 rfl)) (Or.inr (own_w hw 21 rfl)) (by decide) (t := .byte) (t' := (.array .byte)) (by decide) (by decide)))
    exact Go.ret0 d3_57 rfl ⟨rfl, K_1117, o_1023, f_1119, t_1114, Or.inr ⟨f_1120, l0, g0, l1, g1, f_1107, e_1047, e_1048⟩⟩ (by decide) (by decide)
set_option maxRecDepth 65536 in
set_option maxHeartbeats 40000000 in
theorem m_s1_2 (l : Launch) (Z : State) (a0 : Array Value) (hw : ∀ d ∈ tables_1, d.before a0 Z = true) (a r : Addr) (c0 c1 : Int32) (cs : Int32) (h0 : Heap) (n0 : Nat) (z0 : n0 ≤ h0.size) (hO : Old Z n0 h0) (hSCS : Sta Z Z.heap "java/lang/String" "COMPACT_STRINGS" "Z" (.int cs)) (hSAD : Sta Z Z.heap "java/lang/StringUTF16" "$assertionsDisabled" "Z" (.int 1)) (hSHB : Sta Z Z.heap "java/lang/StringUTF16" "HI_BYTE_SHIFT" "I" (.int 0)) (hSLB : Sta Z Z.heap "java/lang/StringUTF16" "LO_BYTE_SHIFT" "I" (.int 8)) (hcs : cs.toInt ≠ 0) (hE : Exa Z h0 a "java/lang/String") (hFV : Fld Z h0 a "java/lang/String" "value" "[B" .null) (hFC : Fld Z h0 a "java/lang/String" "coder" "B" (.int 0)) (hg : n0 ≤ a) (hR : Ary Z h0 r .char [.int c0, .int c1]) (hc0 : 0 ≤ c0.toInt ∧ c0.toInt < 65536) (hc1 : 0 ≤ c1.toInt ∧ c1.toInt < 65536)  : Mt .n l Z (⟨"java/lang/String", "<init>", "([C)V"⟩ : MethodName) jdk_42_method_3_code 2 none ({ frames := 5, cells := 2, slots := 6, locals := 78 } : Room) n0 (fun v h => v = none ∧ Keep h0 h [a] ∧ ∃ o : Addr, Fld Z h a "java/lang/String" "value" "[B" (.ref o) ∧ o < h.size ∧ ((Fld Z h a "java/lang/String" "coder" "B" (.int 0) ∧ ∃ b0 b1 : Int32, Ary Z h o .byte [.int b0, .int b1] ∧ b0.toInt % 256 = c0.toInt ∧ b1.toInt % 256 = c1.toInt) ∨ (Fld Z h a "java/lang/String" "coder" "B" (.int 1) ∧ ∃ l0 g0 l1 g1 : Int32, Ary Z h o .byte [.int l0, .int g0, .int l1, .int g1] ∧ l0.toInt % 256 + 256 * (g0.toInt % 256) = c0.toInt ∧ l1.toInt % 256 + 256 * (g1.toInt % 256) = c1.toInt))) h0 #[(.ref a), (.ref r)] := by
  refine Mt.go (Ls := #[.val (.ref a), .val (.ref r)]) (by first | exact plainFor_of_name (by decide +kernel) | decide +kernel | (simp [plainFor]; done)) (fun m => by first | (simp [entryFrame, mkF, argsToLocals, Value.category]; done) | rfl) ?_
  show Go _ _ _ _ _ _ _ _ _ _ _ _ h0 0 0 0 #[.val (.ref a), .val (.ref r)] []
  have hTCS := Sta.ext hO.2 hSCS
  have hTAD := Sta.ext hO.2 hSAD
  have hTHB := Sta.ext hO.2 hSHB
  have hTLB := Sta.ext hO.2 hSLB
  have n_1121 : a ≠ r := by obtain ⟨_, Ag, -⟩ := hR; exact ne_arr hE (own_w hw 7 rfl) Ag
  refine Go.aloadN (pc' := 1) d2_0 rfl rfl rfl ?_
  refine Go.aloadN (pc' := 2) d2_1 rfl rfl rfl ?_
  refine Go.iconst (pc' := 3) (v := (0 : Int32)) d2_2 rfl rfl ?_
  refine Go.aloadN (pc' := 4) d2_3 rfl rfl rfl ?_
  refine Go.alen (pc' := 5) (z := (2 : Int32)) hR rfl d2_4 rfl ?_
  refine Go.aconstNull (pc' := 6) d2_5 rfl ?_
  refine Go.callN (pc' := 9) (argsL := [(.ref r), (.int 0), (.int 2), .null]) (rest := []) (W := 0) rfl (own_w hw 12 rfl) (own_w hw 13 rfl) (own_w hw 8 rfl) (own_w hw 15 rfl) (by decide) (m_s2_2 l Z a0 hw a r c0 c1 cs h0 n0 z0 hO hSCS hSAD hSHB hSLB hcs hE hFV hFC hg hR hc0 hc1 ) d2_6 rfl pd7 rfl rfl (Nat.le_of_eq rfl) (by decide) (by decide) (by decide) (by decide) rfl ?_
  rintro _ h_1122 ⟨rfl, K, hs⟩
  have f_1127 : Exa Z h_1122 a "java/lang/String" := hE.keep K
  have f_1130 : Ary Z h_1122 r .char [(.int c0), (.int c1)] := hR.sm (Sm.keep K (ninS n_1121.symm nin0))
  have t_1131 : a < h_1122.size := Nat.lt_of_lt_of_le hE.lt K.1
  have t_1132 : r < h_1122.size := Nat.lt_of_lt_of_le hR.lt K.1
  have z_1133 : n0 ≤ h_1122.size := Nat.le_trans z0 K.1
  have b_1134 : h0.size ≤ h_1122.size := Nat.le_trans (Nat.le_refl _) K.1
  have K_1135 : Keep h0 h_1122 [a] := (Keep.refl _ _).trans K (allS (Or.inl (List.mem_of_getElem? (i := 0) rfl)) all0)
  have O_1136 : Old Z n0 h_1122 := hO.keep K (allS hg all0)
  have f_1123 := Sta.ext O_1136.2 hSCS
  have f_1124 := Sta.ext O_1136.2 hSAD
  have f_1125 := Sta.ext O_1136.2 hSHB
  have f_1126 := Sta.ext O_1136.2 hSLB
  show Go _ _ _ _ _ _ _ _ _ _ _ _ h_1122 (0 + 2) (0 + 6) 9 #[.val (.ref a), .val (.ref r)] []
  exact Go.ret0 d2_9 rfl ⟨rfl, K_1135, hs⟩ (by decide) (by decide)
set_option maxRecDepth 65536 in
set_option maxHeartbeats 40000000 in
theorem m_s2_3 (l : Launch) (Z : State) (a0 : Array Value) (hw : ∀ d ∈ tables_1, d.before a0 Z = true) (a r : Addr) (c0 c1 c2 : Int32) (cs : Int32) (h0 : Heap) (n0 : Nat) (z0 : n0 ≤ h0.size) (hO : Old Z n0 h0) (hSCS : Sta Z Z.heap "java/lang/String" "COMPACT_STRINGS" "Z" (.int cs)) (hSAD : Sta Z Z.heap "java/lang/StringUTF16" "$assertionsDisabled" "Z" (.int 1)) (hSHB : Sta Z Z.heap "java/lang/StringUTF16" "HI_BYTE_SHIFT" "I" (.int 0)) (hSLB : Sta Z Z.heap "java/lang/StringUTF16" "LO_BYTE_SHIFT" "I" (.int 8)) (hcs : cs.toInt ≠ 0) (hE : Exa Z h0 a "java/lang/String") (hFV : Fld Z h0 a "java/lang/String" "value" "[B" .null) (hFC : Fld Z h0 a "java/lang/String" "coder" "B" (.int 0)) (hg : n0 ≤ a) (hR : Ary Z h0 r .char [.int c0, .int c1, .int c2]) (hc0 : 0 ≤ c0.toInt ∧ c0.toInt < 65536) (hc1 : 0 ≤ c1.toInt ∧ c1.toInt < 65536) (hc2 : 0 ≤ c2.toInt ∧ c2.toInt < 65536)  : Mt .n l Z (⟨"java/lang/String", "<init>", "([CIILjava/lang/Void;)V"⟩ : MethodName) jdk_42_method_149_code 6 none ({ frames := 4, cells := 2, slots := 9, locals := 60 } : Room) n0 (fun v h => v = none ∧ Keep h0 h [a] ∧ ∃ o : Addr, Fld Z h a "java/lang/String" "value" "[B" (.ref o) ∧ o < h.size ∧ ((Fld Z h a "java/lang/String" "coder" "B" (.int 0) ∧ ∃ b0 b1 b2 : Int32, Ary Z h o .byte [.int b0, .int b1, .int b2] ∧ b0.toInt % 256 = c0.toInt ∧ b1.toInt % 256 = c1.toInt ∧ b2.toInt % 256 = c2.toInt) ∨ (Fld Z h a "java/lang/String" "coder" "B" (.int 1) ∧ ∃ l0 g0 l1 g1 l2 g2 : Int32, Ary Z h o .byte [.int l0, .int g0, .int l1, .int g1, .int l2, .int g2] ∧ l0.toInt % 256 + 256 * (g0.toInt % 256) = c0.toInt ∧ l1.toInt % 256 + 256 * (g1.toInt % 256) = c1.toInt ∧ l2.toInt % 256 + 256 * (g2.toInt % 256) = c2.toInt))) h0 #[(.ref a), (.ref r), (.int 0), (.int 3), .null] := by
  refine Mt.go (Ls := #[.val (.ref a), .val (.ref r), .val (.int 0), .val (.int 3), .val .null, .unset]) (by first | exact plainFor_of_name (by decide +kernel) | decide +kernel | (simp [plainFor]; done)) (fun m => by first | (simp [entryFrame, mkF, argsToLocals, Value.category]; done) | rfl) ?_
  show Go _ _ _ _ _ _ _ _ _ _ _ _ h0 0 0 0 #[.val (.ref a), .val (.ref r), .val (.int 0), .val (.int 3), .val .null, .unset] []
  have hTCS := Sta.ext hO.2 hSCS
  have hTAD := Sta.ext hO.2 hSAD
  have hTHB := Sta.ext hO.2 hSHB
  have hTLB := Sta.ext hO.2 hSLB
  have n_1137 : a ≠ r := by obtain ⟨_, Ag, -⟩ := hR; exact ne_arr hE (own_w hw 7 rfl) Ag
  refine Go.aloadN (pc' := 1) d3_0 rfl rfl rfl ?_
  refine Go.initO (pc' := 4) (W := 0) (own_w hw 16 rfl) (own_w hw 17 rfl) (own_w hw 18 rfl) d3_1 rfl (by decide) (Nat.le_of_eq rfl) (by decide) rfl ?_
  refine Go.iloadN (pc' := 5) d3_4 rfl rfl ?_
  refine Go.ifc (pc1 := 27) (pc2 := 8) d3_5 (by decide) (by decide) rfl (fun (c_1138 : (3 : Int) ≠ 0) => ?_) (fun (c_1138 : (3 : Int) = 0) => ?_)
  rotate_left
  · exact absurd c_1138 (by decide)
  refine Go.getS (pc' := 30) (own_w hw 44 rfl) hTCS d3_27 rfl ?_
  refine Go.ifc (pc1 := 58) (pc2 := 33) d3_30 (by decide) (by decide) rfl (fun (c_1139 : cs.toInt = 0) => ?_) (fun (c_1139 : cs.toInt ≠ 0) => ?_)
  · exact absurd c_1139 hcs
  refine Go.aloadN (pc' := 34) d3_33 rfl rfl rfl ?_
  refine Go.iloadN (pc' := 35) d3_34 rfl rfl ?_
  refine Go.iloadN (pc' := 36) d3_35 rfl rfl ?_
  refine Go.callS (pc' := 39) (argsL := [(.ref r), (.int 0), (.int 3)]) (rest := []) (W := 0) (own_w hw 45 rfl) (own_w hw 46 rfl) (own_w hw 47 rfl) (own_w hw 48 rfl) (by decide) (m_c3_3 l Z a0 hw r c0 c1 c2 h0 n0 z0 hO hSAD hSHB hSLB hR hc0 hc1 hc2 ) d3_36 rfl pd4 rfl rfl (Nat.le_of_eq rfl) (by decide) (by decide) (by decide) (by decide) rfl ?_
  rintro _ h_1140 ⟨o_1141, rfl, K_1142, q_1143, t_1144, ho_1145⟩
  have n_1146 : a ≠ o_1141 := Nat.ne_of_lt (Nat.lt_of_lt_of_le hE.lt q_1143)
  have n_1147 : r ≠ o_1141 := Nat.ne_of_lt (Nat.lt_of_lt_of_le hR.lt q_1143)
  have g_1148 : n0 ≤ o_1141 := Nat.le_trans z0 q_1143
  have g_1149 : h0.size ≤ o_1141 := Nat.le_trans (Nat.le_refl _) q_1143
  have f_1154 : Exa Z h_1140 a "java/lang/String" := hE.sm (Sm.keep K_1142 nin0)
  have f_1155 : Fld Z h_1140 a "java/lang/String" "value" "[B" .null := hFV.sm (Sm.keep K_1142 nin0)
  have f_1156 : Fld Z h_1140 a "java/lang/String" "coder" "B" (.int 0) := hFC.sm (Sm.keep K_1142 nin0)
  have f_1157 : Ary Z h_1140 r .char [(.int c0), (.int c1), (.int c2)] := hR.sm (Sm.keep K_1142 nin0)
  have t_1158 : a < h_1140.size := Nat.lt_of_lt_of_le hE.lt K_1142.1
  have t_1159 : r < h_1140.size := Nat.lt_of_lt_of_le hR.lt K_1142.1
  have z_1160 : n0 ≤ h_1140.size := Nat.le_trans z0 K_1142.1
  have b_1161 : h0.size ≤ h_1140.size := Nat.le_trans (Nat.le_refl _) K_1142.1
  have K_1162 : Keep h0 h_1140 [a] := (Keep.refl _ _).trans K_1142 all0
  have O_1163 : Old Z n0 h_1140 := hO.keep K_1142 all0
  have f_1150 := Sta.ext O_1163.2 hSCS
  have f_1151 := Sta.ext O_1163.2 hSAD
  have f_1152 := Sta.ext O_1163.2 hSHB
  have f_1153 := Sta.ext O_1163.2 hSLB
  show Go _ _ _ _ _ _ _ _ _ _ _ _ h_1140 (0 + 2) (0 + 9) 39 #[.val (.ref a), .val (.ref r), .val (.int 0), .val (.int 3), .val .null, .unset] [(.ref o_1141)]
  rcases ho_1145 with ⟨b0, b1, b2, A_1164, e_1165, e_1166, e_1167⟩ | ⟨l0, g0, l1, g1, l2, g2, A_1164, e_1165, e_1166, e_1167⟩
  · refine Go.astore (pc' := 41) (Ls' := #[.val (.ref a), .val (.ref r), .val (.int 0), .val (.int 3), .val .null, .val (.ref o_1141)]) d3_39 rfl rfl rfl ?_
    refine Go.aloadN (pc' := 42) d3_41 rfl rfl rfl ?_
    refine Go.aload (pc' := 44) d3_42 rfl rfl rfl ?_
    refine Go.iloadN (pc' := 45) d3_44 rfl rfl ?_
    refine Go.callS (pc' := 48) (argsL := [(.ref o_1141), (.int 3)]) (rest := [(.ref a)]) (W := 1) (own_w hw 52 rfl) (own_w hw 53 rfl) (own_w hw 47 rfl) (own_w hw 54 rfl) (by decide) (m_cl3_0 l Z a0 hw o_1141 [.int b0, .int b1, .int b2] h_1140 n0 z_1160 A_1164 rfl) d3_45 rfl pd6 rfl rfl (Nat.le_of_eq rfl) (by decide) (by decide) (by decide) (by decide) rfl ?_
    rintro _ _ ⟨rfl, rfl⟩
    show Go _ _ _ _ _ _ _ _ _ _ _ _ h_1140 (0 + 2 + 0) (0 + 9 + 0) 48 #[.val (.ref a), .val (.ref r), .val (.int 0), .val (.int 3), .val .null, .val (.ref o_1141)] [(.int 0), (.ref a)]
    refine Go.putF (pc' := 51) (ty := .byte) (own_w hw 26 rfl) f_1156 f_1154 (Or.inr ⟨(own_w hw 22 rfl), rfl, rfl⟩) (own_w hw 7 rfl) (by decide) rfl rfl d3_48 hg rfl ?_
    intro h_1168 W_1169
    have f_1170 : Exa Z h_1168 a "java/lang/String" := Exa.wr W_1169 f_1154
    have f_1171 : Ary Z h_1168 r .char [(.int c0), (.int c1), (.int c2)] := f_1157.sm (Sm.wr W_1169 n_1137.symm)
    have f_1176 : Ary Z h_1168 o_1141 .byte [(.int b0), (.int b1), (.int b2)] := A_1164.sm (Sm.wr W_1169 n_1146.symm)
    have t_1177 : a < h_1168.size := Nat.lt_of_lt_of_le t_1158 (Nat.le_of_eq W_1169.size.symm)
    have t_1178 : r < h_1168.size := Nat.lt_of_lt_of_le t_1159 (Nat.le_of_eq W_1169.size.symm)
    have t_1179 : o_1141 < h_1168.size := Nat.lt_of_lt_of_le t_1144 (Nat.le_of_eq W_1169.size.symm)
    have z_1180 : n0 ≤ h_1168.size := Nat.le_trans z_1160 (Nat.le_of_eq W_1169.size.symm)
    have b_1181 : h0.size ≤ h_1168.size := Nat.le_trans b_1161 (Nat.le_of_eq W_1169.size.symm)
    have K_1182 : Keep h0 h_1168 [a] := K_1162.wr W_1169 (Or.inl (List.mem_of_getElem? (i := 0) rfl))
    have O_1183 : Old Z n0 h_1168 := O_1163.wr W_1169 hg
    have f_1172 := Sta.ext O_1183.2 hSCS
    have f_1173 := Sta.ext O_1183.2 hSAD
    have f_1174 := Sta.ext O_1183.2 hSHB
    have f_1175 := Sta.ext O_1183.2 hSLB
    have f_1184 : Fld Z h_1168 a "java/lang/String" "value" "[B" .null := Fld.other W_1169 f_1155 (Or.inr (slot_ne (Or.inr (own_w hw 21 rfl)) (Or.inr (own_w hw 22 rfl)) (by decide) (t := (.array .byte)) (t' := .byte) (by decide) (by decide)))
    have f_1185 : Fld Z h_1168 a "java/lang/String" "coder" "B" (.int 0) := Fld.same W_1169 f_1156
    refine Go.aloadN (pc' := 52) d3_51 rfl rfl rfl ?_
    refine Go.aload (pc' := 54) d3_52 rfl rfl rfl ?_
    refine Go.putF (pc' := 57) (ty := (.array .byte)) (own_w hw 25 rfl) f_1184 f_1170 (Or.inr ⟨(own_w hw 21 rfl), rfl, rfl⟩) (own_w hw 7 rfl) (by decide) rfl rfl d3_54 hg rfl ?_
    intro h_1186 W_1187
    have f_1188 : Exa Z h_1186 a "java/lang/String" := Exa.wr W_1187 f_1170
    have f_1189 : Ary Z h_1186 r .char [(.int c0), (.int c1), (.int c2)] := f_1171.sm (Sm.wr W_1187 n_1137.symm)
    have f_1190 : Ary Z h_1186 o_1141 .byte [(.int b0), (.int b1), (.int b2)] := f_1176.sm (Sm.wr W_1187 n_1146.symm)
    have t_1195 : a < h_1186.size := Nat.lt_of_lt_of_le t_1177 (Nat.le_of_eq W_1187.size.symm)
    have t_1196 : r < h_1186.size := Nat.lt_of_lt_of_le t_1178 (Nat.le_of_eq W_1187.size.symm)
    have t_1197 : o_1141 < h_1186.size := Nat.lt_of_lt_of_le t_1179 (Nat.le_of_eq W_1187.size.symm)
    have z_1198 : n0 ≤ h_1186.size := Nat.le_trans z_1180 (Nat.le_of_eq W_1187.size.symm)
    have b_1199 : h0.size ≤ h_1186.size := Nat.le_trans b_1181 (Nat.le_of_eq W_1187.size.symm)
    have K_1200 : Keep h0 h_1186 [a] := K_1182.wr W_1187 (Or.inl (List.mem_of_getElem? (i := 0) rfl))
    have O_1201 : Old Z n0 h_1186 := O_1183.wr W_1187 hg
    have f_1191 := Sta.ext O_1201.2 hSCS
    have f_1192 := Sta.ext O_1201.2 hSAD
    have f_1193 := Sta.ext O_1201.2 hSHB
    have f_1194 := Sta.ext O_1201.2 hSLB
    have f_1202 : Fld Z h_1186 a "java/lang/String" "value" "[B" (.ref o_1141) := Fld.same W_1187 f_1184
    have f_1203 : Fld Z h_1186 a "java/lang/String" "coder" "B" (.int 0) := Fld.other W_1187 f_1185 (Or.inr (slot_ne (Or.inr (own_w hw 22 rfl)) (Or.inr (own_w hw 21 rfl)) (by decide) (t := .byte) (t' := (.array .byte)) (by decide) (by decide)))
    exact Go.ret0 d3_57 rfl ⟨rfl, K_1200, o_1141, f_1202, t_1197, Or.inl ⟨f_1203, b0, b1, b2, f_1190, e_1165, e_1166, e_1167⟩⟩ (by decide) (by decide)
  · refine Go.astore (pc' := 41) (Ls' := #[.val (.ref a), .val (.ref r), .val (.int 0), .val (.int 3), .val .null, .val (.ref o_1141)]) d3_39 rfl rfl rfl ?_
    refine Go.aloadN (pc' := 42) d3_41 rfl rfl rfl ?_
    refine Go.aload (pc' := 44) d3_42 rfl rfl rfl ?_
    refine Go.iloadN (pc' := 45) d3_44 rfl rfl ?_
    refine Go.callS (pc' := 48) (argsL := [(.ref o_1141), (.int 3)]) (rest := [(.ref a)]) (W := 1) (own_w hw 52 rfl) (own_w hw 53 rfl) (own_w hw 47 rfl) (own_w hw 54 rfl) (by decide) (m_cl3_1 l Z a0 hw o_1141 [.int l0, .int g0, .int l1, .int g1, .int l2, .int g2] h_1140 n0 z_1160 A_1164 rfl) d3_45 rfl pd6 rfl rfl (Nat.le_of_eq rfl) (by decide) (by decide) (by decide) (by decide) rfl ?_
    rintro _ _ ⟨rfl, rfl⟩
    show Go _ _ _ _ _ _ _ _ _ _ _ _ h_1140 (0 + 2 + 0) (0 + 9 + 0) 48 #[.val (.ref a), .val (.ref r), .val (.int 0), .val (.int 3), .val .null, .val (.ref o_1141)] [(.int 1), (.ref a)]
    refine Go.putF (pc' := 51) (ty := .byte) (own_w hw 26 rfl) f_1156 f_1154 (Or.inr ⟨(own_w hw 22 rfl), rfl, rfl⟩) (own_w hw 7 rfl) (by decide) rfl rfl d3_48 hg rfl ?_
    intro h_1204 W_1205
    have f_1206 : Exa Z h_1204 a "java/lang/String" := Exa.wr W_1205 f_1154
    have f_1207 : Ary Z h_1204 r .char [(.int c0), (.int c1), (.int c2)] := f_1157.sm (Sm.wr W_1205 n_1137.symm)
    have f_1212 : Ary Z h_1204 o_1141 .byte [(.int l0), (.int g0), (.int l1), (.int g1), (.int l2), (.int g2)] := A_1164.sm (Sm.wr W_1205 n_1146.symm)
    have t_1213 : a < h_1204.size := Nat.lt_of_lt_of_le t_1158 (Nat.le_of_eq W_1205.size.symm)
    have t_1214 : r < h_1204.size := Nat.lt_of_lt_of_le t_1159 (Nat.le_of_eq W_1205.size.symm)
    have t_1215 : o_1141 < h_1204.size := Nat.lt_of_lt_of_le t_1144 (Nat.le_of_eq W_1205.size.symm)
    have z_1216 : n0 ≤ h_1204.size := Nat.le_trans z_1160 (Nat.le_of_eq W_1205.size.symm)
    have b_1217 : h0.size ≤ h_1204.size := Nat.le_trans b_1161 (Nat.le_of_eq W_1205.size.symm)
    have K_1218 : Keep h0 h_1204 [a] := K_1162.wr W_1205 (Or.inl (List.mem_of_getElem? (i := 0) rfl))
    have O_1219 : Old Z n0 h_1204 := O_1163.wr W_1205 hg
    have f_1208 := Sta.ext O_1219.2 hSCS
    have f_1209 := Sta.ext O_1219.2 hSAD
    have f_1210 := Sta.ext O_1219.2 hSHB
    have f_1211 := Sta.ext O_1219.2 hSLB
    have f_1220 : Fld Z h_1204 a "java/lang/String" "value" "[B" .null := Fld.other W_1205 f_1155 (Or.inr (slot_ne (Or.inr (own_w hw 21 rfl)) (Or.inr (own_w hw 22 rfl)) (by decide) (t := (.array .byte)) (t' := .byte) (by decide) (by decide)))
    have f_1221 : Fld Z h_1204 a "java/lang/String" "coder" "B" (.int 1) := Fld.same W_1205 f_1156
    refine Go.aloadN (pc' := 52) d3_51 rfl rfl rfl ?_
    refine Go.aload (pc' := 54) d3_52 rfl rfl rfl ?_
    refine Go.putF (pc' := 57) (ty := (.array .byte)) (own_w hw 25 rfl) f_1220 f_1206 (Or.inr ⟨(own_w hw 21 rfl), rfl, rfl⟩) (own_w hw 7 rfl) (by decide) rfl rfl d3_54 hg rfl ?_
    intro h_1222 W_1223
    have f_1224 : Exa Z h_1222 a "java/lang/String" := Exa.wr W_1223 f_1206
    have f_1225 : Ary Z h_1222 r .char [(.int c0), (.int c1), (.int c2)] := f_1207.sm (Sm.wr W_1223 n_1137.symm)
    have f_1226 : Ary Z h_1222 o_1141 .byte [(.int l0), (.int g0), (.int l1), (.int g1), (.int l2), (.int g2)] := f_1212.sm (Sm.wr W_1223 n_1146.symm)
    have t_1231 : a < h_1222.size := Nat.lt_of_lt_of_le t_1213 (Nat.le_of_eq W_1223.size.symm)
    have t_1232 : r < h_1222.size := Nat.lt_of_lt_of_le t_1214 (Nat.le_of_eq W_1223.size.symm)
    have t_1233 : o_1141 < h_1222.size := Nat.lt_of_lt_of_le t_1215 (Nat.le_of_eq W_1223.size.symm)
    have z_1234 : n0 ≤ h_1222.size := Nat.le_trans z_1216 (Nat.le_of_eq W_1223.size.symm)
    have b_1235 : h0.size ≤ h_1222.size := Nat.le_trans b_1217 (Nat.le_of_eq W_1223.size.symm)
    have K_1236 : Keep h0 h_1222 [a] := K_1218.wr W_1223 (Or.inl (List.mem_of_getElem? (i := 0) rfl))
    have O_1237 : Old Z n0 h_1222 := O_1219.wr W_1223 hg
    have f_1227 := Sta.ext O_1237.2 hSCS
    have f_1228 := Sta.ext O_1237.2 hSAD
    have f_1229 := Sta.ext O_1237.2 hSHB
    have f_1230 := Sta.ext O_1237.2 hSLB
    have f_1238 : Fld Z h_1222 a "java/lang/String" "value" "[B" (.ref o_1141) := Fld.same W_1223 f_1220
    have f_1239 : Fld Z h_1222 a "java/lang/String" "coder" "B" (.int 1) := Fld.other W_1223 f_1221 (Or.inr (slot_ne (Or.inr (own_w hw 22 rfl)) (Or.inr (own_w hw 21 rfl)) (by decide) (t := .byte) (t' := (.array .byte)) (by decide) (by decide)))
    exact Go.ret0 d3_57 rfl ⟨rfl, K_1236, o_1141, f_1238, t_1233, Or.inr ⟨f_1239, l0, g0, l1, g1, l2, g2, f_1226, e_1165, e_1166, e_1167⟩⟩ (by decide) (by decide)
set_option maxRecDepth 65536 in
set_option maxHeartbeats 40000000 in
theorem m_s1_3 (l : Launch) (Z : State) (a0 : Array Value) (hw : ∀ d ∈ tables_1, d.before a0 Z = true) (a r : Addr) (c0 c1 c2 : Int32) (cs : Int32) (h0 : Heap) (n0 : Nat) (z0 : n0 ≤ h0.size) (hO : Old Z n0 h0) (hSCS : Sta Z Z.heap "java/lang/String" "COMPACT_STRINGS" "Z" (.int cs)) (hSAD : Sta Z Z.heap "java/lang/StringUTF16" "$assertionsDisabled" "Z" (.int 1)) (hSHB : Sta Z Z.heap "java/lang/StringUTF16" "HI_BYTE_SHIFT" "I" (.int 0)) (hSLB : Sta Z Z.heap "java/lang/StringUTF16" "LO_BYTE_SHIFT" "I" (.int 8)) (hcs : cs.toInt ≠ 0) (hE : Exa Z h0 a "java/lang/String") (hFV : Fld Z h0 a "java/lang/String" "value" "[B" .null) (hFC : Fld Z h0 a "java/lang/String" "coder" "B" (.int 0)) (hg : n0 ≤ a) (hR : Ary Z h0 r .char [.int c0, .int c1, .int c2]) (hc0 : 0 ≤ c0.toInt ∧ c0.toInt < 65536) (hc1 : 0 ≤ c1.toInt ∧ c1.toInt < 65536) (hc2 : 0 ≤ c2.toInt ∧ c2.toInt < 65536)  : Mt .n l Z (⟨"java/lang/String", "<init>", "([C)V"⟩ : MethodName) jdk_42_method_3_code 2 none ({ frames := 5, cells := 2, slots := 9, locals := 78 } : Room) n0 (fun v h => v = none ∧ Keep h0 h [a] ∧ ∃ o : Addr, Fld Z h a "java/lang/String" "value" "[B" (.ref o) ∧ o < h.size ∧ ((Fld Z h a "java/lang/String" "coder" "B" (.int 0) ∧ ∃ b0 b1 b2 : Int32, Ary Z h o .byte [.int b0, .int b1, .int b2] ∧ b0.toInt % 256 = c0.toInt ∧ b1.toInt % 256 = c1.toInt ∧ b2.toInt % 256 = c2.toInt) ∨ (Fld Z h a "java/lang/String" "coder" "B" (.int 1) ∧ ∃ l0 g0 l1 g1 l2 g2 : Int32, Ary Z h o .byte [.int l0, .int g0, .int l1, .int g1, .int l2, .int g2] ∧ l0.toInt % 256 + 256 * (g0.toInt % 256) = c0.toInt ∧ l1.toInt % 256 + 256 * (g1.toInt % 256) = c1.toInt ∧ l2.toInt % 256 + 256 * (g2.toInt % 256) = c2.toInt))) h0 #[(.ref a), (.ref r)] := by
  refine Mt.go (Ls := #[.val (.ref a), .val (.ref r)]) (by first | exact plainFor_of_name (by decide +kernel) | decide +kernel | (simp [plainFor]; done)) (fun m => by first | (simp [entryFrame, mkF, argsToLocals, Value.category]; done) | rfl) ?_
  show Go _ _ _ _ _ _ _ _ _ _ _ _ h0 0 0 0 #[.val (.ref a), .val (.ref r)] []
  have hTCS := Sta.ext hO.2 hSCS
  have hTAD := Sta.ext hO.2 hSAD
  have hTHB := Sta.ext hO.2 hSHB
  have hTLB := Sta.ext hO.2 hSLB
  have n_1240 : a ≠ r := by obtain ⟨_, Ag, -⟩ := hR; exact ne_arr hE (own_w hw 7 rfl) Ag
  refine Go.aloadN (pc' := 1) d2_0 rfl rfl rfl ?_
  refine Go.aloadN (pc' := 2) d2_1 rfl rfl rfl ?_
  refine Go.iconst (pc' := 3) (v := (0 : Int32)) d2_2 rfl rfl ?_
  refine Go.aloadN (pc' := 4) d2_3 rfl rfl rfl ?_
  refine Go.alen (pc' := 5) (z := (3 : Int32)) hR rfl d2_4 rfl ?_
  refine Go.aconstNull (pc' := 6) d2_5 rfl ?_
  refine Go.callN (pc' := 9) (argsL := [(.ref r), (.int 0), (.int 3), .null]) (rest := []) (W := 0) rfl (own_w hw 12 rfl) (own_w hw 13 rfl) (own_w hw 8 rfl) (own_w hw 15 rfl) (by decide) (m_s2_3 l Z a0 hw a r c0 c1 c2 cs h0 n0 z0 hO hSCS hSAD hSHB hSLB hcs hE hFV hFC hg hR hc0 hc1 hc2 ) d2_6 rfl pd7 rfl rfl (Nat.le_of_eq rfl) (by decide) (by decide) (by decide) (by decide) rfl ?_
  rintro _ h_1241 ⟨rfl, K, hs⟩
  have f_1246 : Exa Z h_1241 a "java/lang/String" := hE.keep K
  have f_1249 : Ary Z h_1241 r .char [(.int c0), (.int c1), (.int c2)] := hR.sm (Sm.keep K (ninS n_1240.symm nin0))
  have t_1250 : a < h_1241.size := Nat.lt_of_lt_of_le hE.lt K.1
  have t_1251 : r < h_1241.size := Nat.lt_of_lt_of_le hR.lt K.1
  have z_1252 : n0 ≤ h_1241.size := Nat.le_trans z0 K.1
  have b_1253 : h0.size ≤ h_1241.size := Nat.le_trans (Nat.le_refl _) K.1
  have K_1254 : Keep h0 h_1241 [a] := (Keep.refl _ _).trans K (allS (Or.inl (List.mem_of_getElem? (i := 0) rfl)) all0)
  have O_1255 : Old Z n0 h_1241 := hO.keep K (allS hg all0)
  have f_1242 := Sta.ext O_1255.2 hSCS
  have f_1243 := Sta.ext O_1255.2 hSAD
  have f_1244 := Sta.ext O_1255.2 hSHB
  have f_1245 := Sta.ext O_1255.2 hSLB
  show Go _ _ _ _ _ _ _ _ _ _ _ _ h_1241 (0 + 2) (0 + 9) 9 #[.val (.ref a), .val (.ref r)] []
  exact Go.ret0 d2_9 rfl ⟨rfl, K_1254, hs⟩ (by decide) (by decide)
set_option maxRecDepth 65536 in
set_option maxHeartbeats 40000000 in
theorem m_s2_4 (l : Launch) (Z : State) (a0 : Array Value) (hw : ∀ d ∈ tables_1, d.before a0 Z = true) (a r : Addr) (c0 c1 c2 c3 : Int32) (cs : Int32) (h0 : Heap) (n0 : Nat) (z0 : n0 ≤ h0.size) (hO : Old Z n0 h0) (hSCS : Sta Z Z.heap "java/lang/String" "COMPACT_STRINGS" "Z" (.int cs)) (hSAD : Sta Z Z.heap "java/lang/StringUTF16" "$assertionsDisabled" "Z" (.int 1)) (hSHB : Sta Z Z.heap "java/lang/StringUTF16" "HI_BYTE_SHIFT" "I" (.int 0)) (hSLB : Sta Z Z.heap "java/lang/StringUTF16" "LO_BYTE_SHIFT" "I" (.int 8)) (hcs : cs.toInt ≠ 0) (hE : Exa Z h0 a "java/lang/String") (hFV : Fld Z h0 a "java/lang/String" "value" "[B" .null) (hFC : Fld Z h0 a "java/lang/String" "coder" "B" (.int 0)) (hg : n0 ≤ a) (hR : Ary Z h0 r .char [.int c0, .int c1, .int c2, .int c3]) (hc0 : 0 ≤ c0.toInt ∧ c0.toInt < 65536) (hc1 : 0 ≤ c1.toInt ∧ c1.toInt < 65536) (hc2 : 0 ≤ c2.toInt ∧ c2.toInt < 65536) (hc3 : 0 ≤ c3.toInt ∧ c3.toInt < 65536)  : Mt .n l Z (⟨"java/lang/String", "<init>", "([CIILjava/lang/Void;)V"⟩ : MethodName) jdk_42_method_149_code 6 none ({ frames := 4, cells := 2, slots := 12, locals := 60 } : Room) n0 (fun v h => v = none ∧ Keep h0 h [a] ∧ ∃ o : Addr, Fld Z h a "java/lang/String" "value" "[B" (.ref o) ∧ o < h.size ∧ ((Fld Z h a "java/lang/String" "coder" "B" (.int 0) ∧ ∃ b0 b1 b2 b3 : Int32, Ary Z h o .byte [.int b0, .int b1, .int b2, .int b3] ∧ b0.toInt % 256 = c0.toInt ∧ b1.toInt % 256 = c1.toInt ∧ b2.toInt % 256 = c2.toInt ∧ b3.toInt % 256 = c3.toInt) ∨ (Fld Z h a "java/lang/String" "coder" "B" (.int 1) ∧ ∃ l0 g0 l1 g1 l2 g2 l3 g3 : Int32, Ary Z h o .byte [.int l0, .int g0, .int l1, .int g1, .int l2, .int g2, .int l3, .int g3] ∧ l0.toInt % 256 + 256 * (g0.toInt % 256) = c0.toInt ∧ l1.toInt % 256 + 256 * (g1.toInt % 256) = c1.toInt ∧ l2.toInt % 256 + 256 * (g2.toInt % 256) = c2.toInt ∧ l3.toInt % 256 + 256 * (g3.toInt % 256) = c3.toInt))) h0 #[(.ref a), (.ref r), (.int 0), (.int 4), .null] := by
  refine Mt.go (Ls := #[.val (.ref a), .val (.ref r), .val (.int 0), .val (.int 4), .val .null, .unset]) (by first | exact plainFor_of_name (by decide +kernel) | decide +kernel | (simp [plainFor]; done)) (fun m => by first | (simp [entryFrame, mkF, argsToLocals, Value.category]; done) | rfl) ?_
  show Go _ _ _ _ _ _ _ _ _ _ _ _ h0 0 0 0 #[.val (.ref a), .val (.ref r), .val (.int 0), .val (.int 4), .val .null, .unset] []
  have hTCS := Sta.ext hO.2 hSCS
  have hTAD := Sta.ext hO.2 hSAD
  have hTHB := Sta.ext hO.2 hSHB
  have hTLB := Sta.ext hO.2 hSLB
  have n_1256 : a ≠ r := by obtain ⟨_, Ag, -⟩ := hR; exact ne_arr hE (own_w hw 7 rfl) Ag
  refine Go.aloadN (pc' := 1) d3_0 rfl rfl rfl ?_
  refine Go.initO (pc' := 4) (W := 0) (own_w hw 16 rfl) (own_w hw 17 rfl) (own_w hw 18 rfl) d3_1 rfl (by decide) (Nat.le_of_eq rfl) (by decide) rfl ?_
  refine Go.iloadN (pc' := 5) d3_4 rfl rfl ?_
  refine Go.ifc (pc1 := 27) (pc2 := 8) d3_5 (by decide) (by decide) rfl (fun (c_1257 : (4 : Int) ≠ 0) => ?_) (fun (c_1257 : (4 : Int) = 0) => ?_)
  rotate_left
  · exact absurd c_1257 (by decide)
  refine Go.getS (pc' := 30) (own_w hw 44 rfl) hTCS d3_27 rfl ?_
  refine Go.ifc (pc1 := 58) (pc2 := 33) d3_30 (by decide) (by decide) rfl (fun (c_1258 : cs.toInt = 0) => ?_) (fun (c_1258 : cs.toInt ≠ 0) => ?_)
  · exact absurd c_1258 hcs
  refine Go.aloadN (pc' := 34) d3_33 rfl rfl rfl ?_
  refine Go.iloadN (pc' := 35) d3_34 rfl rfl ?_
  refine Go.iloadN (pc' := 36) d3_35 rfl rfl ?_
  refine Go.callS (pc' := 39) (argsL := [(.ref r), (.int 0), (.int 4)]) (rest := []) (W := 0) (own_w hw 45 rfl) (own_w hw 46 rfl) (own_w hw 47 rfl) (own_w hw 48 rfl) (by decide) (m_c3_4 l Z a0 hw r c0 c1 c2 c3 h0 n0 z0 hO hSAD hSHB hSLB hR hc0 hc1 hc2 hc3 ) d3_36 rfl pd4 rfl rfl (Nat.le_of_eq rfl) (by decide) (by decide) (by decide) (by decide) rfl ?_
  rintro _ h_1259 ⟨o_1260, rfl, K_1261, q_1262, t_1263, ho_1264⟩
  have n_1265 : a ≠ o_1260 := Nat.ne_of_lt (Nat.lt_of_lt_of_le hE.lt q_1262)
  have n_1266 : r ≠ o_1260 := Nat.ne_of_lt (Nat.lt_of_lt_of_le hR.lt q_1262)
  have g_1267 : n0 ≤ o_1260 := Nat.le_trans z0 q_1262
  have g_1268 : h0.size ≤ o_1260 := Nat.le_trans (Nat.le_refl _) q_1262
  have f_1273 : Exa Z h_1259 a "java/lang/String" := hE.sm (Sm.keep K_1261 nin0)
  have f_1274 : Fld Z h_1259 a "java/lang/String" "value" "[B" .null := hFV.sm (Sm.keep K_1261 nin0)
  have f_1275 : Fld Z h_1259 a "java/lang/String" "coder" "B" (.int 0) := hFC.sm (Sm.keep K_1261 nin0)
  have f_1276 : Ary Z h_1259 r .char [(.int c0), (.int c1), (.int c2), (.int c3)] := hR.sm (Sm.keep K_1261 nin0)
  have t_1277 : a < h_1259.size := Nat.lt_of_lt_of_le hE.lt K_1261.1
  have t_1278 : r < h_1259.size := Nat.lt_of_lt_of_le hR.lt K_1261.1
  have z_1279 : n0 ≤ h_1259.size := Nat.le_trans z0 K_1261.1
  have b_1280 : h0.size ≤ h_1259.size := Nat.le_trans (Nat.le_refl _) K_1261.1
  have K_1281 : Keep h0 h_1259 [a] := (Keep.refl _ _).trans K_1261 all0
  have O_1282 : Old Z n0 h_1259 := hO.keep K_1261 all0
  have f_1269 := Sta.ext O_1282.2 hSCS
  have f_1270 := Sta.ext O_1282.2 hSAD
  have f_1271 := Sta.ext O_1282.2 hSHB
  have f_1272 := Sta.ext O_1282.2 hSLB
  show Go _ _ _ _ _ _ _ _ _ _ _ _ h_1259 (0 + 2) (0 + 12) 39 #[.val (.ref a), .val (.ref r), .val (.int 0), .val (.int 4), .val .null, .unset] [(.ref o_1260)]
  rcases ho_1264 with ⟨b0, b1, b2, b3, A_1283, e_1284, e_1285, e_1286, e_1287⟩ | ⟨l0, g0, l1, g1, l2, g2, l3, g3, A_1283, e_1284, e_1285, e_1286, e_1287⟩
  · refine Go.astore (pc' := 41) (Ls' := #[.val (.ref a), .val (.ref r), .val (.int 0), .val (.int 4), .val .null, .val (.ref o_1260)]) d3_39 rfl rfl rfl ?_
    refine Go.aloadN (pc' := 42) d3_41 rfl rfl rfl ?_
    refine Go.aload (pc' := 44) d3_42 rfl rfl rfl ?_
    refine Go.iloadN (pc' := 45) d3_44 rfl rfl ?_
    refine Go.callS (pc' := 48) (argsL := [(.ref o_1260), (.int 4)]) (rest := [(.ref a)]) (W := 1) (own_w hw 52 rfl) (own_w hw 53 rfl) (own_w hw 47 rfl) (own_w hw 54 rfl) (by decide) (m_cl4_0 l Z a0 hw o_1260 [.int b0, .int b1, .int b2, .int b3] h_1259 n0 z_1279 A_1283 rfl) d3_45 rfl pd6 rfl rfl (Nat.le_of_eq rfl) (by decide) (by decide) (by decide) (by decide) rfl ?_
    rintro _ _ ⟨rfl, rfl⟩
    show Go _ _ _ _ _ _ _ _ _ _ _ _ h_1259 (0 + 2 + 0) (0 + 12 + 0) 48 #[.val (.ref a), .val (.ref r), .val (.int 0), .val (.int 4), .val .null, .val (.ref o_1260)] [(.int 0), (.ref a)]
    refine Go.putF (pc' := 51) (ty := .byte) (own_w hw 26 rfl) f_1275 f_1273 (Or.inr ⟨(own_w hw 22 rfl), rfl, rfl⟩) (own_w hw 7 rfl) (by decide) rfl rfl d3_48 hg rfl ?_
    intro h_1288 W_1289
    have f_1290 : Exa Z h_1288 a "java/lang/String" := Exa.wr W_1289 f_1273
    have f_1291 : Ary Z h_1288 r .char [(.int c0), (.int c1), (.int c2), (.int c3)] := f_1276.sm (Sm.wr W_1289 n_1256.symm)
    have f_1296 : Ary Z h_1288 o_1260 .byte [(.int b0), (.int b1), (.int b2), (.int b3)] := A_1283.sm (Sm.wr W_1289 n_1265.symm)
    have t_1297 : a < h_1288.size := Nat.lt_of_lt_of_le t_1277 (Nat.le_of_eq W_1289.size.symm)
    have t_1298 : r < h_1288.size := Nat.lt_of_lt_of_le t_1278 (Nat.le_of_eq W_1289.size.symm)
    have t_1299 : o_1260 < h_1288.size := Nat.lt_of_lt_of_le t_1263 (Nat.le_of_eq W_1289.size.symm)
    have z_1300 : n0 ≤ h_1288.size := Nat.le_trans z_1279 (Nat.le_of_eq W_1289.size.symm)
    have b_1301 : h0.size ≤ h_1288.size := Nat.le_trans b_1280 (Nat.le_of_eq W_1289.size.symm)
    have K_1302 : Keep h0 h_1288 [a] := K_1281.wr W_1289 (Or.inl (List.mem_of_getElem? (i := 0) rfl))
    have O_1303 : Old Z n0 h_1288 := O_1282.wr W_1289 hg
    have f_1292 := Sta.ext O_1303.2 hSCS
    have f_1293 := Sta.ext O_1303.2 hSAD
    have f_1294 := Sta.ext O_1303.2 hSHB
    have f_1295 := Sta.ext O_1303.2 hSLB
    have f_1304 : Fld Z h_1288 a "java/lang/String" "value" "[B" .null := Fld.other W_1289 f_1274 (Or.inr (slot_ne (Or.inr (own_w hw 21 rfl)) (Or.inr (own_w hw 22 rfl)) (by decide) (t := (.array .byte)) (t' := .byte) (by decide) (by decide)))
    have f_1305 : Fld Z h_1288 a "java/lang/String" "coder" "B" (.int 0) := Fld.same W_1289 f_1275
    refine Go.aloadN (pc' := 52) d3_51 rfl rfl rfl ?_
    refine Go.aload (pc' := 54) d3_52 rfl rfl rfl ?_
    refine Go.putF (pc' := 57) (ty := (.array .byte)) (own_w hw 25 rfl) f_1304 f_1290 (Or.inr ⟨(own_w hw 21 rfl), rfl, rfl⟩) (own_w hw 7 rfl) (by decide) rfl rfl d3_54 hg rfl ?_
    intro h_1306 W_1307
    have f_1308 : Exa Z h_1306 a "java/lang/String" := Exa.wr W_1307 f_1290
    have f_1309 : Ary Z h_1306 r .char [(.int c0), (.int c1), (.int c2), (.int c3)] := f_1291.sm (Sm.wr W_1307 n_1256.symm)
    have f_1310 : Ary Z h_1306 o_1260 .byte [(.int b0), (.int b1), (.int b2), (.int b3)] := f_1296.sm (Sm.wr W_1307 n_1265.symm)
    have t_1315 : a < h_1306.size := Nat.lt_of_lt_of_le t_1297 (Nat.le_of_eq W_1307.size.symm)
    have t_1316 : r < h_1306.size := Nat.lt_of_lt_of_le t_1298 (Nat.le_of_eq W_1307.size.symm)
    have t_1317 : o_1260 < h_1306.size := Nat.lt_of_lt_of_le t_1299 (Nat.le_of_eq W_1307.size.symm)
    have z_1318 : n0 ≤ h_1306.size := Nat.le_trans z_1300 (Nat.le_of_eq W_1307.size.symm)
    have b_1319 : h0.size ≤ h_1306.size := Nat.le_trans b_1301 (Nat.le_of_eq W_1307.size.symm)
    have K_1320 : Keep h0 h_1306 [a] := K_1302.wr W_1307 (Or.inl (List.mem_of_getElem? (i := 0) rfl))
    have O_1321 : Old Z n0 h_1306 := O_1303.wr W_1307 hg
    have f_1311 := Sta.ext O_1321.2 hSCS
    have f_1312 := Sta.ext O_1321.2 hSAD
    have f_1313 := Sta.ext O_1321.2 hSHB
    have f_1314 := Sta.ext O_1321.2 hSLB
    have f_1322 : Fld Z h_1306 a "java/lang/String" "value" "[B" (.ref o_1260) := Fld.same W_1307 f_1304
    have f_1323 : Fld Z h_1306 a "java/lang/String" "coder" "B" (.int 0) := Fld.other W_1307 f_1305 (Or.inr (slot_ne (Or.inr (own_w hw 22 rfl)) (Or.inr (own_w hw 21 rfl)) (by decide) (t := .byte) (t' := (.array .byte)) (by decide) (by decide)))
    exact Go.ret0 d3_57 rfl ⟨rfl, K_1320, o_1260, f_1322, t_1317, Or.inl ⟨f_1323, b0, b1, b2, b3, f_1310, e_1284, e_1285, e_1286, e_1287⟩⟩ (by decide) (by decide)
  · refine Go.astore (pc' := 41) (Ls' := #[.val (.ref a), .val (.ref r), .val (.int 0), .val (.int 4), .val .null, .val (.ref o_1260)]) d3_39 rfl rfl rfl ?_
    refine Go.aloadN (pc' := 42) d3_41 rfl rfl rfl ?_
    refine Go.aload (pc' := 44) d3_42 rfl rfl rfl ?_
    refine Go.iloadN (pc' := 45) d3_44 rfl rfl ?_
    refine Go.callS (pc' := 48) (argsL := [(.ref o_1260), (.int 4)]) (rest := [(.ref a)]) (W := 1) (own_w hw 52 rfl) (own_w hw 53 rfl) (own_w hw 47 rfl) (own_w hw 54 rfl) (by decide) (m_cl4_1 l Z a0 hw o_1260 [.int l0, .int g0, .int l1, .int g1, .int l2, .int g2, .int l3, .int g3] h_1259 n0 z_1279 A_1283 rfl) d3_45 rfl pd6 rfl rfl (Nat.le_of_eq rfl) (by decide) (by decide) (by decide) (by decide) rfl ?_
    rintro _ _ ⟨rfl, rfl⟩
    show Go _ _ _ _ _ _ _ _ _ _ _ _ h_1259 (0 + 2 + 0) (0 + 12 + 0) 48 #[.val (.ref a), .val (.ref r), .val (.int 0), .val (.int 4), .val .null, .val (.ref o_1260)] [(.int 1), (.ref a)]
    refine Go.putF (pc' := 51) (ty := .byte) (own_w hw 26 rfl) f_1275 f_1273 (Or.inr ⟨(own_w hw 22 rfl), rfl, rfl⟩) (own_w hw 7 rfl) (by decide) rfl rfl d3_48 hg rfl ?_
    intro h_1324 W_1325
    have f_1326 : Exa Z h_1324 a "java/lang/String" := Exa.wr W_1325 f_1273
    have f_1327 : Ary Z h_1324 r .char [(.int c0), (.int c1), (.int c2), (.int c3)] := f_1276.sm (Sm.wr W_1325 n_1256.symm)
    have f_1332 : Ary Z h_1324 o_1260 .byte [(.int l0), (.int g0), (.int l1), (.int g1), (.int l2), (.int g2), (.int l3), (.int g3)] := A_1283.sm (Sm.wr W_1325 n_1265.symm)
    have t_1333 : a < h_1324.size := Nat.lt_of_lt_of_le t_1277 (Nat.le_of_eq W_1325.size.symm)
    have t_1334 : r < h_1324.size := Nat.lt_of_lt_of_le t_1278 (Nat.le_of_eq W_1325.size.symm)
    have t_1335 : o_1260 < h_1324.size := Nat.lt_of_lt_of_le t_1263 (Nat.le_of_eq W_1325.size.symm)
    have z_1336 : n0 ≤ h_1324.size := Nat.le_trans z_1279 (Nat.le_of_eq W_1325.size.symm)
    have b_1337 : h0.size ≤ h_1324.size := Nat.le_trans b_1280 (Nat.le_of_eq W_1325.size.symm)
    have K_1338 : Keep h0 h_1324 [a] := K_1281.wr W_1325 (Or.inl (List.mem_of_getElem? (i := 0) rfl))
    have O_1339 : Old Z n0 h_1324 := O_1282.wr W_1325 hg
    have f_1328 := Sta.ext O_1339.2 hSCS
    have f_1329 := Sta.ext O_1339.2 hSAD
    have f_1330 := Sta.ext O_1339.2 hSHB
    have f_1331 := Sta.ext O_1339.2 hSLB
    have f_1340 : Fld Z h_1324 a "java/lang/String" "value" "[B" .null := Fld.other W_1325 f_1274 (Or.inr (slot_ne (Or.inr (own_w hw 21 rfl)) (Or.inr (own_w hw 22 rfl)) (by decide) (t := (.array .byte)) (t' := .byte) (by decide) (by decide)))
    have f_1341 : Fld Z h_1324 a "java/lang/String" "coder" "B" (.int 1) := Fld.same W_1325 f_1275
    refine Go.aloadN (pc' := 52) d3_51 rfl rfl rfl ?_
    refine Go.aload (pc' := 54) d3_52 rfl rfl rfl ?_
    refine Go.putF (pc' := 57) (ty := (.array .byte)) (own_w hw 25 rfl) f_1340 f_1326 (Or.inr ⟨(own_w hw 21 rfl), rfl, rfl⟩) (own_w hw 7 rfl) (by decide) rfl rfl d3_54 hg rfl ?_
    intro h_1342 W_1343
    have f_1344 : Exa Z h_1342 a "java/lang/String" := Exa.wr W_1343 f_1326
    have f_1345 : Ary Z h_1342 r .char [(.int c0), (.int c1), (.int c2), (.int c3)] := f_1327.sm (Sm.wr W_1343 n_1256.symm)
    have f_1346 : Ary Z h_1342 o_1260 .byte [(.int l0), (.int g0), (.int l1), (.int g1), (.int l2), (.int g2), (.int l3), (.int g3)] := f_1332.sm (Sm.wr W_1343 n_1265.symm)
    have t_1351 : a < h_1342.size := Nat.lt_of_lt_of_le t_1333 (Nat.le_of_eq W_1343.size.symm)
    have t_1352 : r < h_1342.size := Nat.lt_of_lt_of_le t_1334 (Nat.le_of_eq W_1343.size.symm)
    have t_1353 : o_1260 < h_1342.size := Nat.lt_of_lt_of_le t_1335 (Nat.le_of_eq W_1343.size.symm)
    have z_1354 : n0 ≤ h_1342.size := Nat.le_trans z_1336 (Nat.le_of_eq W_1343.size.symm)
    have b_1355 : h0.size ≤ h_1342.size := Nat.le_trans b_1337 (Nat.le_of_eq W_1343.size.symm)
    have K_1356 : Keep h0 h_1342 [a] := K_1338.wr W_1343 (Or.inl (List.mem_of_getElem? (i := 0) rfl))
    have O_1357 : Old Z n0 h_1342 := O_1339.wr W_1343 hg
    have f_1347 := Sta.ext O_1357.2 hSCS
    have f_1348 := Sta.ext O_1357.2 hSAD
    have f_1349 := Sta.ext O_1357.2 hSHB
    have f_1350 := Sta.ext O_1357.2 hSLB
    have f_1358 : Fld Z h_1342 a "java/lang/String" "value" "[B" (.ref o_1260) := Fld.same W_1343 f_1340
    have f_1359 : Fld Z h_1342 a "java/lang/String" "coder" "B" (.int 1) := Fld.other W_1343 f_1341 (Or.inr (slot_ne (Or.inr (own_w hw 22 rfl)) (Or.inr (own_w hw 21 rfl)) (by decide) (t := .byte) (t' := (.array .byte)) (by decide) (by decide)))
    exact Go.ret0 d3_57 rfl ⟨rfl, K_1356, o_1260, f_1358, t_1353, Or.inr ⟨f_1359, l0, g0, l1, g1, l2, g2, l3, g3, f_1346, e_1284, e_1285, e_1286, e_1287⟩⟩ (by decide) (by decide)
set_option maxRecDepth 65536 in
set_option maxHeartbeats 40000000 in
theorem m_s1_4 (l : Launch) (Z : State) (a0 : Array Value) (hw : ∀ d ∈ tables_1, d.before a0 Z = true) (a r : Addr) (c0 c1 c2 c3 : Int32) (cs : Int32) (h0 : Heap) (n0 : Nat) (z0 : n0 ≤ h0.size) (hO : Old Z n0 h0) (hSCS : Sta Z Z.heap "java/lang/String" "COMPACT_STRINGS" "Z" (.int cs)) (hSAD : Sta Z Z.heap "java/lang/StringUTF16" "$assertionsDisabled" "Z" (.int 1)) (hSHB : Sta Z Z.heap "java/lang/StringUTF16" "HI_BYTE_SHIFT" "I" (.int 0)) (hSLB : Sta Z Z.heap "java/lang/StringUTF16" "LO_BYTE_SHIFT" "I" (.int 8)) (hcs : cs.toInt ≠ 0) (hE : Exa Z h0 a "java/lang/String") (hFV : Fld Z h0 a "java/lang/String" "value" "[B" .null) (hFC : Fld Z h0 a "java/lang/String" "coder" "B" (.int 0)) (hg : n0 ≤ a) (hR : Ary Z h0 r .char [.int c0, .int c1, .int c2, .int c3]) (hc0 : 0 ≤ c0.toInt ∧ c0.toInt < 65536) (hc1 : 0 ≤ c1.toInt ∧ c1.toInt < 65536) (hc2 : 0 ≤ c2.toInt ∧ c2.toInt < 65536) (hc3 : 0 ≤ c3.toInt ∧ c3.toInt < 65536)  : Mt .n l Z (⟨"java/lang/String", "<init>", "([C)V"⟩ : MethodName) jdk_42_method_3_code 2 none ({ frames := 5, cells := 2, slots := 12, locals := 78 } : Room) n0 (fun v h => v = none ∧ Keep h0 h [a] ∧ ∃ o : Addr, Fld Z h a "java/lang/String" "value" "[B" (.ref o) ∧ o < h.size ∧ ((Fld Z h a "java/lang/String" "coder" "B" (.int 0) ∧ ∃ b0 b1 b2 b3 : Int32, Ary Z h o .byte [.int b0, .int b1, .int b2, .int b3] ∧ b0.toInt % 256 = c0.toInt ∧ b1.toInt % 256 = c1.toInt ∧ b2.toInt % 256 = c2.toInt ∧ b3.toInt % 256 = c3.toInt) ∨ (Fld Z h a "java/lang/String" "coder" "B" (.int 1) ∧ ∃ l0 g0 l1 g1 l2 g2 l3 g3 : Int32, Ary Z h o .byte [.int l0, .int g0, .int l1, .int g1, .int l2, .int g2, .int l3, .int g3] ∧ l0.toInt % 256 + 256 * (g0.toInt % 256) = c0.toInt ∧ l1.toInt % 256 + 256 * (g1.toInt % 256) = c1.toInt ∧ l2.toInt % 256 + 256 * (g2.toInt % 256) = c2.toInt ∧ l3.toInt % 256 + 256 * (g3.toInt % 256) = c3.toInt))) h0 #[(.ref a), (.ref r)] := by
  refine Mt.go (Ls := #[.val (.ref a), .val (.ref r)]) (by first | exact plainFor_of_name (by decide +kernel) | decide +kernel | (simp [plainFor]; done)) (fun m => by first | (simp [entryFrame, mkF, argsToLocals, Value.category]; done) | rfl) ?_
  show Go _ _ _ _ _ _ _ _ _ _ _ _ h0 0 0 0 #[.val (.ref a), .val (.ref r)] []
  have hTCS := Sta.ext hO.2 hSCS
  have hTAD := Sta.ext hO.2 hSAD
  have hTHB := Sta.ext hO.2 hSHB
  have hTLB := Sta.ext hO.2 hSLB
  have n_1360 : a ≠ r := by obtain ⟨_, Ag, -⟩ := hR; exact ne_arr hE (own_w hw 7 rfl) Ag
  refine Go.aloadN (pc' := 1) d2_0 rfl rfl rfl ?_
  refine Go.aloadN (pc' := 2) d2_1 rfl rfl rfl ?_
  refine Go.iconst (pc' := 3) (v := (0 : Int32)) d2_2 rfl rfl ?_
  refine Go.aloadN (pc' := 4) d2_3 rfl rfl rfl ?_
  refine Go.alen (pc' := 5) (z := (4 : Int32)) hR rfl d2_4 rfl ?_
  refine Go.aconstNull (pc' := 6) d2_5 rfl ?_
  refine Go.callN (pc' := 9) (argsL := [(.ref r), (.int 0), (.int 4), .null]) (rest := []) (W := 0) rfl (own_w hw 12 rfl) (own_w hw 13 rfl) (own_w hw 8 rfl) (own_w hw 15 rfl) (by decide) (m_s2_4 l Z a0 hw a r c0 c1 c2 c3 cs h0 n0 z0 hO hSCS hSAD hSHB hSLB hcs hE hFV hFC hg hR hc0 hc1 hc2 hc3 ) d2_6 rfl pd7 rfl rfl (Nat.le_of_eq rfl) (by decide) (by decide) (by decide) (by decide) rfl ?_
  rintro _ h_1361 ⟨rfl, K, hs⟩
  have f_1366 : Exa Z h_1361 a "java/lang/String" := hE.keep K
  have f_1369 : Ary Z h_1361 r .char [(.int c0), (.int c1), (.int c2), (.int c3)] := hR.sm (Sm.keep K (ninS n_1360.symm nin0))
  have t_1370 : a < h_1361.size := Nat.lt_of_lt_of_le hE.lt K.1
  have t_1371 : r < h_1361.size := Nat.lt_of_lt_of_le hR.lt K.1
  have z_1372 : n0 ≤ h_1361.size := Nat.le_trans z0 K.1
  have b_1373 : h0.size ≤ h_1361.size := Nat.le_trans (Nat.le_refl _) K.1
  have K_1374 : Keep h0 h_1361 [a] := (Keep.refl _ _).trans K (allS (Or.inl (List.mem_of_getElem? (i := 0) rfl)) all0)
  have O_1375 : Old Z n0 h_1361 := hO.keep K (allS hg all0)
  have f_1362 := Sta.ext O_1375.2 hSCS
  have f_1363 := Sta.ext O_1375.2 hSAD
  have f_1364 := Sta.ext O_1375.2 hSHB
  have f_1365 := Sta.ext O_1375.2 hSLB
  show Go _ _ _ _ _ _ _ _ _ _ _ _ h_1361 (0 + 2) (0 + 12) 9 #[.val (.ref a), .val (.ref r)] []
  exact Go.ret0 d2_9 rfl ⟨rfl, K_1374, hs⟩ (by decide) (by decide)
set_option maxRecDepth 65536 in
set_option maxHeartbeats 40000000 in
theorem m_s2_0 (l : Launch) (Z : State) (a0 : Array Value) (hw : ∀ d ∈ tables_1, d.before a0 Z = true) (a r : Addr) (h0 : Heap) (n0 : Nat) (z0 : n0 ≤ h0.size) (hO : Old Z n0 h0) (hH : Jvm.Lit.constHeld Z "java/lang/String" 7) (hcw : Jvm.Lit.compactW.before a0 Z = true) (hE : Exa Z h0 a "java/lang/String") (hFV : Fld Z h0 a "java/lang/String" "value" "[B" .null) (hFC : Fld Z h0 a "java/lang/String" "coder" "B" (.int 0)) (hg : n0 ≤ a) : MtH l Z (⟨"java/lang/String", "<init>", "([CIILjava/lang/Void;)V"⟩ : MethodName) jdk_42_method_149_code 6 none ({ frames := 1, cells := 2, slots := 4, locals := 12 } : Room) n0 (fun v h => v = none ∧ ∃ o : Addr, Keep h0 h [a] ∧ Fld Z h a "java/lang/String" "value" "[B" (.ref o) ∧ Fld Z h a "java/lang/String" "coder" "B" (.int 0) ∧ Ary Z h o .byte []) h0 #[(.ref a), (.ref r), (.int 0), (.int 0), .null] [] [""] := by
  refine MtH.go (n1 := h0.size) (Ls := #[.val (.ref a), .val (.ref r), .val (.int 0), .val (.int 0), .val .null, .unset]) (by first | exact plainFor_of_name (by decide +kernel) | decide +kernel | (simp [plainFor]; done)) (fun m => by first | (simp [entryFrame, mkF, argsToLocals, Value.category]; done) | rfl) (fun _ q => nomatch q) z0 ?_
  show Go _ _ _ _ _ _ _ _ _ _ _ _ h0 0 0 0 #[.val (.ref a), .val (.ref r), .val (.int 0), .val (.int 0), .val .null, .unset] []
  refine Go.aloadN (pc' := 1) d3_0 rfl rfl rfl ?_
  refine Go.initO (pc' := 4) (W := 0) (own_w hw 16 rfl) (own_w hw 17 rfl) (own_w hw 18 rfl) d3_1 rfl (by decide) (Nat.le_of_eq rfl) (by decide) rfl ?_
  refine Go.iloadN (pc' := 5) d3_4 rfl rfl ?_
  refine Go.ifc (pc1 := 27) (pc2 := 8) d3_5 (by decide) (by decide) rfl (fun (c_1376 : (0 : Int) ≠ 0) => ?_) (fun (c_1376 : (0 : Int) = 0) => ?_)
  · exact absurd c_1376 (by decide)
  refine Go.aloadN (pc' := 9) d3_8 rfl rfl rfl ?_
  refine Go.ldcV (pc' := 11) (text := "") (n := 0) (n1 := n0) (Ts := []) (vs := []) (z := (0 : Int32)) (own_w hw 19 rfl) (strAtoms l Z a0 hw) (fun _ k => k) (by simp) (fun b cl q => hO.2.2 b cl q) (Nat.le_refl _) hH hcw ⟨by decide, rfl⟩ rfl d3_9 (by decide) (by decide) (by decide) (by decide) rfl (ibE (fun _ q => q)) (Nat.le_refl _) z0 ?_
  intro h_1377 x_1378 o_1379 E_1380 X_1381 F_1382 F_1383 A_1384
  have f_1385 : Exa Z h_1377 a "java/lang/String" := hE.sm (Sm.ext E_1380)
  have f_1386 : Fld Z h_1377 a "java/lang/String" "value" "[B" .null := hFV.sm (Sm.ext E_1380)
  have f_1387 : Fld Z h_1377 a "java/lang/String" "coder" "B" (.int 0) := hFC.sm (Sm.ext E_1380)
  have t_1388 : a < h_1377.size := Nat.lt_of_lt_of_le hE.lt E_1380.1
  have z_1389 : n0 ≤ h_1377.size := Nat.le_trans z0 E_1380.1
  have b_1390 : h0.size ≤ h_1377.size := Nat.le_trans (Nat.le_refl _) E_1380.1
  have K_1391 : Keep h0 h_1377 [a] := (Keep.refl _ _).ext E_1380
  have nx : a ≠ x_1378 := fun q => by subst q; exact absurd (own_fld_inj f_1386 F_1383) (fun z => by cases z)
  have n_1392 : a ≠ o_1379 := by obtain ⟨_, Ag, -⟩ := A_1384; exact ne_arr f_1385 (own_w hw 7 rfl) Ag
  have n_1393 : x_1378 ≠ o_1379 := by obtain ⟨_, Ag, -⟩ := A_1384; exact ne_arr X_1381 (own_w hw 7 rfl) Ag
  show Go _ _ _ _ _ _ _ _ _ _ _ _ h_1377 (0 + 2) (0 + (0 + 4)) 11 #[.val (.ref a), .val (.ref r), .val (.int 0), .val (.int 0), .val .null, .unset] [(.ref x_1378), (.ref a)]
  refine Go.getF (pc' := 14) (own_w hw 25 rfl) F_1383 d3_11 rfl ?_
  refine Go.putF (pc' := 17) (ty := (.array .byte)) (own_w hw 25 rfl) f_1386 f_1385 (Or.inr ⟨(own_w hw 21 rfl), rfl, rfl⟩) (own_w hw 7 rfl) (by decide) rfl rfl d3_14 hg rfl ?_
  intro h_1394 W_1395
  have f_1396 : Exa Z h_1394 a "java/lang/String" := Exa.wr W_1395 f_1385
  have f_1397 : Exa Z h_1394 x_1378 "java/lang/String" := X_1381.sm (Sm.wr W_1395 nx.symm)
  have f_1398 : Fld Z h_1394 x_1378 "java/lang/String" "coder" "B" (.int 0) := F_1382.sm (Sm.wr W_1395 nx.symm)
  have f_1399 : Fld Z h_1394 x_1378 "java/lang/String" "value" "[B" (.ref o_1379) := F_1383.sm (Sm.wr W_1395 nx.symm)
  have f_1400 : Ary Z h_1394 o_1379 .byte [] := A_1384.sm (Sm.wr W_1395 n_1392.symm)
  have t_1401 : a < h_1394.size := Nat.lt_of_lt_of_le t_1388 (Nat.le_of_eq W_1395.size.symm)
  have z_1402 : n0 ≤ h_1394.size := Nat.le_trans z_1389 (Nat.le_of_eq W_1395.size.symm)
  have b_1403 : h0.size ≤ h_1394.size := Nat.le_trans b_1390 (Nat.le_of_eq W_1395.size.symm)
  have K_1404 : Keep h0 h_1394 [a] := K_1391.wr W_1395 (Or.inl (List.mem_of_getElem? (i := 0) rfl))
  have f_1405 : Fld Z h_1394 a "java/lang/String" "value" "[B" (.ref o_1379) := Fld.same W_1395 f_1386
  have f_1406 : Fld Z h_1394 a "java/lang/String" "coder" "B" (.int 0) := Fld.other W_1395 f_1387 (Or.inr (slot_ne (Or.inr (own_w hw 22 rfl)) (Or.inr (own_w hw 21 rfl)) (by decide) (t := .byte) (t' := (.array .byte)) (by decide) (by decide)))
  refine Go.aloadN (pc' := 18) d3_17 rfl rfl rfl ?_
  refine Go.ldcAg (pc' := 20) (text := "") (a := x_1378) (own_w hw 19 rfl) (fun _ k => k.2) d3_18 rfl ?_
  show Go _ _ _ _ _ _ _ _ _ _ _ _ h_1394 (0 + 2) (0 + (0 + 4)) 20 #[.val (.ref a), .val (.ref r), .val (.int 0), .val (.int 0), .val .null, .unset] [(.ref x_1378), (.ref a)]
  refine Go.getF (pc' := 23) (own_w hw 26 rfl) f_1398 d3_20 rfl ?_
  refine Go.putF (pc' := 26) (ty := .byte) (own_w hw 26 rfl) f_1406 f_1396 (Or.inr ⟨(own_w hw 22 rfl), rfl, rfl⟩) (own_w hw 7 rfl) (by decide) rfl rfl d3_23 hg rfl ?_
  intro h_1407 W_1408
  have f_1409 : Exa Z h_1407 a "java/lang/String" := Exa.wr W_1408 f_1396
  have f_1410 : Exa Z h_1407 x_1378 "java/lang/String" := f_1397.sm (Sm.wr W_1408 nx.symm)
  have f_1411 : Fld Z h_1407 x_1378 "java/lang/String" "coder" "B" (.int 0) := f_1398.sm (Sm.wr W_1408 nx.symm)
  have f_1412 : Fld Z h_1407 x_1378 "java/lang/String" "value" "[B" (.ref o_1379) := f_1399.sm (Sm.wr W_1408 nx.symm)
  have f_1413 : Ary Z h_1407 o_1379 .byte [] := f_1400.sm (Sm.wr W_1408 n_1392.symm)
  have t_1414 : a < h_1407.size := Nat.lt_of_lt_of_le t_1401 (Nat.le_of_eq W_1408.size.symm)
  have z_1415 : n0 ≤ h_1407.size := Nat.le_trans z_1402 (Nat.le_of_eq W_1408.size.symm)
  have b_1416 : h0.size ≤ h_1407.size := Nat.le_trans b_1403 (Nat.le_of_eq W_1408.size.symm)
  have K_1417 : Keep h0 h_1407 [a] := K_1404.wr W_1408 (Or.inl (List.mem_of_getElem? (i := 0) rfl))
  have f_1418 : Fld Z h_1407 a "java/lang/String" "value" "[B" (.ref o_1379) := Fld.other W_1408 f_1405 (Or.inr (slot_ne (Or.inr (own_w hw 21 rfl)) (Or.inr (own_w hw 22 rfl)) (by decide) (t := (.array .byte)) (t' := .byte) (by decide) (by decide)))
  have f_1419 : Fld Z h_1407 a "java/lang/String" "coder" "B" (.int 0) := Fld.same W_1408 f_1406
  exact Go.ret0 d3_26 rfl ⟨rfl, o_1379, K_1417, f_1418, f_1419, f_1413⟩ (by decide) (by decide)
set_option maxRecDepth 65536 in
set_option maxHeartbeats 40000000 in
theorem m_s1_0 (l : Launch) (Z : State) (a0 : Array Value) (hw : ∀ d ∈ tables_1, d.before a0 Z = true) (a r : Addr) (h0 : Heap) (n0 : Nat) (z0 : n0 ≤ h0.size) (hO : Old Z n0 h0) (hH : Jvm.Lit.constHeld Z "java/lang/String" 7) (hcw : Jvm.Lit.compactW.before a0 Z = true) (hE : Exa Z h0 a "java/lang/String") (hFV : Fld Z h0 a "java/lang/String" "value" "[B" .null) (hFC : Fld Z h0 a "java/lang/String" "coder" "B" (.int 0)) (hg : n0 ≤ a) (hR : Ary Z h0 r .char []) : MtH l Z (⟨"java/lang/String", "<init>", "([C)V"⟩ : MethodName) jdk_42_method_3_code 2 none ({ frames := 2, cells := 2, slots := 4, locals := 30 } : Room) n0 (fun v h => v = none ∧ ∃ o : Addr, Keep h0 h [a] ∧ Fld Z h a "java/lang/String" "value" "[B" (.ref o) ∧ Fld Z h a "java/lang/String" "coder" "B" (.int 0) ∧ Ary Z h o .byte []) h0 #[(.ref a), (.ref r)] [] [""] := by
  refine MtH.go (n1 := n0) (Ls := #[.val (.ref a), .val (.ref r)]) (by first | exact plainFor_of_name (by decide +kernel) | decide +kernel | (simp [plainFor]; done)) (fun m => by first | (simp [entryFrame, mkF, argsToLocals, Value.category]; done) | rfl) (fun _ q => nomatch q) (Nat.le_refl _) ?_
  show Go _ _ _ _ _ _ _ _ _ _ _ _ h0 0 0 0 #[.val (.ref a), .val (.ref r)] []
  have n_1420 : a ≠ r := by obtain ⟨_, Ag, -⟩ := hR; exact ne_arr hE (own_w hw 7 rfl) Ag
  refine Go.aloadN (pc' := 1) d2_0 rfl rfl rfl ?_
  refine Go.aloadN (pc' := 2) d2_1 rfl rfl rfl ?_
  refine Go.iconst (pc' := 3) (v := (0 : Int32)) d2_2 rfl rfl ?_
  refine Go.aloadN (pc' := 4) d2_3 rfl rfl rfl ?_
  refine Go.alen (pc' := 5) (z := (0 : Int32)) hR rfl d2_4 rfl ?_
  refine Go.aconstNull (pc' := 6) d2_5 rfl ?_
  refine Go.callNI (pc' := 9) (argsL := [(.ref r), (.int 0), (.int 0), .null]) (rest := []) (W := 0) rfl (own_w hw 12 rfl) (own_w hw 13 rfl) (own_w hw 8 rfl) (own_w hw 15 rfl) (by decide) (m_s2_0 l Z a0 hw a r h0 n0 z0 hO hH hcw hE hFV hFC hg) (fun _ k => k) (ibE (fun _ q => q)) d2_6 rfl pd7 rfl rfl (Nat.le_of_eq rfl) (by decide) (by decide) (by decide) (by decide) rfl ?_
  rintro _ h_1421 ⟨rfl, o, K, f1, f2, A⟩
  have f_1422 : Exa Z h_1421 a "java/lang/String" := hE.keep K
  have f_1425 : Ary Z h_1421 r .char [] := hR.sm (Sm.keep K (ninS n_1420.symm nin0))
  have t_1426 : a < h_1421.size := Nat.lt_of_lt_of_le hE.lt K.1
  have t_1427 : r < h_1421.size := Nat.lt_of_lt_of_le hR.lt K.1
  have z_1428 : n0 ≤ h_1421.size := Nat.le_trans z0 K.1
  have b_1429 : h0.size ≤ h_1421.size := Nat.le_trans (Nat.le_refl _) K.1
  have K_1430 : Keep h0 h_1421 [a] := (Keep.refl _ _).trans K (allS (Or.inl (List.mem_of_getElem? (i := 0) rfl)) all0)
  show Go _ _ _ _ _ _ _ _ _ _ _ _ h_1421 (0 + 2) (0 + 4) 9 #[.val (.ref a), .val (.ref r)] []
  exact Go.ret0 d2_9 rfl ⟨rfl, o, K_1430, f1, f2, A⟩ (by decide) (by decide)
set_option maxRecDepth 65536 in
set_option maxHeartbeats 40000000 in
theorem m_draw (l : Launch) (Z : State) (a0 : Array Value) (hw : ∀ d ∈ tables_1, d.before a0 Z = true) (y : Int32) (h0 : Heap) (n0 : Nat) (z0 : n0 ≤ h0.size)  : Mt .n l Z (⟨"com/example/consentry/consentry/io/UnicodeIsTextPinLaw", "draw", "(I)C"⟩ : MethodName) method_4_code 1 (some .char) ({ frames := 0, cells := 0, slots := 0, locals := 0 } : Room) n0 (fun v h => ∃ r : Int32, v = some (.int r) ∧ h0 = h ∧ 0 ≤ r.toInt ∧ r.toInt < 65536) h0 #[(.int y)] := by
  refine Mt.go (Ls := #[.val (.int y)]) (plainFor_of_name pn0) (fun m => by first | (simp [entryFrame, mkF, argsToLocals, Value.category]; done) | rfl) ?_
  show Go _ _ _ _ _ _ _ _ _ _ _ _ h0 0 0 0 #[.val (.int y)] []
  refine Go.iloadN (pc' := 1) d1_0 rfl rfl ?_
  refine Go.bipush (pc' := 3) (v := (16 : Int32)) d1_1 rfl rfl ?_
  refine Go.iushr (pc' := 4) d1_3 rfl ?_
  refine Go.iconst (pc' := 5) (v := (1 : Int32)) d1_4 rfl rfl ?_
  refine Go.iand (pc' := 6) d1_5 rfl ?_
  refine Go.ifc (pc1 := 19) (pc2 := 9) d1_6 (by decide) (by decide) rfl (fun (c_1431 : (((y.toUInt32 >>> ((16 : Int32) &&& 31).toUInt32).toInt32) &&& (1 : Int32)).toInt = 0) => ?_) (fun (c_1431 : (((y.toUInt32 >>> ((16 : Int32) &&& 31).toUInt32).toInt32) &&& (1 : Int32)).toInt ≠ 0) => ?_)
  · refine Go.iloadN (pc' := 20) d1_19 rfl rfl ?_
    refine Go.i2c (pc' := 21) d1_20 rfl ?_
    generalize er_1432 : y.toUInt32.toUInt16.toUInt32.toInt32 = r_1432
    have k_1433 : 0 ≤ r_1432.toInt ∧ r_1432.toInt < 65536 := by
      rw [← er_1432]
      have := c_i2c y
      have := rng32 y.toUInt32.toUInt16.toUInt32.toInt32
      have := rng32 y
      omega
    exact Go.retN (t := .char) d1_21 rfl (by simp) (own_nc k_1433) ⟨_, rfl, rfl, k_1433⟩ (by decide) (by decide)
  · refine Go.ldcI (pc' := 11) (own_w hw 58 rfl) d1_9 rfl ?_
    refine Go.iloadN (pc' := 12) d1_11 rfl rfl ?_
    refine Go.sipush (pc' := 15) (v := (2047 : Int32)) d1_12 rfl rfl ?_
    refine Go.iand (pc' := 16) d1_15 rfl ?_
    refine Go.iadd (pc' := 17) d1_16 rfl ?_
    refine Go.i2c (pc' := 18) d1_17 rfl ?_
    generalize er_1434 : ((55296 : Int32) + (y &&& (2047 : Int32))).toUInt32.toUInt16.toUInt32.toInt32 = r_1434
    have k_1435 : 0 ≤ r_1434.toInt ∧ r_1434.toInt < 65536 := by
      rw [← er_1434]
      have : (55296 : Int32).toInt = 55296 := by decide
      have : (2047 : Int32).toInt = 2047 := by decide
      have := c_mask y (2047 : Int32) 11 (by decide) (by decide)
      have := rng32 (y &&& (2047 : Int32))
      have := rng32 y
      have := c_iadd (55296 : Int32) (y &&& (2047 : Int32))
      have := rng32 ((55296 : Int32) + (y &&& (2047 : Int32)))
      have := c_i2c ((55296 : Int32) + (y &&& (2047 : Int32)))
      have := rng32 (((55296 : Int32) + (y &&& (2047 : Int32))).toUInt32.toUInt16.toUInt32.toInt32)
      omega
    exact Go.retN (t := .char) d1_18 rfl (by simp) (own_nc k_1435) ⟨_, rfl, rfl, k_1435⟩ (by decide) (by decide)
set_option maxRecDepth 65536 in
set_option maxHeartbeats 40000000 in
theorem m_ih (l : Launch) (Z : State) (a0 : Array Value) (hw : ∀ d ∈ tables_1, d.before a0 Z = true) (c : Int32) (h0 : Heap) (n0 : Nat) (z0 : n0 ≤ h0.size)  : Mt .n l Z (⟨"com/example/consentry/consentry/io/UnicodeIsTextPinLaw", "isHigh", "(C)Z"⟩ : MethodName) method_2_code 1 (some .boolean) ({ frames := 0, cells := 0, slots := 0, locals := 0 } : Room) n0 (fun v h => ∃ r : Int32, v = some (.int r) ∧ h0 = h ∧ (r.toInt = 0 ∨ r.toInt = 1) ∧ (r.toInt = 1 ↔ own_k c = 1)) h0 #[(.int c)] := by
  refine Mt.go (Ls := #[.val (.int c)]) (plainFor_of_name pn0) (fun m => by first | (simp [entryFrame, mkF, argsToLocals, Value.category]; done) | rfl) ?_
  show Go _ _ _ _ _ _ _ _ _ _ _ _ h0 0 0 0 #[.val (.int c)] []
  have hk := own_kk c
  refine Go.iloadN (pc' := 1) d12_0 rfl rfl ?_
  refine Go.ldcI (pc' := 3) (own_w hw 58 rfl) d12_1 rfl ?_
  refine Go.icmp (pc1 := 16) (pc2 := 6) d12_3 (by decide) (by decide) rfl (fun (c_1436 : c.toInt < (55296 : Int)) => ?_) (fun (c_1436 : (55296 : Int) ≤ c.toInt) => ?_)
  · refine Go.iconst (pc' := 17) (v := (0 : Int32)) d12_16 rfl rfl ?_
    exact Go.retN (t := .boolean) d12_17 rfl (by simp) rfl ⟨_, rfl, rfl, by decide, ⟨fun z => by first | omega | exact absurd z (by decide), fun z => by first | rfl | (exfalso; omega)⟩⟩ (by decide) (by decide)
  · refine Go.iloadN (pc' := 7) d12_6 rfl rfl ?_
    refine Go.ldcI (pc' := 9) (own_w hw 112 rfl) d12_7 rfl ?_
    refine Go.icmp (pc1 := 16) (pc2 := 12) d12_9 (by decide) (by decide) rfl (fun (c_1437 : (56319 : Int) < c.toInt) => ?_) (fun (c_1437 : c.toInt ≤ (56319 : Int)) => ?_)
    · refine Go.iconst (pc' := 17) (v := (0 : Int32)) d12_16 rfl rfl ?_
      exact Go.retN (t := .boolean) d12_17 rfl (by simp) rfl ⟨_, rfl, rfl, by decide, ⟨fun z => by first | omega | exact absurd z (by decide), fun z => by first | rfl | (exfalso; omega)⟩⟩ (by decide) (by decide)
    · refine Go.iconst (pc' := 13) (v := (1 : Int32)) d12_12 rfl rfl ?_
      refine Go.goto (pc' := 17) d12_13 (by decide) (by decide) ?_
      exact Go.retN (t := .boolean) d12_17 rfl (by simp) rfl ⟨_, rfl, rfl, by decide, ⟨fun z => by first | omega | exact absurd z (by decide), fun z => by first | rfl | (exfalso; omega)⟩⟩ (by decide) (by decide)
set_option maxRecDepth 65536 in
set_option maxHeartbeats 40000000 in
theorem m_il (l : Launch) (Z : State) (a0 : Array Value) (hw : ∀ d ∈ tables_1, d.before a0 Z = true) (c : Int32) (h0 : Heap) (n0 : Nat) (z0 : n0 ≤ h0.size)  : Mt .n l Z (⟨"com/example/consentry/consentry/io/UnicodeIsTextPinLaw", "isLow", "(C)Z"⟩ : MethodName) method_3_code 1 (some .boolean) ({ frames := 0, cells := 0, slots := 0, locals := 0 } : Room) n0 (fun v h => ∃ r : Int32, v = some (.int r) ∧ h0 = h ∧ (r.toInt = 0 ∨ r.toInt = 1) ∧ (r.toInt = 1 ↔ own_k c = 2)) h0 #[(.int c)] := by
  refine Mt.go (Ls := #[.val (.int c)]) (plainFor_of_name pn0) (fun m => by first | (simp [entryFrame, mkF, argsToLocals, Value.category]; done) | rfl) ?_
  show Go _ _ _ _ _ _ _ _ _ _ _ _ h0 0 0 0 #[.val (.int c)] []
  have hk := own_kk c
  refine Go.iloadN (pc' := 1) d13_0 rfl rfl ?_
  refine Go.ldcI (pc' := 3) (own_w hw 62 rfl) d13_1 rfl ?_
  refine Go.icmp (pc1 := 16) (pc2 := 6) d13_3 (by decide) (by decide) rfl (fun (c_1438 : c.toInt < (56320 : Int)) => ?_) (fun (c_1438 : (56320 : Int) ≤ c.toInt) => ?_)
  · refine Go.iconst (pc' := 17) (v := (0 : Int32)) d13_16 rfl rfl ?_
    exact Go.retN (t := .boolean) d13_17 rfl (by simp) rfl ⟨_, rfl, rfl, by decide, ⟨fun z => by first | omega | exact absurd z (by decide), fun z => by first | rfl | (exfalso; omega)⟩⟩ (by decide) (by decide)
  · refine Go.iloadN (pc' := 7) d13_6 rfl rfl ?_
    refine Go.ldcI (pc' := 9) (own_w hw 113 rfl) d13_7 rfl ?_
    refine Go.icmp (pc1 := 16) (pc2 := 12) d13_9 (by decide) (by decide) rfl (fun (c_1439 : (57343 : Int) < c.toInt) => ?_) (fun (c_1439 : c.toInt ≤ (57343 : Int)) => ?_)
    · refine Go.iconst (pc' := 17) (v := (0 : Int32)) d13_16 rfl rfl ?_
      exact Go.retN (t := .boolean) d13_17 rfl (by simp) rfl ⟨_, rfl, rfl, by decide, ⟨fun z => by first | omega | exact absurd z (by decide), fun z => by first | rfl | (exfalso; omega)⟩⟩ (by decide) (by decide)
    · refine Go.iconst (pc' := 13) (v := (1 : Int32)) d13_12 rfl rfl ?_
      refine Go.goto (pc' := 17) d13_13 (by decide) (by decide) ?_
      exact Go.retN (t := .boolean) d13_17 rfl (by simp) rfl ⟨_, rfl, rfl, by decide, ⟨fun z => by first | omega | exact absurd z (by decide), fun z => by first | rfl | (exfalso; omega)⟩⟩ (by decide) (by decide)
set_option maxRecDepth 65536 in
set_option maxHeartbeats 40000000 in
theorem m_jh (l : Launch) (Z : State) (a0 : Array Value) (hw : ∀ d ∈ tables_1, d.before a0 Z = true) (c : Int32) (h0 : Heap) (n0 : Nat) (z0 : n0 ≤ h0.size)  : Mt .n l Z (⟨"java/lang/Character", "isHighSurrogate", "(C)Z"⟩ : MethodName) jdk_89_method_14_code 1 (some .boolean) ({ frames := 0, cells := 0, slots := 0, locals := 0 } : Room) n0 (fun v h => ∃ r : Int32, v = some (.int r) ∧ h0 = h ∧ (r.toInt = 0 ∨ r.toInt = 1) ∧ (r.toInt = 1 ↔ own_k c = 1)) h0 #[(.int c)] := by
  refine Mt.go (Ls := #[.val (.int c)]) (by first | exact plainFor_of_name (by decide +kernel) | decide +kernel | (simp [plainFor]; done)) (fun m => by first | (simp [entryFrame, mkF, argsToLocals, Value.category]; done) | rfl) ?_
  show Go _ _ _ _ _ _ _ _ _ _ _ _ h0 0 0 0 #[.val (.int c)] []
  have hk := own_kk c
  refine Go.iloadN (pc' := 1) d19_0 rfl rfl ?_
  refine Go.ldcI (pc' := 3) (own_w hw 89 rfl) d19_1 rfl ?_
  refine Go.icmp (pc1 := 16) (pc2 := 6) d19_3 (by decide) (by decide) rfl (fun (c_1440 : c.toInt < (55296 : Int)) => ?_) (fun (c_1440 : (55296 : Int) ≤ c.toInt) => ?_)
  · refine Go.iconst (pc' := 17) (v := (0 : Int32)) d19_16 rfl rfl ?_
    exact Go.retN (t := .boolean) d19_17 rfl (by simp) rfl ⟨_, rfl, rfl, by decide, ⟨fun z => by first | omega | exact absurd z (by decide), fun z => by first | rfl | (exfalso; omega)⟩⟩ (by decide) (by decide)
  · refine Go.iloadN (pc' := 7) d19_6 rfl rfl ?_
    refine Go.ldcI (pc' := 9) (own_w hw 124 rfl) d19_7 rfl ?_
    refine Go.icmp (pc1 := 16) (pc2 := 12) d19_9 (by decide) (by decide) rfl (fun (c_1441 : (56320 : Int) ≤ c.toInt) => ?_) (fun (c_1441 : c.toInt < (56320 : Int)) => ?_)
    · refine Go.iconst (pc' := 17) (v := (0 : Int32)) d19_16 rfl rfl ?_
      exact Go.retN (t := .boolean) d19_17 rfl (by simp) rfl ⟨_, rfl, rfl, by decide, ⟨fun z => by first | omega | exact absurd z (by decide), fun z => by first | rfl | (exfalso; omega)⟩⟩ (by decide) (by decide)
    · refine Go.iconst (pc' := 13) (v := (1 : Int32)) d19_12 rfl rfl ?_
      refine Go.goto (pc' := 17) d19_13 (by decide) (by decide) ?_
      exact Go.retN (t := .boolean) d19_17 rfl (by simp) rfl ⟨_, rfl, rfl, by decide, ⟨fun z => by first | omega | exact absurd z (by decide), fun z => by first | rfl | (exfalso; omega)⟩⟩ (by decide) (by decide)
set_option maxRecDepth 65536 in
set_option maxHeartbeats 40000000 in
theorem m_jl (l : Launch) (Z : State) (a0 : Array Value) (hw : ∀ d ∈ tables_1, d.before a0 Z = true) (c : Int32) (h0 : Heap) (n0 : Nat) (z0 : n0 ≤ h0.size)  : Mt .n l Z (⟨"java/lang/Character", "isLowSurrogate", "(C)Z"⟩ : MethodName) jdk_89_method_15_code 1 (some .boolean) ({ frames := 0, cells := 0, slots := 0, locals := 0 } : Room) n0 (fun v h => ∃ r : Int32, v = some (.int r) ∧ h0 = h ∧ (r.toInt = 0 ∨ r.toInt = 1) ∧ (r.toInt = 1 ↔ own_k c = 2)) h0 #[(.int c)] := by
  refine Mt.go (Ls := #[.val (.int c)]) (by first | exact plainFor_of_name (by decide +kernel) | decide +kernel | (simp [plainFor]; done)) (fun m => by first | (simp [entryFrame, mkF, argsToLocals, Value.category]; done) | rfl) ?_
  show Go _ _ _ _ _ _ _ _ _ _ _ _ h0 0 0 0 #[.val (.int c)] []
  have hk := own_kk c
  refine Go.iloadN (pc' := 1) d29_0 rfl rfl ?_
  refine Go.ldcI (pc' := 3) (own_w hw 124 rfl) d29_1 rfl ?_
  refine Go.icmp (pc1 := 16) (pc2 := 6) d29_3 (by decide) (by decide) rfl (fun (c_1442 : c.toInt < (56320 : Int)) => ?_) (fun (c_1442 : (56320 : Int) ≤ c.toInt) => ?_)
  · refine Go.iconst (pc' := 17) (v := (0 : Int32)) d29_16 rfl rfl ?_
    exact Go.retN (t := .boolean) d29_17 rfl (by simp) rfl ⟨_, rfl, rfl, by decide, ⟨fun z => by first | omega | exact absurd z (by decide), fun z => by first | rfl | (exfalso; omega)⟩⟩ (by decide) (by decide)
  · refine Go.iloadN (pc' := 7) d29_6 rfl rfl ?_
    refine Go.ldcI (pc' := 9) (own_w hw 125 rfl) d29_7 rfl ?_
    refine Go.icmp (pc1 := 16) (pc2 := 12) d29_9 (by decide) (by decide) rfl (fun (c_1443 : (57344 : Int) ≤ c.toInt) => ?_) (fun (c_1443 : c.toInt < (57344 : Int)) => ?_)
    · refine Go.iconst (pc' := 17) (v := (0 : Int32)) d29_16 rfl rfl ?_
      exact Go.retN (t := .boolean) d29_17 rfl (by simp) rfl ⟨_, rfl, rfl, by decide, ⟨fun z => by first | omega | exact absurd z (by decide), fun z => by first | rfl | (exfalso; omega)⟩⟩ (by decide) (by decide)
    · refine Go.iconst (pc' := 13) (v := (1 : Int32)) d29_12 rfl rfl ?_
      refine Go.goto (pc' := 17) d29_13 (by decide) (by decide) ?_
      exact Go.retN (t := .boolean) d29_17 rfl (by simp) rfl ⟨_, rfl, rfl, by decide, ⟨fun z => by first | omega | exact absurd z (by decide), fun z => by first | rfl | (exfalso; omega)⟩⟩ (by decide) (by decide)
set_option maxRecDepth 65536 in
set_option maxHeartbeats 40000000 in
theorem m_js (l : Launch) (Z : State) (a0 : Array Value) (hw : ∀ d ∈ tables_1, d.before a0 Z = true) (c : Int32) (h0 : Heap) (n0 : Nat) (z0 : n0 ≤ h0.size)  : Mt .n l Z (⟨"java/lang/Character", "isSurrogate", "(C)Z"⟩ : MethodName) jdk_89_method_16_code 1 (some .boolean) ({ frames := 0, cells := 0, slots := 0, locals := 0 } : Room) n0 (fun v h => ∃ r : Int32, v = some (.int r) ∧ h0 = h ∧ (r.toInt = 0 ∨ r.toInt = 1) ∧ (r.toInt = 1 ↔ own_k c ≠ 0)) h0 #[(.int c)] := by
  refine Mt.go (Ls := #[.val (.int c)]) (by first | exact plainFor_of_name (by decide +kernel) | decide +kernel | (simp [plainFor]; done)) (fun m => by first | (simp [entryFrame, mkF, argsToLocals, Value.category]; done) | rfl) ?_
  show Go _ _ _ _ _ _ _ _ _ _ _ _ h0 0 0 0 #[.val (.int c)] []
  have hk := own_kk c
  refine Go.iloadN (pc' := 1) d20_0 rfl rfl ?_
  refine Go.ldcI (pc' := 3) (own_w hw 89 rfl) d20_1 rfl ?_
  refine Go.icmp (pc1 := 16) (pc2 := 6) d20_3 (by decide) (by decide) rfl (fun (c_1444 : c.toInt < (55296 : Int)) => ?_) (fun (c_1444 : (55296 : Int) ≤ c.toInt) => ?_)
  · refine Go.iconst (pc' := 17) (v := (0 : Int32)) d20_16 rfl rfl ?_
    exact Go.retN (t := .boolean) d20_17 rfl (by simp) rfl ⟨_, rfl, rfl, by decide, ⟨fun z => by first | omega | exact absurd z (by decide), fun z => by first | rfl | (exfalso; omega)⟩⟩ (by decide) (by decide)
  · refine Go.iloadN (pc' := 7) d20_6 rfl rfl ?_
    refine Go.ldcI (pc' := 9) (own_w hw 125 rfl) d20_7 rfl ?_
    refine Go.icmp (pc1 := 16) (pc2 := 12) d20_9 (by decide) (by decide) rfl (fun (c_1445 : (57344 : Int) ≤ c.toInt) => ?_) (fun (c_1445 : c.toInt < (57344 : Int)) => ?_)
    · refine Go.iconst (pc' := 17) (v := (0 : Int32)) d20_16 rfl rfl ?_
      exact Go.retN (t := .boolean) d20_17 rfl (by simp) rfl ⟨_, rfl, rfl, by decide, ⟨fun z => by first | omega | exact absurd z (by decide), fun z => by first | rfl | (exfalso; omega)⟩⟩ (by decide) (by decide)
    · refine Go.iconst (pc' := 13) (v := (1 : Int32)) d20_12 rfl rfl ?_
      refine Go.goto (pc' := 17) d20_13 (by decide) (by decide) ?_
      exact Go.retN (t := .boolean) d20_17 rfl (by simp) rfl ⟨_, rfl, rfl, by decide, ⟨fun z => by first | omega | exact absurd z (by decide), fun z => by first | rfl | (exfalso; omega)⟩⟩ (by decide) (by decide)
set_option maxRecDepth 65536 in
set_option maxHeartbeats 40000000 in
theorem m_ok (l : Launch) (Z : State) (a0 : Array Value) (hw : ∀ d ∈ tables_1, d.before a0 Z = true) (f1 f2 pv c f3 nx : Int32) (h0 : Heap) (n0 : Nat) (z0 : n0 ≤ h0.size)  : Mt .n l Z (⟨"com/example/consentry/consentry/io/UnicodeIsTextPinLaw", "okAt", "(ZZCCZC)Z"⟩ : MethodName) method_5_code 6 (some .boolean) ({ frames := 1, cells := 0, slots := 0, locals := 14 } : Room) n0 (fun v h => ∃ r : Int32, v = some (.int r) ∧ h0 = h ∧ (r.toInt = 0 ∨ r.toInt = 1) ∧ (r.toInt = 1 ↔ own_ok f1 f2 pv c f3 nx)) h0 #[(.int f1), (.int f2), (.int pv), (.int c), (.int f3), (.int nx)] := by
  refine Mt.go (Ls := #[.val (.int f1), .val (.int f2), .val (.int pv), .val (.int c), .val (.int f3), .val (.int nx)]) (plainFor_of_name pn0) (fun m => by first | (simp [entryFrame, mkF, argsToLocals, Value.category]; done) | rfl) ?_
  show Go _ _ _ _ _ _ _ _ _ _ _ _ h0 0 0 0 #[.val (.int f1), .val (.int f2), .val (.int pv), .val (.int c), .val (.int f3), .val (.int nx)] []
  have k1 := own_kr pv; have k2 := own_kr c; have k3 := own_kr nx
  refine Go.iloadN (pc' := 1) d5_0 rfl rfl ?_
  refine Go.ifc (pc1 := 6) (pc2 := 4) d5_1 (by decide) (by decide) rfl (fun (c_1446 : f1.toInt ≠ 0) => ?_) (fun (c_1446 : f1.toInt = 0) => ?_)
  · refine Go.iloadN (pc' := 7) d5_6 rfl rfl ?_
    refine Go.callS (pc' := 10) (argsL := [(.int c)]) (rest := []) (W := 0) (own_w hw 55 rfl) (own_w hw 56 rfl) (own_w hw 3 rfl) (own_w hw 57 rfl) (by decide) (m_ih l Z a0 hw c h0 n0 z0) d5_7 rfl pd8 rfl rfl (Nat.le_of_eq rfl) (by decide) (by decide) (by decide) (by decide) rfl ?_
    rintro _ _ ⟨r1, rfl, rfl, hr1, ir1⟩
    show Go _ _ _ _ _ _ _ _ _ _ _ _ h0 (0 + 0) (0 + 0) 10 #[.val (.int f1), .val (.int f2), .val (.int pv), .val (.int c), .val (.int f3), .val (.int nx)] [(.int r1)]
    refine Go.ifc (pc1 := 32) (pc2 := 13) d5_10 (by decide) (by decide) rfl (fun (c_1447 : r1.toInt = 0) => ?_) (fun (c_1447 : r1.toInt ≠ 0) => ?_)
    · refine Go.iloadN (pc' := 33) d5_32 rfl rfl ?_
      refine Go.callS (pc' := 36) (argsL := [(.int c)]) (rest := []) (W := 0) (own_w hw 59 rfl) (own_w hw 60 rfl) (own_w hw 3 rfl) (own_w hw 61 rfl) (by decide) (m_il l Z a0 hw c h0 n0 z0) d5_33 rfl pd8 rfl rfl (Nat.le_of_eq rfl) (by decide) (by decide) (by decide) (by decide) rfl ?_
      rintro _ _ ⟨r3, rfl, rfl, hr3, ir3⟩
      show Go _ _ _ _ _ _ _ _ _ _ _ _ h0 (0 + 0 + 0) (0 + 0 + 0) 36 #[.val (.int f1), .val (.int f2), .val (.int pv), .val (.int c), .val (.int f3), .val (.int nx)] [(.int r3)]
      refine Go.ifc (pc1 := 56) (pc2 := 39) d5_36 (by decide) (by decide) rfl (fun (c_1448 : r3.toInt = 0) => ?_) (fun (c_1448 : r3.toInt ≠ 0) => ?_)
      · refine Go.iconst (pc' := 57) (v := (1 : Int32)) d5_56 rfl rfl ?_
        exact Go.retN (t := .boolean) d5_57 rfl (by simp) rfl ⟨_, rfl, rfl, by decide, ⟨fun z => by first | (unfold own_ok; omega) | exact absurd z (by decide), fun z => by first | rfl | (unfold own_ok at z; exfalso; omega)⟩⟩ (by decide) (by decide)
      · refine Go.iloadN (pc' := 40) d5_39 rfl rfl ?_
        refine Go.ifc (pc1 := 54) (pc2 := 43) d5_40 (by decide) (by decide) rfl (fun (c_1449 : f2.toInt = 0) => ?_) (fun (c_1449 : f2.toInt ≠ 0) => ?_)
        · refine Go.iconst (pc' := 55) (v := (0 : Int32)) d5_54 rfl rfl ?_
          exact Go.retN (t := .boolean) d5_55 rfl (by simp) rfl ⟨_, rfl, rfl, by decide, ⟨fun z => by first | (unfold own_ok; omega) | exact absurd z (by decide), fun z => by first | rfl | (unfold own_ok at z; exfalso; omega)⟩⟩ (by decide) (by decide)
        · refine Go.iloadN (pc' := 44) d5_43 rfl rfl ?_
          refine Go.callS (pc' := 47) (argsL := [(.int pv)]) (rest := []) (W := 0) (own_w hw 55 rfl) (own_w hw 56 rfl) (own_w hw 3 rfl) (own_w hw 57 rfl) (by decide) (m_ih l Z a0 hw pv h0 n0 z0) d5_44 rfl pd8 rfl rfl (Nat.le_of_eq rfl) (by decide) (by decide) (by decide) (by decide) rfl ?_
          rintro _ _ ⟨r4, rfl, rfl, hr4, ir4⟩
          show Go _ _ _ _ _ _ _ _ _ _ _ _ h0 (0 + 0 + 0 + 0) (0 + 0 + 0 + 0) 47 #[.val (.int f1), .val (.int f2), .val (.int pv), .val (.int c), .val (.int f3), .val (.int nx)] [(.int r4)]
          refine Go.ifc (pc1 := 54) (pc2 := 50) d5_47 (by decide) (by decide) rfl (fun (c_1450 : r4.toInt = 0) => ?_) (fun (c_1450 : r4.toInt ≠ 0) => ?_)
          · refine Go.iconst (pc' := 55) (v := (0 : Int32)) d5_54 rfl rfl ?_
            exact Go.retN (t := .boolean) d5_55 rfl (by simp) rfl ⟨_, rfl, rfl, by decide, ⟨fun z => by first | (unfold own_ok; omega) | exact absurd z (by decide), fun z => by first | rfl | (unfold own_ok at z; exfalso; omega)⟩⟩ (by decide) (by decide)
          · refine Go.iconst (pc' := 51) (v := (1 : Int32)) d5_50 rfl rfl ?_
            refine Go.goto (pc' := 55) d5_51 (by decide) (by decide) ?_
            exact Go.retN (t := .boolean) d5_55 rfl (by simp) rfl ⟨_, rfl, rfl, by decide, ⟨fun z => by first | (unfold own_ok; omega) | exact absurd z (by decide), fun z => by first | rfl | (unfold own_ok at z; exfalso; omega)⟩⟩ (by decide) (by decide)
    · refine Go.iload (pc' := 15) d5_13 rfl rfl ?_
      refine Go.ifc (pc1 := 30) (pc2 := 18) d5_15 (by decide) (by decide) rfl (fun (c_1451 : f3.toInt = 0) => ?_) (fun (c_1451 : f3.toInt ≠ 0) => ?_)
      · refine Go.iconst (pc' := 31) (v := (0 : Int32)) d5_30 rfl rfl ?_
        exact Go.retN (t := .boolean) d5_31 rfl (by simp) rfl ⟨_, rfl, rfl, by decide, ⟨fun z => by first | (unfold own_ok; omega) | exact absurd z (by decide), fun z => by first | rfl | (unfold own_ok at z; exfalso; omega)⟩⟩ (by decide) (by decide)
      · refine Go.iload (pc' := 20) d5_18 rfl rfl ?_
        refine Go.callS (pc' := 23) (argsL := [(.int nx)]) (rest := []) (W := 0) (own_w hw 59 rfl) (own_w hw 60 rfl) (own_w hw 3 rfl) (own_w hw 61 rfl) (by decide) (m_il l Z a0 hw nx h0 n0 z0) d5_20 rfl pd8 rfl rfl (Nat.le_of_eq rfl) (by decide) (by decide) (by decide) (by decide) rfl ?_
        rintro _ _ ⟨r2, rfl, rfl, hr2, ir2⟩
        show Go _ _ _ _ _ _ _ _ _ _ _ _ h0 (0 + 0 + 0) (0 + 0 + 0) 23 #[.val (.int f1), .val (.int f2), .val (.int pv), .val (.int c), .val (.int f3), .val (.int nx)] [(.int r2)]
        refine Go.ifc (pc1 := 30) (pc2 := 26) d5_23 (by decide) (by decide) rfl (fun (c_1452 : r2.toInt = 0) => ?_) (fun (c_1452 : r2.toInt ≠ 0) => ?_)
        · refine Go.iconst (pc' := 31) (v := (0 : Int32)) d5_30 rfl rfl ?_
          exact Go.retN (t := .boolean) d5_31 rfl (by simp) rfl ⟨_, rfl, rfl, by decide, ⟨fun z => by first | (unfold own_ok; omega) | exact absurd z (by decide), fun z => by first | rfl | (unfold own_ok at z; exfalso; omega)⟩⟩ (by decide) (by decide)
        · refine Go.iconst (pc' := 27) (v := (1 : Int32)) d5_26 rfl rfl ?_
          refine Go.goto (pc' := 31) d5_27 (by decide) (by decide) ?_
          exact Go.retN (t := .boolean) d5_31 rfl (by simp) rfl ⟨_, rfl, rfl, by decide, ⟨fun z => by first | (unfold own_ok; omega) | exact absurd z (by decide), fun z => by first | rfl | (unfold own_ok at z; exfalso; omega)⟩⟩ (by decide) (by decide)
  · refine Go.iconst (pc' := 5) (v := (1 : Int32)) d5_4 rfl rfl ?_
    exact Go.retN (t := .boolean) d5_5 rfl (by simp) rfl ⟨_, rfl, rfl, by decide, ⟨fun z => by first | (unfold own_ok; omega) | exact absurd z (by decide), fun z => by first | rfl | (unfold own_ok at z; exfalso; omega)⟩⟩ (by decide) (by decide)
set_option maxRecDepth 65536 in
set_option maxHeartbeats 40000000 in
theorem m_pci (l : Launch) (Z : State) (a0 : Array Value) (hw : ∀ d ∈ tables_1, d.before a0 Z = true) (i n : Int32) (fm : Value) (h0 : Heap) (n0 : Nat) (z0 : n0 ≤ h0.size) (hfm : fm.isRef = true) (h1 : 0 ≤ i.toInt) (h2 : i.toInt < n.toInt) : Mt .n l Z (⟨"jdk/internal/util/Preconditions", "checkIndex", "(IILjava/util/function/BiFunction;)I"⟩ : MethodName) jdk_41_method_11_code 3 (some .int) ({ frames := 0, cells := 0, slots := 0, locals := 0 } : Room) n0 (fun v h => v = some (.int i) ∧ h0 = h) h0 #[(.int i), (.int n), fm] := by
  refine Mt.go (Ls := #[.val (.int i), .val (.int n), .val fm]) (by first | exact plainFor_of_name (by decide +kernel) | decide +kernel | (simp [plainFor]; done)) (fun m => by cases fm <;> first | (cases hfm; done) | (simp [entryFrame, mkF, argsToLocals, Value.category]; done) | rfl) ?_
  show Go _ _ _ _ _ _ _ _ _ _ _ _ h0 0 0 0 #[.val (.int i), .val (.int n), .val fm] []
  refine Go.iloadN (pc' := 1) d18_0 rfl rfl ?_
  refine Go.ifc (pc1 := 9) (pc2 := 4) d18_1 (by decide) (by decide) rfl (fun (c_1453 : i.toInt < 0) => ?_) (fun (c_1453 : 0 ≤ i.toInt) => ?_)
  · exfalso; omega
  refine Go.iloadN (pc' := 5) d18_4 rfl rfl ?_
  refine Go.iloadN (pc' := 6) d18_5 rfl rfl ?_
  refine Go.icmp (pc1 := 16) (pc2 := 9) d18_6 (by decide) (by decide) rfl (fun (c_1454 : i.toInt < n.toInt) => ?_) (fun (c_1454 : n.toInt ≤ i.toInt) => ?_)
  rotate_left
  · exfalso; omega
  refine Go.iloadN (pc' := 17) d18_16 rfl rfl ?_
  exact Go.retI d18_17 rfl ⟨rfl, rfl⟩ (by decide) (by decide)
set_option maxRecDepth 65536 in
set_option maxHeartbeats 40000000 in
theorem m_ci (l : Launch) (Z : State) (a0 : Array Value) (hw : ∀ d ∈ tables_1, d.before a0 Z = true) (i n : Int32) (fm : Value) (h0 : Heap) (n0 : Nat) (z0 : n0 ≤ h0.size) (hO : Old Z n0 h0) (hSFM : Sta Z Z.heap "jdk/internal/util/Preconditions" "SIOOBE_FORMATTER" "Ljava/util/function/BiFunction;" fm) (hfm : fm.isRef = true) (h1 : 0 ≤ i.toInt) (h2 : i.toInt < n.toInt) : Mt .n l Z (⟨"java/lang/String", "checkIndex", "(II)V"⟩ : MethodName) jdk_42_method_155_code 2 none ({ frames := 1, cells := 0, slots := 0, locals := 14 } : Room) n0 (fun v h => v = none ∧ h0 = h) h0 #[(.int i), (.int n)] := by
  refine Mt.go (Ls := #[.val (.int i), .val (.int n)]) (by first | exact plainFor_of_name (by decide +kernel) | decide +kernel | (simp [plainFor]; done)) (fun m => by first | (simp [entryFrame, mkF, argsToLocals, Value.category]; done) | rfl) ?_
  show Go _ _ _ _ _ _ _ _ _ _ _ _ h0 0 0 0 #[.val (.int i), .val (.int n)] []
  have hTFM := Sta.ext hO.2 hSFM
  refine Go.iloadN (pc' := 1) d17_0 rfl rfl ?_
  refine Go.iloadN (pc' := 2) d17_1 rfl rfl ?_
  refine Go.getS (pc' := 5) (own_w hw 80 rfl) hTFM d17_2 rfl ?_
  refine Go.callS (pc' := 8) (argsL := [(.int i), (.int n), fm]) (rest := []) (W := 0) (own_w hw 82 rfl) (own_w hw 83 rfl) (own_w hw 81 rfl) (own_w hw 84 rfl) (by decide) (m_pci l Z a0 hw i n fm h0 n0 z0 hfm h1 h2) d17_5 rfl pd9 rfl rfl (Nat.le_of_eq rfl) (by decide) (by decide) (by decide) (by decide) rfl ?_
  rintro _ _ ⟨rfl, rfl⟩
  show Go _ _ _ _ _ _ _ _ _ _ _ _ h0 (0 + 0) (0 + 0) 8 #[.val (.int i), .val (.int n)] [(.int i)]
  refine Go.pop (pc' := 9) d17_8 rfl rfl ?_
  exact Go.ret0 d17_9 rfl ⟨rfl, rfl⟩ (by decide) (by decide)
set_option maxRecDepth 65536 in
set_option maxHeartbeats 40000000 in
theorem m_ul (l : Launch) (Z : State) (a0 : Array Value) (hw : ∀ d ∈ tables_1, d.before a0 Z = true) (b : Addr) (A : List Value) (z : Int32) (h0 : Heap) (n0 : Nat) (z0 : n0 ≤ h0.size) (hA : Ary Z h0 b .byte A) (hz : z.toInt = (A.length : Int)) : Mt .n l Z (⟨"java/lang/StringUTF16", "length", "([B)I"⟩ : MethodName) jdk_52_method_6_code 1 (some .int) ({ frames := 0, cells := 0, slots := 0, locals := 0 } : Room) n0 (fun v h => ∃ r : Int32, v = some (.int r) ∧ h0 = h ∧ r.toInt = z.toInt / 2) h0 #[(.ref b)] := by
  refine Mt.go (Ls := #[.val (.ref b)]) (by first | exact plainFor_of_name (by decide +kernel) | decide +kernel | (simp [plainFor]; done)) (fun m => by first | (simp [entryFrame, mkF, argsToLocals, Value.category]; done) | rfl) ?_
  show Go _ _ _ _ _ _ _ _ _ _ _ _ h0 0 0 0 #[.val (.ref b)] []
  refine Go.aloadN (pc' := 1) d28_0 rfl rfl rfl ?_
  refine Go.alen (pc' := 2) (z := z) hA hz d28_1 rfl ?_
  refine Go.iconst (pc' := 3) (v := (1 : Int32)) d28_2 rfl rfl ?_
  refine Go.ishr (pc' := 4) d28_3 rfl ?_
  generalize er_1455 : z >>> ((1 : Int32) &&& 31) = r_1455
  have k_1456 : r_1455.toInt = z.toInt / 2 := by
    rw [← er_1455]
    have : (1 : Int32).toInt = 1 := by decide
    have := c_ishr z (1 : Int32) 1 (by decide)
    have := rng32 (z >>> ((1 : Int32) &&& 31))
    have := rng32 z
    omega
  exact Go.retI d28_4 rfl ⟨_, rfl, rfl, by omega⟩ (by decide) (by decide)
set_option maxRecDepth 65536 in
set_option maxHeartbeats 40000000 in
theorem m_uci (l : Launch) (Z : State) (a0 : Array Value) (hw : ∀ d ∈ tables_1, d.before a0 Z = true) (i : Int32) (b : Addr) (A : List Value) (z : Int32) (fm : Value) (h0 : Heap) (n0 : Nat) (z0 : n0 ≤ h0.size) (hO : Old Z n0 h0) (hSFM : Sta Z Z.heap "jdk/internal/util/Preconditions" "SIOOBE_FORMATTER" "Ljava/util/function/BiFunction;" fm) (hfm : fm.isRef = true) (hA : Ary Z h0 b .byte A) (hz : z.toInt = (A.length : Int)) (h1 : 0 ≤ i.toInt) (h2 : i.toInt < z.toInt / 2) : Mt .n l Z (⟨"java/lang/StringUTF16", "checkIndex", "(I[B)V"⟩ : MethodName) jdk_52_method_91_code 2 none ({ frames := 2, cells := 0, slots := 0, locals := 28 } : Room) n0 (fun v h => v = none ∧ h0 = h) h0 #[(.int i), (.ref b)] := by
  refine Mt.go (Ls := #[.val (.int i), .val (.ref b)]) (by first | exact plainFor_of_name (by decide +kernel) | decide +kernel | (simp [plainFor]; done)) (fun m => by first | (simp [entryFrame, mkF, argsToLocals, Value.category]; done) | rfl) ?_
  show Go _ _ _ _ _ _ _ _ _ _ _ _ h0 0 0 0 #[.val (.int i), .val (.ref b)] []
  have hTFM := Sta.ext hO.2 hSFM
  refine Go.iloadN (pc' := 1) d27_0 rfl rfl ?_
  refine Go.aloadN (pc' := 2) d27_1 rfl rfl rfl ?_
  refine Go.callS (pc' := 5) (argsL := [(.ref b)]) (rest := [(.int i)]) (W := 1) (own_w hw 120 rfl) (own_w hw 121 rfl) (own_w hw 47 rfl) (own_w hw 122 rfl) (by decide) (m_ul l Z a0 hw b A z h0 n0 z0 hA hz) d27_2 rfl pd10 rfl rfl (Nat.le_of_eq rfl) (by decide) (by decide) (by decide) (by decide) rfl ?_
  rintro _ _ ⟨r, rfl, rfl, hr⟩
  show Go _ _ _ _ _ _ _ _ _ _ _ _ h0 (0 + 0) (0 + 0) 5 #[.val (.int i), .val (.ref b)] [(.int r), (.int i)]
  refine Go.callS (pc' := 8) (argsL := [(.int i), (.int r)]) (rest := []) (W := 0) (own_w hw 123 rfl) (own_w hw 78 rfl) (own_w hw 8 rfl) (own_w hw 79 rfl) (by decide) (m_ci l Z a0 hw i r fm h0 n0 z0 hO hSFM hfm h1 (by omega)) d27_5 rfl pd11 rfl rfl (Nat.le_of_eq rfl) (by decide) (by decide) (by decide) (by decide) rfl ?_
  rintro _ _ ⟨rfl, rfl⟩
  show Go _ _ _ _ _ _ _ _ _ _ _ _ h0 (0 + 0 + 0) (0 + 0 + 0) 8 #[.val (.int i), .val (.ref b)] []
  exact Go.ret0 d27_8 rfl ⟨rfl, rfl⟩ (by decide) (by decide)
set_option maxRecDepth 65536 in
set_option maxHeartbeats 40000000 in
theorem m_lc (l : Launch) (Z : State) (a0 : Array Value) (hw : ∀ d ∈ tables_1, d.before a0 Z = true) (b : Addr) (A : List Value) (i z v : Int32) (k : Nat) (fm : Value) (h0 : Heap) (n0 : Nat) (z0 : n0 ≤ h0.size) (hO : Old Z n0 h0) (hSFM : Sta Z Z.heap "jdk/internal/util/Preconditions" "SIOOBE_FORMATTER" "Ljava/util/function/BiFunction;" fm) (hfm : fm.isRef = true) (hA : Ary Z h0 b .byte A) (hz : z.toInt = (A.length : Int)) (hi : i.toInt = (k : Int)) (hk : i.toInt < z.toInt) (hv : A[k]? = some (.int v)) : Mt .n l Z (⟨"java/lang/StringLatin1", "charAt", "([BI)C"⟩ : MethodName) jdk_43_method_2_code 2 (some .char) ({ frames := 2, cells := 0, slots := 0, locals := 28 } : Room) n0 (fun v_ h => ∃ r : Int32, v_ = some (.int r) ∧ h0 = h ∧ r.toInt = v.toInt % 256) h0 #[(.ref b), (.int i)] := by
  refine Mt.go (Ls := #[.val (.ref b), .val (.int i)]) (by first | exact plainFor_of_name (by decide +kernel) | decide +kernel | (simp [plainFor]; done)) (fun m => by first | (simp [entryFrame, mkF, argsToLocals, Value.category]; done) | rfl) ?_
  show Go _ _ _ _ _ _ _ _ _ _ _ _ h0 0 0 0 #[.val (.ref b), .val (.int i)] []
  have hTFM := Sta.ext hO.2 hSFM
  refine Go.iloadN (pc' := 1) d16_0 rfl rfl ?_
  refine Go.aloadN (pc' := 2) d16_1 rfl rfl rfl ?_
  refine Go.alen (pc' := 3) (z := z) hA hz d16_2 rfl ?_
  refine Go.callS (pc' := 6) (argsL := [(.int i), (.int z)]) (rest := []) (W := 0) (own_w hw 77 rfl) (own_w hw 78 rfl) (own_w hw 8 rfl) (own_w hw 79 rfl) (by decide) (m_ci l Z a0 hw i z fm h0 n0 z0 hO hSFM hfm (by omega) (by omega)) d16_3 rfl pd11 rfl rfl (Nat.le_of_eq rfl) (by decide) (by decide) (by decide) (by decide) rfl ?_
  rintro _ _ ⟨rfl, rfl⟩
  show Go _ _ _ _ _ _ _ _ _ _ _ _ h0 (0 + 0) (0 + 0) 6 #[.val (.ref b), .val (.int i)] []
  refine Go.aloadN (pc' := 7) d16_6 rfl rfl rfl ?_
  refine Go.iloadN (pc' := 8) d16_7 rfl rfl ?_
  refine Go.ldB (pc' := 9) (k := k) (v := (.int v)) hA hi hv d16_8 rfl ?_
  refine Go.sipush (pc' := 12) (v := (255 : Int32)) d16_9 rfl rfl ?_
  refine Go.iand (pc' := 13) d16_12 rfl ?_
  refine Go.i2c (pc' := 14) d16_13 rfl ?_
  generalize er_1457 : (v &&& (255 : Int32)).toUInt32.toUInt16.toUInt32.toInt32 = r_1457
  have k_1458 : r_1457.toInt = v.toInt % 256 := by
    rw [← er_1457]
    have : (255 : Int32).toInt = 255 := by decide
    have := c_mask v (255 : Int32) 8 (by decide) (by decide)
    have := rng32 (v &&& (255 : Int32))
    have := rng32 v
    have := c_i2c (v &&& (255 : Int32))
    have := rng32 ((v &&& (255 : Int32)).toUInt32.toUInt16.toUInt32.toInt32)
    omega
  exact Go.retN (t := .char) d16_14 rfl (by simp) (own_nc (by omega)) ⟨_, rfl, rfl, by omega⟩ (by decide) (by decide)
set_option maxRecDepth 65536 in
set_option maxHeartbeats 40000000 in
theorem m_uc (l : Launch) (Z : State) (a0 : Array Value) (hw : ∀ d ∈ tables_1, d.before a0 Z = true) (b : Addr) (A : List Value) (i z l_ g : Int32) (k : Nat) (fm : Value) (h0 : Heap) (n0 : Nat) (z0 : n0 ≤ h0.size) (hO : Old Z n0 h0) (hSAD : Sta Z Z.heap "java/lang/StringUTF16" "$assertionsDisabled" "Z" (.int 1)) (hSHB : Sta Z Z.heap "java/lang/StringUTF16" "HI_BYTE_SHIFT" "I" (.int 0)) (hSLB : Sta Z Z.heap "java/lang/StringUTF16" "LO_BYTE_SHIFT" "I" (.int 8)) (hSFM : Sta Z Z.heap "jdk/internal/util/Preconditions" "SIOOBE_FORMATTER" "Ljava/util/function/BiFunction;" fm) (hfm : fm.isRef = true) (hA : Ary Z h0 b .byte A) (hz : z.toInt = (A.length : Int)) (hi : i.toInt = (k : Int)) (hk : i.toInt < z.toInt / 2) (hk9 : k ≤ 100) (hl : A[2 * k]? = some (.int l_)) (hgg : A[2 * k + 1]? = some (.int g)) : Mt .n l Z (⟨"java/lang/StringUTF16", "charAt", "([BI)C"⟩ : MethodName) jdk_52_method_83_code 2 (some .char) ({ frames := 3, cells := 0, slots := 0, locals := 42 } : Room) n0 (fun v h => ∃ r : Int32, v = some (.int r) ∧ h0 = h ∧ r.toInt = l_.toInt % 256 + 256 * (g.toInt % 256)) h0 #[(.ref b), (.int i)] := by
  refine Mt.go (Ls := #[.val (.ref b), .val (.int i)]) (by first | exact plainFor_of_name (by decide +kernel) | decide +kernel | (simp [plainFor]; done)) (fun m => by first | (simp [entryFrame, mkF, argsToLocals, Value.category]; done) | rfl) ?_
  show Go _ _ _ _ _ _ _ _ _ _ _ _ h0 0 0 0 #[.val (.ref b), .val (.int i)] []
  have hTAD := Sta.ext hO.2 hSAD
  have hTHB := Sta.ext hO.2 hSHB
  have hTLB := Sta.ext hO.2 hSLB
  have hTFM := Sta.ext hO.2 hSFM
  refine Go.iloadN (pc' := 1) d26_0 rfl rfl ?_
  refine Go.aloadN (pc' := 2) d26_1 rfl rfl rfl ?_
  refine Go.callS (pc' := 5) (argsL := [(.int i), (.ref b)]) (rest := []) (W := 0) (own_w hw 117 rfl) (own_w hw 118 rfl) (own_w hw 47 rfl) (own_w hw 119 rfl) (by decide) (m_uci l Z a0 hw i b A z fm h0 n0 z0 hO hSFM hfm hA hz (by omega) hk) d26_2 rfl pd12 rfl rfl (Nat.le_of_eq rfl) (by decide) (by decide) (by decide) (by decide) rfl ?_
  rintro _ _ ⟨rfl, rfl⟩
  show Go _ _ _ _ _ _ _ _ _ _ _ _ h0 (0 + 0) (0 + 0) 5 #[.val (.ref b), .val (.int i)] []
  refine Go.aloadN (pc' := 6) d26_5 rfl rfl rfl ?_
  refine Go.iloadN (pc' := 7) d26_6 rfl rfl ?_
  refine Go.callS (pc' := 10) (argsL := [(.ref b), (.int i)]) (rest := []) (W := 0) (own_w hw 109 rfl) (own_w hw 110 rfl) (own_w hw 47 rfl) (own_w hw 111 rfl) (by decide) (m_gc l Z a0 hw b A i l_ g k h0 n0 z0 hO hSAD hSHB hSLB hA hi hk9 hl hgg) d26_7 rfl pd5 rfl rfl (Nat.le_of_eq rfl) (by decide) (by decide) (by decide) (by decide) rfl ?_
  rintro _ _ ⟨r, rfl, rfl, hr⟩
  show Go _ _ _ _ _ _ _ _ _ _ _ _ h0 (0 + 0 + 0) (0 + 0 + 0) 10 #[.val (.ref b), .val (.int i)] [(.int r)]
  exact Go.retN (t := .char) d26_10 rfl (by simp) (own_nc (by omega)) ⟨_, rfl, rfl, hr⟩ (by decide) (by decide)
set_option maxRecDepth 65536 in
set_option maxHeartbeats 40000000 in
theorem m_cd0 (l : Launch) (Z : State) (a0 : Array Value) (hw : ∀ d ∈ tables_1, d.before a0 Z = true) (a : Addr) (cs : Int32) (h0 : Heap) (n0 : Nat) (z0 : n0 ≤ h0.size) (hO : Old Z n0 h0) (hSCS : Sta Z Z.heap "java/lang/String" "COMPACT_STRINGS" "Z" (.int cs)) (hcs : cs.toInt ≠ 0) (hFC : Fld Z h0 a "java/lang/String" "coder" "B" (.int 0)) : Mt .n l Z (⟨"java/lang/String", "coder", "()B"⟩ : MethodName) jdk_42_method_152_code 1 (some .byte) ({ frames := 0, cells := 0, slots := 0, locals := 0 } : Room) n0 (fun v h => v = some (.int 0) ∧ h0 = h) h0 #[(.ref a)] := by
  refine Mt.go (Ls := #[.val (.ref a)]) (by first | exact plainFor_of_name (by decide +kernel) | decide +kernel | (simp [plainFor]; done)) (fun m => by first | (simp [entryFrame, mkF, argsToLocals, Value.category]; done) | rfl) ?_
  show Go _ _ _ _ _ _ _ _ _ _ _ _ h0 0 0 0 #[.val (.ref a)] []
  have hTCS := Sta.ext hO.2 hSCS
  refine Go.getS (pc' := 3) (own_w hw 44 rfl) hTCS d8_0 rfl ?_
  refine Go.ifc (pc1 := 13) (pc2 := 6) d8_3 (by decide) (by decide) rfl (fun (c_1459 : cs.toInt = 0) => ?_) (fun (c_1459 : cs.toInt ≠ 0) => ?_)
  · exact absurd c_1459 hcs
  refine Go.aloadN (pc' := 7) d8_6 rfl rfl rfl ?_
  refine Go.getF (pc' := 10) (own_w hw 26 rfl) hFC d8_7 rfl ?_
  refine Go.goto (pc' := 14) d8_10 (by decide) (by decide) ?_
  exact Go.retN (t := .byte) d8_14 rfl (by simp) rfl ⟨rfl, rfl⟩ (by decide) (by decide)
set_option maxRecDepth 65536 in
set_option maxHeartbeats 40000000 in
theorem m_l10 (l : Launch) (Z : State) (a0 : Array Value) (hw : ∀ d ∈ tables_1, d.before a0 Z = true) (a : Addr) (cs : Int32) (h0 : Heap) (n0 : Nat) (z0 : n0 ≤ h0.size) (hO : Old Z n0 h0) (hSCS : Sta Z Z.heap "java/lang/String" "COMPACT_STRINGS" "Z" (.int cs)) (hcs : cs.toInt ≠ 0) (hFC : Fld Z h0 a "java/lang/String" "coder" "B" (.int 0)) : Mt .n l Z (⟨"java/lang/String", "isLatin1", "()Z"⟩ : MethodName) jdk_42_method_154_code 1 (some .boolean) ({ frames := 0, cells := 0, slots := 0, locals := 0 } : Room) n0 (fun v h => v = some (.int 1) ∧ h0 = h) h0 #[(.ref a)] := by
  refine Mt.go (Ls := #[.val (.ref a)]) (by first | exact plainFor_of_name (by decide +kernel) | decide +kernel | (simp [plainFor]; done)) (fun m => by first | (simp [entryFrame, mkF, argsToLocals, Value.category]; done) | rfl) ?_
  show Go _ _ _ _ _ _ _ _ _ _ _ _ h0 0 0 0 #[.val (.ref a)] []
  have hTCS := Sta.ext hO.2 hSCS
  refine Go.getS (pc' := 3) (own_w hw 44 rfl) hTCS d15_0 rfl ?_
  refine Go.ifc (pc1 := 17) (pc2 := 6) d15_3 (by decide) (by decide) rfl (fun (c_1460 : cs.toInt = 0) => ?_) (fun (c_1460 : cs.toInt ≠ 0) => ?_)
  · exact absurd c_1460 hcs
  refine Go.aloadN (pc' := 7) d15_6 rfl rfl rfl ?_
  refine Go.getF (pc' := 10) (own_w hw 26 rfl) hFC d15_7 rfl ?_
  refine Go.ifc (pc1 := 17) (pc2 := 13) d15_10 (by decide) (by decide) rfl (fun (c_1461 : (0 : Int) ≠ 0) => ?_) (fun (c_1461 : (0 : Int) = 0) => ?_)
  · exact absurd c_1461 (by decide)
  refine Go.iconst (pc' := 14) (v := (1 : Int32)) d15_13 rfl rfl ?_
  refine Go.goto (pc' := 18) d15_14 (by decide) (by decide) ?_
  exact Go.retN (t := .boolean) d15_18 rfl (by simp) rfl ⟨rfl, rfl⟩ (by decide) (by decide)
set_option maxRecDepth 65536 in
set_option maxHeartbeats 40000000 in
theorem m_ln0 (l : Launch) (Z : State) (a0 : Array Value) (hw : ∀ d ∈ tables_1, d.before a0 Z = true) (a o : Addr) (A : List Value) (z : Int32) (cs : Int32) (h0 : Heap) (n0 : Nat) (z0 : n0 ≤ h0.size) (hO : Old Z n0 h0) (hSCS : Sta Z Z.heap "java/lang/String" "COMPACT_STRINGS" "Z" (.int cs)) (hcs : cs.toInt ≠ 0) (hE : Exa Z h0 a "java/lang/String") (hFV : Fld Z h0 a "java/lang/String" "value" "[B" (.ref o)) (hFC : Fld Z h0 a "java/lang/String" "coder" "B" (.int 0)) (hA : Ary Z h0 o .byte A) (hz : z.toInt = (A.length : Int)) : Mt .n l Z (⟨"java/lang/String", "length", "()I"⟩ : MethodName) jdk_42_method_54_code 1 (some .int) ({ frames := 1, cells := 0, slots := 0, locals := 14 } : Room) n0 (fun v h => ∃ r : Int32, v = some (.int r) ∧ h0 = h ∧ r.toInt = z.toInt / 1) h0 #[(.ref a)] := by
  refine Mt.go (Ls := #[.val (.ref a)]) (by first | exact plainFor_of_name (by decide +kernel) | decide +kernel | (simp [plainFor]; done)) (fun m => by first | (simp [entryFrame, mkF, argsToLocals, Value.category]; done) | rfl) ?_
  show Go _ _ _ _ _ _ _ _ _ _ _ _ h0 0 0 0 #[.val (.ref a)] []
  have hTCS := Sta.ext hO.2 hSCS
  have n_1462 : a ≠ o := by obtain ⟨_, Ag, -⟩ := hA; exact ne_arr hE (own_w hw 7 rfl) Ag
  refine Go.aloadN (pc' := 1) d7_0 rfl rfl rfl ?_
  refine Go.getF (pc' := 4) (own_w hw 25 rfl) hFV d7_1 rfl ?_
  refine Go.alen (pc' := 5) (z := z) hA hz d7_4 rfl ?_
  refine Go.aloadN (pc' := 6) d7_5 rfl rfl rfl ?_
  refine Go.callV (pc' := 9) (argsL := []) (rest := [(.int z)]) (W := 1) (own_w hw 39 rfl) (own_w hw 40 rfl) (own_w hw 42 rfl) (own_w hw 41 rfl) (own_w hw 8 rfl) (own_w hw 43 rfl) (by decide) hE (m_cd0 l Z a0 hw a cs h0 n0 z0 hO hSCS hcs hFC) d7_6 rfl pd13 rfl rfl (Nat.le_of_eq rfl) (by decide) (by decide) (by decide) (by decide) rfl ?_
  rintro _ _ ⟨rfl, rfl⟩
  show Go _ _ _ _ _ _ _ _ _ _ _ _ h0 (0 + 0) (0 + 0) 9 #[.val (.ref a)] [(.int 0), (.int z)]
  refine Go.ishr (pc' := 10) d7_9 rfl ?_
  generalize er_1463 : z >>> ((0 : Int32) &&& 31) = r_1463
  have k_1464 : r_1463.toInt = z.toInt / 1 := by
    rw [← er_1463]
    have : (0 : Int32).toInt = 0 := by decide
    have := c_ishr z (0 : Int32) 0 (by decide)
    have := rng32 (z >>> ((0 : Int32) &&& 31))
    have := rng32 z
    omega
  exact Go.retI d7_10 rfl ⟨_, rfl, rfl, by omega⟩ (by decide) (by decide)
set_option maxRecDepth 65536 in
set_option maxHeartbeats 40000000 in
theorem m_ca0 (l : Launch) (Z : State) (a0 : Array Value) (hw : ∀ d ∈ tables_1, d.before a0 Z = true) (a o : Addr) (A : List Value) (i z v : Int32) (k : Nat) (cs : Int32) (fm : Value) (h0 : Heap) (n0 : Nat) (z0 : n0 ≤ h0.size) (hO : Old Z n0 h0) (hSCS : Sta Z Z.heap "java/lang/String" "COMPACT_STRINGS" "Z" (.int cs)) (hSAD : Sta Z Z.heap "java/lang/StringUTF16" "$assertionsDisabled" "Z" (.int 1)) (hSHB : Sta Z Z.heap "java/lang/StringUTF16" "HI_BYTE_SHIFT" "I" (.int 0)) (hSLB : Sta Z Z.heap "java/lang/StringUTF16" "LO_BYTE_SHIFT" "I" (.int 8)) (hSFM : Sta Z Z.heap "jdk/internal/util/Preconditions" "SIOOBE_FORMATTER" "Ljava/util/function/BiFunction;" fm) (hcs : cs.toInt ≠ 0) (hfm : fm.isRef = true) (hE : Exa Z h0 a "java/lang/String") (hFV : Fld Z h0 a "java/lang/String" "value" "[B" (.ref o)) (hFC : Fld Z h0 a "java/lang/String" "coder" "B" (.int 0)) (hA : Ary Z h0 o .byte A) (hz : z.toInt = (A.length : Int)) (hi : i.toInt = (k : Int)) (hk : i.toInt < z.toInt) (hv : A[k]? = some (.int v)) : Mt .n l Z (⟨"java/lang/String", "charAt", "(I)C"⟩ : MethodName) jdk_42_method_56_code 2 (some .char) ({ frames := 4, cells := 0, slots := 0, locals := 58 } : Room) n0 (fun v_ h => ∃ r : Int32, v_ = some (.int r) ∧ h0 = h ∧ r.toInt = v.toInt % 256) h0 #[(.ref a), (.int i)] := by
  refine Mt.go (Ls := #[.val (.ref a), .val (.int i)]) (by first | exact plainFor_of_name (by decide +kernel) | decide +kernel | (simp [plainFor]; done)) (fun m => by first | (simp [entryFrame, mkF, argsToLocals, Value.category]; done) | rfl) ?_
  show Go _ _ _ _ _ _ _ _ _ _ _ _ h0 0 0 0 #[.val (.ref a), .val (.int i)] []
  have hTCS := Sta.ext hO.2 hSCS
  have hTAD := Sta.ext hO.2 hSAD
  have hTHB := Sta.ext hO.2 hSHB
  have hTLB := Sta.ext hO.2 hSLB
  have hTFM := Sta.ext hO.2 hSFM
  have n_1465 : a ≠ o := by obtain ⟨_, Ag, -⟩ := hA; exact ne_arr hE (own_w hw 7 rfl) Ag
  refine Go.aloadN (pc' := 1) d14_0 rfl rfl rfl ?_
  refine Go.callV (pc' := 4) (argsL := []) (rest := []) (W := 0) (own_w hw 68 rfl) (own_w hw 69 rfl) (own_w hw 71 rfl) (own_w hw 70 rfl) (own_w hw 8 rfl) (own_w hw 72 rfl) (by decide) hE (m_l10 l Z a0 hw a cs h0 n0 z0 hO hSCS hcs hFC) d14_1 rfl pd14 rfl rfl (Nat.le_of_eq rfl) (by decide) (by decide) (by decide) (by decide) rfl ?_
  rintro _ _ ⟨rfl, rfl⟩
  show Go _ _ _ _ _ _ _ _ _ _ _ _ h0 (0 + 0) (0 + 0) 4 #[.val (.ref a), .val (.int i)] [(.int 1)]
  refine Go.ifc (pc1 := 16) (pc2 := 7) d14_4 (by decide) (by decide) rfl (fun (c_1466 : (1 : Int) = 0) => ?_) (fun (c_1466 : (1 : Int) ≠ 0) => ?_)
  · exact absurd c_1466 (by decide)
  refine Go.aloadN (pc' := 8) d14_7 rfl rfl rfl ?_
  refine Go.getF (pc' := 11) (own_w hw 25 rfl) hFV d14_8 rfl ?_
  refine Go.iloadN (pc' := 12) d14_11 rfl rfl ?_
  refine Go.callS (pc' := 15) (argsL := [(.ref o), (.int i)]) (rest := []) (W := 0) (own_w hw 73 rfl) (own_w hw 74 rfl) (own_w hw 75 rfl) (own_w hw 76 rfl) (by decide) (m_lc l Z a0 hw o A i z v k fm h0 n0 z0 hO hSFM hfm hA hz hi hk hv) d14_12 rfl pd5 rfl rfl (Nat.le_of_eq rfl) (by decide) (by decide) (by decide) (by decide) rfl ?_
  rintro _ _ ⟨r, rfl, rfl, hr⟩
  show Go _ _ _ _ _ _ _ _ _ _ _ _ h0 (0 + 0 + 0) (0 + 0 + 0) 15 #[.val (.ref a), .val (.int i)] [(.int r)]
  exact Go.retN (t := .char) d14_15 rfl (by simp) (own_nc (by omega)) ⟨_, rfl, rfl, hr⟩ (by decide) (by decide)
set_option maxRecDepth 65536 in
set_option maxHeartbeats 40000000 in
theorem m_cd1 (l : Launch) (Z : State) (a0 : Array Value) (hw : ∀ d ∈ tables_1, d.before a0 Z = true) (a : Addr) (cs : Int32) (h0 : Heap) (n0 : Nat) (z0 : n0 ≤ h0.size) (hO : Old Z n0 h0) (hSCS : Sta Z Z.heap "java/lang/String" "COMPACT_STRINGS" "Z" (.int cs)) (hcs : cs.toInt ≠ 0) (hFC : Fld Z h0 a "java/lang/String" "coder" "B" (.int 1)) : Mt .n l Z (⟨"java/lang/String", "coder", "()B"⟩ : MethodName) jdk_42_method_152_code 1 (some .byte) ({ frames := 0, cells := 0, slots := 0, locals := 0 } : Room) n0 (fun v h => v = some (.int 1) ∧ h0 = h) h0 #[(.ref a)] := by
  refine Mt.go (Ls := #[.val (.ref a)]) (by first | exact plainFor_of_name (by decide +kernel) | decide +kernel | (simp [plainFor]; done)) (fun m => by first | (simp [entryFrame, mkF, argsToLocals, Value.category]; done) | rfl) ?_
  show Go _ _ _ _ _ _ _ _ _ _ _ _ h0 0 0 0 #[.val (.ref a)] []
  have hTCS := Sta.ext hO.2 hSCS
  refine Go.getS (pc' := 3) (own_w hw 44 rfl) hTCS d8_0 rfl ?_
  refine Go.ifc (pc1 := 13) (pc2 := 6) d8_3 (by decide) (by decide) rfl (fun (c_1467 : cs.toInt = 0) => ?_) (fun (c_1467 : cs.toInt ≠ 0) => ?_)
  · exact absurd c_1467 hcs
  refine Go.aloadN (pc' := 7) d8_6 rfl rfl rfl ?_
  refine Go.getF (pc' := 10) (own_w hw 26 rfl) hFC d8_7 rfl ?_
  refine Go.goto (pc' := 14) d8_10 (by decide) (by decide) ?_
  exact Go.retN (t := .byte) d8_14 rfl (by simp) rfl ⟨rfl, rfl⟩ (by decide) (by decide)
set_option maxRecDepth 65536 in
set_option maxHeartbeats 40000000 in
theorem m_l11 (l : Launch) (Z : State) (a0 : Array Value) (hw : ∀ d ∈ tables_1, d.before a0 Z = true) (a : Addr) (cs : Int32) (h0 : Heap) (n0 : Nat) (z0 : n0 ≤ h0.size) (hO : Old Z n0 h0) (hSCS : Sta Z Z.heap "java/lang/String" "COMPACT_STRINGS" "Z" (.int cs)) (hcs : cs.toInt ≠ 0) (hFC : Fld Z h0 a "java/lang/String" "coder" "B" (.int 1)) : Mt .n l Z (⟨"java/lang/String", "isLatin1", "()Z"⟩ : MethodName) jdk_42_method_154_code 1 (some .boolean) ({ frames := 0, cells := 0, slots := 0, locals := 0 } : Room) n0 (fun v h => v = some (.int 0) ∧ h0 = h) h0 #[(.ref a)] := by
  refine Mt.go (Ls := #[.val (.ref a)]) (by first | exact plainFor_of_name (by decide +kernel) | decide +kernel | (simp [plainFor]; done)) (fun m => by first | (simp [entryFrame, mkF, argsToLocals, Value.category]; done) | rfl) ?_
  show Go _ _ _ _ _ _ _ _ _ _ _ _ h0 0 0 0 #[.val (.ref a)] []
  have hTCS := Sta.ext hO.2 hSCS
  refine Go.getS (pc' := 3) (own_w hw 44 rfl) hTCS d15_0 rfl ?_
  refine Go.ifc (pc1 := 17) (pc2 := 6) d15_3 (by decide) (by decide) rfl (fun (c_1468 : cs.toInt = 0) => ?_) (fun (c_1468 : cs.toInt ≠ 0) => ?_)
  · exact absurd c_1468 hcs
  refine Go.aloadN (pc' := 7) d15_6 rfl rfl rfl ?_
  refine Go.getF (pc' := 10) (own_w hw 26 rfl) hFC d15_7 rfl ?_
  refine Go.ifc (pc1 := 17) (pc2 := 13) d15_10 (by decide) (by decide) rfl (fun (c_1469 : (1 : Int) ≠ 0) => ?_) (fun (c_1469 : (1 : Int) = 0) => ?_)
  rotate_left
  · exact absurd c_1469 (by decide)
  refine Go.iconst (pc' := 18) (v := (0 : Int32)) d15_17 rfl rfl ?_
  exact Go.retN (t := .boolean) d15_18 rfl (by simp) rfl ⟨rfl, rfl⟩ (by decide) (by decide)
set_option maxRecDepth 65536 in
set_option maxHeartbeats 40000000 in
theorem m_ln1 (l : Launch) (Z : State) (a0 : Array Value) (hw : ∀ d ∈ tables_1, d.before a0 Z = true) (a o : Addr) (A : List Value) (z : Int32) (cs : Int32) (h0 : Heap) (n0 : Nat) (z0 : n0 ≤ h0.size) (hO : Old Z n0 h0) (hSCS : Sta Z Z.heap "java/lang/String" "COMPACT_STRINGS" "Z" (.int cs)) (hcs : cs.toInt ≠ 0) (hE : Exa Z h0 a "java/lang/String") (hFV : Fld Z h0 a "java/lang/String" "value" "[B" (.ref o)) (hFC : Fld Z h0 a "java/lang/String" "coder" "B" (.int 1)) (hA : Ary Z h0 o .byte A) (hz : z.toInt = (A.length : Int)) : Mt .n l Z (⟨"java/lang/String", "length", "()I"⟩ : MethodName) jdk_42_method_54_code 1 (some .int) ({ frames := 1, cells := 0, slots := 0, locals := 14 } : Room) n0 (fun v h => ∃ r : Int32, v = some (.int r) ∧ h0 = h ∧ r.toInt = z.toInt / 2) h0 #[(.ref a)] := by
  refine Mt.go (Ls := #[.val (.ref a)]) (by first | exact plainFor_of_name (by decide +kernel) | decide +kernel | (simp [plainFor]; done)) (fun m => by first | (simp [entryFrame, mkF, argsToLocals, Value.category]; done) | rfl) ?_
  show Go _ _ _ _ _ _ _ _ _ _ _ _ h0 0 0 0 #[.val (.ref a)] []
  have hTCS := Sta.ext hO.2 hSCS
  have n_1470 : a ≠ o := by obtain ⟨_, Ag, -⟩ := hA; exact ne_arr hE (own_w hw 7 rfl) Ag
  refine Go.aloadN (pc' := 1) d7_0 rfl rfl rfl ?_
  refine Go.getF (pc' := 4) (own_w hw 25 rfl) hFV d7_1 rfl ?_
  refine Go.alen (pc' := 5) (z := z) hA hz d7_4 rfl ?_
  refine Go.aloadN (pc' := 6) d7_5 rfl rfl rfl ?_
  refine Go.callV (pc' := 9) (argsL := []) (rest := [(.int z)]) (W := 1) (own_w hw 39 rfl) (own_w hw 40 rfl) (own_w hw 42 rfl) (own_w hw 41 rfl) (own_w hw 8 rfl) (own_w hw 43 rfl) (by decide) hE (m_cd1 l Z a0 hw a cs h0 n0 z0 hO hSCS hcs hFC) d7_6 rfl pd13 rfl rfl (Nat.le_of_eq rfl) (by decide) (by decide) (by decide) (by decide) rfl ?_
  rintro _ _ ⟨rfl, rfl⟩
  show Go _ _ _ _ _ _ _ _ _ _ _ _ h0 (0 + 0) (0 + 0) 9 #[.val (.ref a)] [(.int 1), (.int z)]
  refine Go.ishr (pc' := 10) d7_9 rfl ?_
  generalize er_1471 : z >>> ((1 : Int32) &&& 31) = r_1471
  have k_1472 : r_1471.toInt = z.toInt / 2 := by
    rw [← er_1471]
    have : (1 : Int32).toInt = 1 := by decide
    have := c_ishr z (1 : Int32) 1 (by decide)
    have := rng32 (z >>> ((1 : Int32) &&& 31))
    have := rng32 z
    omega
  exact Go.retI d7_10 rfl ⟨_, rfl, rfl, by omega⟩ (by decide) (by decide)
set_option maxRecDepth 65536 in
set_option maxHeartbeats 40000000 in
theorem m_ca1 (l : Launch) (Z : State) (a0 : Array Value) (hw : ∀ d ∈ tables_1, d.before a0 Z = true) (a o : Addr) (A : List Value) (i z v g : Int32) (k : Nat) (cs : Int32) (fm : Value) (h0 : Heap) (n0 : Nat) (z0 : n0 ≤ h0.size) (hO : Old Z n0 h0) (hSCS : Sta Z Z.heap "java/lang/String" "COMPACT_STRINGS" "Z" (.int cs)) (hSAD : Sta Z Z.heap "java/lang/StringUTF16" "$assertionsDisabled" "Z" (.int 1)) (hSHB : Sta Z Z.heap "java/lang/StringUTF16" "HI_BYTE_SHIFT" "I" (.int 0)) (hSLB : Sta Z Z.heap "java/lang/StringUTF16" "LO_BYTE_SHIFT" "I" (.int 8)) (hSFM : Sta Z Z.heap "jdk/internal/util/Preconditions" "SIOOBE_FORMATTER" "Ljava/util/function/BiFunction;" fm) (hcs : cs.toInt ≠ 0) (hfm : fm.isRef = true) (hE : Exa Z h0 a "java/lang/String") (hFV : Fld Z h0 a "java/lang/String" "value" "[B" (.ref o)) (hFC : Fld Z h0 a "java/lang/String" "coder" "B" (.int 1)) (hA : Ary Z h0 o .byte A) (hz : z.toInt = (A.length : Int)) (hi : i.toInt = (k : Int)) (hk : i.toInt < z.toInt / 2) (hk9 : k ≤ 100) (hv : A[2 * k]? = some (.int v)) (hgg : A[2 * k + 1]? = some (.int g)) : Mt .n l Z (⟨"java/lang/String", "charAt", "(I)C"⟩ : MethodName) jdk_42_method_56_code 2 (some .char) ({ frames := 4, cells := 0, slots := 0, locals := 58 } : Room) n0 (fun v_ h => ∃ r : Int32, v_ = some (.int r) ∧ h0 = h ∧ r.toInt = v.toInt % 256 + 256 * (g.toInt % 256)) h0 #[(.ref a), (.int i)] := by
  refine Mt.go (Ls := #[.val (.ref a), .val (.int i)]) (by first | exact plainFor_of_name (by decide +kernel) | decide +kernel | (simp [plainFor]; done)) (fun m => by first | (simp [entryFrame, mkF, argsToLocals, Value.category]; done) | rfl) ?_
  show Go _ _ _ _ _ _ _ _ _ _ _ _ h0 0 0 0 #[.val (.ref a), .val (.int i)] []
  have hTCS := Sta.ext hO.2 hSCS
  have hTAD := Sta.ext hO.2 hSAD
  have hTHB := Sta.ext hO.2 hSHB
  have hTLB := Sta.ext hO.2 hSLB
  have hTFM := Sta.ext hO.2 hSFM
  have n_1473 : a ≠ o := by obtain ⟨_, Ag, -⟩ := hA; exact ne_arr hE (own_w hw 7 rfl) Ag
  refine Go.aloadN (pc' := 1) d14_0 rfl rfl rfl ?_
  refine Go.callV (pc' := 4) (argsL := []) (rest := []) (W := 0) (own_w hw 68 rfl) (own_w hw 69 rfl) (own_w hw 71 rfl) (own_w hw 70 rfl) (own_w hw 8 rfl) (own_w hw 72 rfl) (by decide) hE (m_l11 l Z a0 hw a cs h0 n0 z0 hO hSCS hcs hFC) d14_1 rfl pd14 rfl rfl (Nat.le_of_eq rfl) (by decide) (by decide) (by decide) (by decide) rfl ?_
  rintro _ _ ⟨rfl, rfl⟩
  show Go _ _ _ _ _ _ _ _ _ _ _ _ h0 (0 + 0) (0 + 0) 4 #[.val (.ref a), .val (.int i)] [(.int 0)]
  refine Go.ifc (pc1 := 16) (pc2 := 7) d14_4 (by decide) (by decide) rfl (fun (c_1474 : (0 : Int) = 0) => ?_) (fun (c_1474 : (0 : Int) ≠ 0) => ?_)
  rotate_left
  · exact absurd c_1474 (by decide)
  refine Go.aloadN (pc' := 17) d14_16 rfl rfl rfl ?_
  refine Go.getF (pc' := 20) (own_w hw 25 rfl) hFV d14_17 rfl ?_
  refine Go.iloadN (pc' := 21) d14_20 rfl rfl ?_
  refine Go.callS (pc' := 24) (argsL := [(.ref o), (.int i)]) (rest := []) (W := 0) (own_w hw 114 rfl) (own_w hw 115 rfl) (own_w hw 47 rfl) (own_w hw 116 rfl) (by decide) (m_uc l Z a0 hw o A i z v g k fm h0 n0 z0 hO hSAD hSHB hSLB hSFM hfm hA hz hi hk hk9 hv hgg) d14_21 rfl pd5 rfl rfl (Nat.le_of_eq rfl) (by decide) (by decide) (by decide) (by decide) rfl ?_
  rintro _ _ ⟨r, rfl, rfl, hr⟩
  show Go _ _ _ _ _ _ _ _ _ _ _ _ h0 (0 + 0 + 0) (0 + 0 + 0) 24 #[.val (.ref a), .val (.int i)] [(.int r)]
  exact Go.retN (t := .char) d14_24 rfl (by simp) (own_nc (by omega)) ⟨_, rfl, rfl, hr⟩ (by decide) (by decide)
set_option maxRecDepth 65536 in
set_option maxHeartbeats 40000000 in
theorem m_tx0_0 (l : Launch) (Z : State) (a0 : Array Value) (hw : ∀ d ∈ tables_1, d.before a0 Z = true) (a o : Addr)  (cs : Int32) (fm : Value) (h0 : Heap) (n0 : Nat) (z0 : n0 ≤ h0.size) (hO : Old Z n0 h0) (hSCS : Sta Z Z.heap "java/lang/String" "COMPACT_STRINGS" "Z" (.int cs)) (hSAD : Sta Z Z.heap "java/lang/StringUTF16" "$assertionsDisabled" "Z" (.int 1)) (hSHB : Sta Z Z.heap "java/lang/StringUTF16" "HI_BYTE_SHIFT" "I" (.int 0)) (hSLB : Sta Z Z.heap "java/lang/StringUTF16" "LO_BYTE_SHIFT" "I" (.int 8)) (hSFM : Sta Z Z.heap "jdk/internal/util/Preconditions" "SIOOBE_FORMATTER" "Ljava/util/function/BiFunction;" fm) (hcs : cs.toInt ≠ 0) (hfm : fm.isRef = true) (hE : Exa Z h0 a "java/lang/String") (hFV : Fld Z h0 a "java/lang/String" "value" "[B" (.ref o)) (hFC : Fld Z h0 a "java/lang/String" "coder" "B" (.int 0)) (hA : Ary Z h0 o .byte [])  : Mt .n l Z (⟨"com/example/consentry/consentry/io/Unicode", "isText", "(Ljava/lang/String;)Z"⟩ : MethodName) prog_29_method_2_code 3 (some .boolean) ({ frames := 5, cells := 0, slots := 0, locals := 75 } : Room) n0 (fun v h => ∃ r : Int32, v = some (.int r) ∧ h0 = h ∧ (r.toInt = 0 ∨ r.toInt = 1) ∧ (r.toInt = 1 ↔ (own_tx []))) h0 #[(.ref a)] := by
  refine Mt.go (Ls := #[.val (.ref a), .unset, .unset]) (plainFor_of_name pn1) (fun m => by first | (simp [entryFrame, mkF, argsToLocals, Value.category]; done) | rfl) ?_
  show Go _ _ _ _ _ _ _ _ _ _ _ _ h0 0 0 0 #[.val (.ref a), .unset, .unset] []
  have hTCS := Sta.ext hO.2 hSCS
  have hTAD := Sta.ext hO.2 hSAD
  have hTHB := Sta.ext hO.2 hSHB
  have hTLB := Sta.ext hO.2 hSLB
  have hTFM := Sta.ext hO.2 hSFM
  have n_1475 : a ≠ o := by obtain ⟨_, Ag, -⟩ := hA; exact ne_arr hE (own_w hw 7 rfl) Ag
  refine Go.iconst (pc' := 1) (v := (0 : Int32)) d6_0 rfl rfl ?_
  refine Go.istoreN (pc' := 2) (Ls' := #[.val (.ref a), .val (.int 0), .unset]) d6_1 rfl rfl ?_
  have hJ : (own_tx []) ↔ (own_tx []) := Iff.rfl
  refine Go.iloadN (pc' := 3) d6_2 rfl rfl ?_
  refine Go.aloadN (pc' := 4) d6_3 rfl rfl rfl ?_
  refine Go.callV (pc' := 7) (argsL := []) (rest := [(.int 0)]) (W := 1) (own_w hw 34 rfl) (own_w hw 35 rfl) (own_w hw 37 rfl) (own_w hw 36 rfl) (own_w hw 8 rfl) (own_w hw 38 rfl) (by decide) hE (m_ln0 l Z a0 hw a o [] (0 : Int32) cs h0 n0 z0 hO hSCS hcs hE hFV hFC hA rfl) d6_4 rfl pd15 rfl rfl (Nat.le_of_eq rfl) (by decide) (by decide) (by decide) (by decide) rfl ?_
  rintro _ _ ⟨r, rfl, rfl, hr⟩
  obtain rfl : r = (0 : Int32) := Int32.toInt_inj.mp (by rw [hr]; decide)
  show Go _ _ _ _ _ _ _ _ _ _ _ _ h0 (0 + 0) (0 + 0) 7 #[.val (.ref a), .val (.int 0), .unset] [(.int 0), (.int 0)]
  refine Go.icmp (pc1 := 67) (pc2 := 10) d6_7 (by decide) (by decide) rfl (fun (c_1476 : (0 : Int) ≤ (0 : Int)) => ?_) (fun (c_1476 : (0 : Int) < (0 : Int)) => ?_)
  rotate_left
  · exact absurd c_1476 (by decide)
  refine Go.iconst (pc' := 68) (v := (1 : Int32)) d6_67 rfl rfl ?_
  exact Go.retN (t := .boolean) d6_68 rfl (by simp) rfl ⟨_, rfl, rfl, by decide, ⟨fun _ => hJ.mpr trivial, fun _ => rfl⟩⟩ (by decide) (by decide)
set_option maxRecDepth 65536 in
set_option maxHeartbeats 40000000 in
theorem m_tx1_0 (l : Launch) (Z : State) (a0 : Array Value) (hw : ∀ d ∈ tables_1, d.before a0 Z = true) (a o : Addr) (b0 c0 : Int32) (cs : Int32) (fm : Value) (h0 : Heap) (n0 : Nat) (z0 : n0 ≤ h0.size) (hO : Old Z n0 h0) (hSCS : Sta Z Z.heap "java/lang/String" "COMPACT_STRINGS" "Z" (.int cs)) (hSAD : Sta Z Z.heap "java/lang/StringUTF16" "$assertionsDisabled" "Z" (.int 1)) (hSHB : Sta Z Z.heap "java/lang/StringUTF16" "HI_BYTE_SHIFT" "I" (.int 0)) (hSLB : Sta Z Z.heap "java/lang/StringUTF16" "LO_BYTE_SHIFT" "I" (.int 8)) (hSFM : Sta Z Z.heap "jdk/internal/util/Preconditions" "SIOOBE_FORMATTER" "Ljava/util/function/BiFunction;" fm) (hcs : cs.toInt ≠ 0) (hfm : fm.isRef = true) (hE : Exa Z h0 a "java/lang/String") (hFV : Fld Z h0 a "java/lang/String" "value" "[B" (.ref o)) (hFC : Fld Z h0 a "java/lang/String" "coder" "B" (.int 0)) (hA : Ary Z h0 o .byte [.int b0]) (e0 : b0.toInt % 256 = c0.toInt) : Mt .n l Z (⟨"com/example/consentry/consentry/io/Unicode", "isText", "(Ljava/lang/String;)Z"⟩ : MethodName) prog_29_method_2_code 3 (some .boolean) ({ frames := 5, cells := 0, slots := 0, locals := 75 } : Room) n0 (fun v h => ∃ r : Int32, v = some (.int r) ∧ h0 = h ∧ (r.toInt = 0 ∨ r.toInt = 1) ∧ (r.toInt = 1 ↔ (own_tx [c0]))) h0 #[(.ref a)] := by
  refine Mt.go (Ls := #[.val (.ref a), .unset, .unset]) (plainFor_of_name pn1) (fun m => by first | (simp [entryFrame, mkF, argsToLocals, Value.category]; done) | rfl) ?_
  show Go _ _ _ _ _ _ _ _ _ _ _ _ h0 0 0 0 #[.val (.ref a), .unset, .unset] []
  have hTCS := Sta.ext hO.2 hSCS
  have hTAD := Sta.ext hO.2 hSAD
  have hTHB := Sta.ext hO.2 hSHB
  have hTLB := Sta.ext hO.2 hSLB
  have hTFM := Sta.ext hO.2 hSFM
  have n_1477 : a ≠ o := by obtain ⟨_, Ag, -⟩ := hA; exact ne_arr hE (own_w hw 7 rfl) Ag
  refine Go.iconst (pc' := 1) (v := (0 : Int32)) d6_0 rfl rfl ?_
  refine Go.istoreN (pc' := 2) (Ls' := #[.val (.ref a), .val (.int 0), .unset]) d6_1 rfl rfl ?_
  have J1 : ∀ cc : Int32, ((own_tx [c0]) ↔ (own_tx [])) → (Go .n l ({ frames := 5, cells := 0, slots := 0, locals := 75 } : Room) Z (⟨"com/example/consentry/consentry/io/Unicode", "isText", "(Ljava/lang/String;)Z"⟩ : MethodName) prog_29_method_2_code 3 (some .boolean) n0 0 0 (fun v h => ∃ r : Int32, v = some (.int r) ∧ h0 = h ∧ (r.toInt = 0 ∨ r.toInt = 1) ∧ (r.toInt = 1 ↔ (own_tx [c0])))) h0 0 0 2 #[.val (.ref a), .val (.int 1), .val (.int cc)] [] := by
    intro cc hJ
    refine Go.iloadN (pc' := 3) d6_2 rfl rfl ?_
    refine Go.aloadN (pc' := 4) d6_3 rfl rfl rfl ?_
    refine Go.callV (pc' := 7) (argsL := []) (rest := [(.int 1)]) (W := 1) (own_w hw 34 rfl) (own_w hw 35 rfl) (own_w hw 37 rfl) (own_w hw 36 rfl) (own_w hw 8 rfl) (own_w hw 38 rfl) (by decide) hE (m_ln0 l Z a0 hw a o [.int b0] (1 : Int32) cs h0 n0 z0 hO hSCS hcs hE hFV hFC hA rfl) d6_4 rfl pd15 rfl rfl (Nat.le_of_eq rfl) (by decide) (by decide) (by decide) (by decide) rfl ?_
    rintro _ _ ⟨r, rfl, rfl, hr⟩
    obtain rfl : r = (1 : Int32) := Int32.toInt_inj.mp (by rw [hr]; decide)
    show Go _ _ _ _ _ _ _ _ _ _ _ _ h0 (0 + 0) (0 + 0) 7 #[.val (.ref a), .val (.int 1), .val (.int cc)] [(.int 1), (.int 1)]
    refine Go.icmp (pc1 := 67) (pc2 := 10) d6_7 (by decide) (by decide) rfl (fun (c_1478 : (1 : Int) ≤ (1 : Int)) => ?_) (fun (c_1478 : (1 : Int) < (1 : Int)) => ?_)
    rotate_left
    · exact absurd c_1478 (by decide)
    refine Go.iconst (pc' := 68) (v := (1 : Int32)) d6_67 rfl rfl ?_
    exact Go.retN (t := .boolean) d6_68 rfl (by simp) rfl ⟨_, rfl, rfl, by decide, ⟨fun _ => hJ.mpr trivial, fun _ => rfl⟩⟩ (by decide) (by decide)
  have hJ : (own_tx [c0]) ↔ (own_tx [c0]) := Iff.rfl
  refine Go.iloadN (pc' := 3) d6_2 rfl rfl ?_
  refine Go.aloadN (pc' := 4) d6_3 rfl rfl rfl ?_
  refine Go.callV (pc' := 7) (argsL := []) (rest := [(.int 0)]) (W := 1) (own_w hw 34 rfl) (own_w hw 35 rfl) (own_w hw 37 rfl) (own_w hw 36 rfl) (own_w hw 8 rfl) (own_w hw 38 rfl) (by decide) hE (m_ln0 l Z a0 hw a o [.int b0] (1 : Int32) cs h0 n0 z0 hO hSCS hcs hE hFV hFC hA rfl) d6_4 rfl pd15 rfl rfl (Nat.le_of_eq rfl) (by decide) (by decide) (by decide) (by decide) rfl ?_
  rintro _ _ ⟨r, rfl, rfl, hr⟩
  obtain rfl : r = (1 : Int32) := Int32.toInt_inj.mp (by rw [hr]; decide)
  show Go _ _ _ _ _ _ _ _ _ _ _ _ h0 (0 + 0) (0 + 0) 7 #[.val (.ref a), .val (.int 0), .unset] [(.int 1), (.int 0)]
  refine Go.icmp (pc1 := 67) (pc2 := 10) d6_7 (by decide) (by decide) rfl (fun (c_1479 : (1 : Int) ≤ (0 : Int)) => ?_) (fun (c_1479 : (0 : Int) < (1 : Int)) => ?_)
  · exact absurd c_1479 (by decide)
  refine Go.aloadN (pc' := 11) d6_10 rfl rfl rfl ?_
  refine Go.iloadN (pc' := 12) d6_11 rfl rfl ?_
  refine Go.callV (pc' := 15) (argsL := [(.int 0)]) (rest := []) (W := 0) (own_w hw 63 rfl) (own_w hw 64 rfl) (own_w hw 66 rfl) (own_w hw 65 rfl) (own_w hw 8 rfl) (own_w hw 67 rfl) (by decide) hE (m_ca0 l Z a0 hw a o [.int b0] (0 : Int32) (1 : Int32) b0 0 cs fm h0 n0 z0 hO hSCS hSAD hSHB hSLB hSFM hcs hfm hE hFV hFC hA rfl rfl (by decide) rfl) d6_12 rfl pd16 rfl rfl (Nat.le_of_eq rfl) (by decide) (by decide) (by decide) (by decide) rfl ?_
  rintro _ _ ⟨r, rfl, rfl, hr⟩
  obtain rfl : c0 = r := Int32.toInt_inj.mp (by rw [hr]; exact e0.symm)
  show Go _ _ _ _ _ _ _ _ _ _ _ _ h0 (0 + 0 + 0) (0 + 0 + 0) 15 #[.val (.ref a), .val (.int 0), .unset] [(.int c0)]
  refine Go.istoreN (pc' := 16) (Ls' := #[.val (.ref a), .val (.int 0), .val (.int c0)]) d6_15 rfl rfl ?_
  refine Go.iloadN (pc' := 17) d6_16 rfl rfl ?_
  refine Go.callS (pc' := 20) (argsL := [(.int c0)]) (rest := []) (W := 0) (own_w hw 85 rfl) (own_w hw 86 rfl) (own_w hw 87 rfl) (own_w hw 88 rfl) (by decide) (m_jh l Z a0 hw c0 h0 n0 z0) d6_17 rfl pd8 rfl rfl (Nat.le_of_eq rfl) (by decide) (by decide) (by decide) (by decide) rfl ?_
  rintro _ _ ⟨r_1480, rfl, rfl, hr_1480, ir_1480⟩
  show Go _ _ _ _ _ _ _ _ _ _ _ _ h0 (0 + 0 + 0 + 0) (0 + 0 + 0 + 0) 20 #[.val (.ref a), .val (.int 0), .val (.int c0)] [(.int r_1480)]
  refine Go.ifc (pc1 := 52) (pc2 := 23) d6_20 (by decide) (by decide) rfl (fun (c_1481 : r_1480.toInt = 0) => ?_) (fun (c_1481 : r_1480.toInt ≠ 0) => ?_)
  · have k1 : ¬ own_k c0 = 1 := own_b0 ir_1480 c_1481
    refine Go.iloadN (pc' := 53) d6_52 rfl rfl ?_
    refine Go.callS (pc' := 56) (argsL := [(.int c0)]) (rest := []) (W := 0) (own_w hw 90 rfl) (own_w hw 91 rfl) (own_w hw 87 rfl) (own_w hw 92 rfl) (by decide) (m_js l Z a0 hw c0 h0 n0 z0) d6_53 rfl pd8 rfl rfl (Nat.le_of_eq rfl) (by decide) (by decide) (by decide) (by decide) rfl ?_
    rintro _ _ ⟨r_1482, rfl, rfl, hr_1482, ir_1482⟩
    show Go _ _ _ _ _ _ _ _ _ _ _ _ h0 (0 + 0 + 0 + 0 + 0) (0 + 0 + 0 + 0 + 0) 56 #[.val (.ref a), .val (.int 0), .val (.int c0)] [(.int r_1482)]
    refine Go.ifc (pc1 := 61) (pc2 := 59) d6_56 (by decide) (by decide) rfl (fun (c_1483 : r_1482.toInt = 0) => ?_) (fun (c_1483 : r_1482.toInt ≠ 0) => ?_)
    · have k0 : own_k c0 = 0 := Decidable.not_not.mp (own_b0 ir_1482 c_1483)
      refine Go.iinc (pc' := 64) (w := (1 : Int32)) (Ls' := #[.val (.ref a), .val (.int 1), .val (.int c0)]) d6_61 rfl rfl rfl rfl ?_
      refine Go.goto (pc' := 2) d6_64 (by decide) (by decide) ?_
      exact J1 c0 (hJ.trans (own_tx_0 k0))
    · have k0 : own_k c0 ≠ 0 := own_b1 ir_1482 hr_1482 c_1483
      refine Go.iconst (pc' := 60) (v := (0 : Int32)) d6_59 rfl rfl ?_
      exact Go.retN (t := .boolean) d6_60 rfl (by simp) rfl ⟨_, rfl, rfl, by decide, own_f (fun t => own_tx_l (own_k2 k1 k0) (hJ.mp t))⟩ (by decide) (by decide)
  · have k1 : own_k c0 = 1 := own_b1 ir_1480 hr_1480 c_1481
    refine Go.iloadN (pc' := 24) d6_23 rfl rfl ?_
    refine Go.iconst (pc' := 25) (v := (1 : Int32)) d6_24 rfl rfl ?_
    refine Go.iadd (pc' := 26) d6_25 rfl ?_
    show Go _ _ _ _ _ _ _ _ _ _ _ _ h0 (0 + 0 + 0 + 0) (0 + 0 + 0 + 0) 26 #[.val (.ref a), .val (.int 0), .val (.int c0)] [(.int 1)]
    refine Go.aloadN (pc' := 27) d6_26 rfl rfl rfl ?_
    refine Go.callV (pc' := 30) (argsL := []) (rest := [(.int 1)]) (W := 1) (own_w hw 34 rfl) (own_w hw 35 rfl) (own_w hw 37 rfl) (own_w hw 36 rfl) (own_w hw 8 rfl) (own_w hw 38 rfl) (by decide) hE (m_ln0 l Z a0 hw a o [.int b0] (1 : Int32) cs h0 n0 z0 hO hSCS hcs hE hFV hFC hA rfl) d6_27 rfl pd15 rfl rfl (Nat.le_of_eq rfl) (by decide) (by decide) (by decide) (by decide) rfl ?_
    rintro _ _ ⟨r, rfl, rfl, hr⟩
    obtain rfl : r = (1 : Int32) := Int32.toInt_inj.mp (by rw [hr]; decide)
    show Go _ _ _ _ _ _ _ _ _ _ _ _ h0 (0 + 0 + 0 + 0 + 0) (0 + 0 + 0 + 0 + 0) 30 #[.val (.ref a), .val (.int 0), .val (.int c0)] [(.int 1), (.int 1)]
    refine Go.icmp (pc1 := 52) (pc2 := 33) d6_30 (by decide) (by decide) rfl (fun (c_1484 : (1 : Int) ≤ (1 : Int)) => ?_) (fun (c_1484 : (1 : Int) < (1 : Int)) => ?_)
    rotate_left
    · exact absurd c_1484 (by decide)
    refine Go.iloadN (pc' := 53) d6_52 rfl rfl ?_
    refine Go.callS (pc' := 56) (argsL := [(.int c0)]) (rest := []) (W := 0) (own_w hw 90 rfl) (own_w hw 91 rfl) (own_w hw 87 rfl) (own_w hw 92 rfl) (by decide) (m_js l Z a0 hw c0 h0 n0 z0) d6_53 rfl pd8 rfl rfl (Nat.le_of_eq rfl) (by decide) (by decide) (by decide) (by decide) rfl ?_
    rintro _ _ ⟨r_1485, rfl, rfl, hr_1485, ir_1485⟩
    show Go _ _ _ _ _ _ _ _ _ _ _ _ h0 (0 + 0 + 0 + 0 + 0 + 0) (0 + 0 + 0 + 0 + 0 + 0) 56 #[.val (.ref a), .val (.int 0), .val (.int c0)] [(.int r_1485)]
    refine Go.ifc (pc1 := 61) (pc2 := 59) d6_56 (by decide) (by decide) rfl (fun (c_1486 : r_1485.toInt = 0) => ?_) (fun (c_1486 : r_1485.toInt ≠ 0) => ?_)
    · exact absurd k1 (by have q := own_b0 ir_1485 c_1486; omega)
    refine Go.iconst (pc' := 60) (v := (0 : Int32)) d6_59 rfl rfl ?_
    exact Go.retN (t := .boolean) d6_60 rfl (by simp) rfl ⟨_, rfl, rfl, by decide, own_f (fun t => own_tx_h1 k1 (hJ.mp t))⟩ (by decide) (by decide)
set_option maxRecDepth 65536 in
set_option maxHeartbeats 40000000 in
theorem m_tx1_1 (l : Launch) (Z : State) (a0 : Array Value) (hw : ∀ d ∈ tables_1, d.before a0 Z = true) (a o : Addr) (l0 g0 c0 : Int32) (cs : Int32) (fm : Value) (h0 : Heap) (n0 : Nat) (z0 : n0 ≤ h0.size) (hO : Old Z n0 h0) (hSCS : Sta Z Z.heap "java/lang/String" "COMPACT_STRINGS" "Z" (.int cs)) (hSAD : Sta Z Z.heap "java/lang/StringUTF16" "$assertionsDisabled" "Z" (.int 1)) (hSHB : Sta Z Z.heap "java/lang/StringUTF16" "HI_BYTE_SHIFT" "I" (.int 0)) (hSLB : Sta Z Z.heap "java/lang/StringUTF16" "LO_BYTE_SHIFT" "I" (.int 8)) (hSFM : Sta Z Z.heap "jdk/internal/util/Preconditions" "SIOOBE_FORMATTER" "Ljava/util/function/BiFunction;" fm) (hcs : cs.toInt ≠ 0) (hfm : fm.isRef = true) (hE : Exa Z h0 a "java/lang/String") (hFV : Fld Z h0 a "java/lang/String" "value" "[B" (.ref o)) (hFC : Fld Z h0 a "java/lang/String" "coder" "B" (.int 1)) (hA : Ary Z h0 o .byte [.int l0, .int g0]) (e0 : l0.toInt % 256 + 256 * (g0.toInt % 256) = c0.toInt) : Mt .n l Z (⟨"com/example/consentry/consentry/io/Unicode", "isText", "(Ljava/lang/String;)Z"⟩ : MethodName) prog_29_method_2_code 3 (some .boolean) ({ frames := 5, cells := 0, slots := 0, locals := 75 } : Room) n0 (fun v h => ∃ r : Int32, v = some (.int r) ∧ h0 = h ∧ (r.toInt = 0 ∨ r.toInt = 1) ∧ (r.toInt = 1 ↔ (own_tx [c0]))) h0 #[(.ref a)] := by
  refine Mt.go (Ls := #[.val (.ref a), .unset, .unset]) (plainFor_of_name pn1) (fun m => by first | (simp [entryFrame, mkF, argsToLocals, Value.category]; done) | rfl) ?_
  show Go _ _ _ _ _ _ _ _ _ _ _ _ h0 0 0 0 #[.val (.ref a), .unset, .unset] []
  have hTCS := Sta.ext hO.2 hSCS
  have hTAD := Sta.ext hO.2 hSAD
  have hTHB := Sta.ext hO.2 hSHB
  have hTLB := Sta.ext hO.2 hSLB
  have hTFM := Sta.ext hO.2 hSFM
  have n_1487 : a ≠ o := by obtain ⟨_, Ag, -⟩ := hA; exact ne_arr hE (own_w hw 7 rfl) Ag
  refine Go.iconst (pc' := 1) (v := (0 : Int32)) d6_0 rfl rfl ?_
  refine Go.istoreN (pc' := 2) (Ls' := #[.val (.ref a), .val (.int 0), .unset]) d6_1 rfl rfl ?_
  have J1 : ∀ cc : Int32, ((own_tx [c0]) ↔ (own_tx [])) → (Go .n l ({ frames := 5, cells := 0, slots := 0, locals := 75 } : Room) Z (⟨"com/example/consentry/consentry/io/Unicode", "isText", "(Ljava/lang/String;)Z"⟩ : MethodName) prog_29_method_2_code 3 (some .boolean) n0 0 0 (fun v h => ∃ r : Int32, v = some (.int r) ∧ h0 = h ∧ (r.toInt = 0 ∨ r.toInt = 1) ∧ (r.toInt = 1 ↔ (own_tx [c0])))) h0 0 0 2 #[.val (.ref a), .val (.int 1), .val (.int cc)] [] := by
    intro cc hJ
    refine Go.iloadN (pc' := 3) d6_2 rfl rfl ?_
    refine Go.aloadN (pc' := 4) d6_3 rfl rfl rfl ?_
    refine Go.callV (pc' := 7) (argsL := []) (rest := [(.int 1)]) (W := 1) (own_w hw 34 rfl) (own_w hw 35 rfl) (own_w hw 37 rfl) (own_w hw 36 rfl) (own_w hw 8 rfl) (own_w hw 38 rfl) (by decide) hE (m_ln1 l Z a0 hw a o [.int l0, .int g0] (2 : Int32) cs h0 n0 z0 hO hSCS hcs hE hFV hFC hA rfl) d6_4 rfl pd15 rfl rfl (Nat.le_of_eq rfl) (by decide) (by decide) (by decide) (by decide) rfl ?_
    rintro _ _ ⟨r, rfl, rfl, hr⟩
    obtain rfl : r = (1 : Int32) := Int32.toInt_inj.mp (by rw [hr]; decide)
    show Go _ _ _ _ _ _ _ _ _ _ _ _ h0 (0 + 0) (0 + 0) 7 #[.val (.ref a), .val (.int 1), .val (.int cc)] [(.int 1), (.int 1)]
    refine Go.icmp (pc1 := 67) (pc2 := 10) d6_7 (by decide) (by decide) rfl (fun (c_1488 : (1 : Int) ≤ (1 : Int)) => ?_) (fun (c_1488 : (1 : Int) < (1 : Int)) => ?_)
    rotate_left
    · exact absurd c_1488 (by decide)
    refine Go.iconst (pc' := 68) (v := (1 : Int32)) d6_67 rfl rfl ?_
    exact Go.retN (t := .boolean) d6_68 rfl (by simp) rfl ⟨_, rfl, rfl, by decide, ⟨fun _ => hJ.mpr trivial, fun _ => rfl⟩⟩ (by decide) (by decide)
  have hJ : (own_tx [c0]) ↔ (own_tx [c0]) := Iff.rfl
  refine Go.iloadN (pc' := 3) d6_2 rfl rfl ?_
  refine Go.aloadN (pc' := 4) d6_3 rfl rfl rfl ?_
  refine Go.callV (pc' := 7) (argsL := []) (rest := [(.int 0)]) (W := 1) (own_w hw 34 rfl) (own_w hw 35 rfl) (own_w hw 37 rfl) (own_w hw 36 rfl) (own_w hw 8 rfl) (own_w hw 38 rfl) (by decide) hE (m_ln1 l Z a0 hw a o [.int l0, .int g0] (2 : Int32) cs h0 n0 z0 hO hSCS hcs hE hFV hFC hA rfl) d6_4 rfl pd15 rfl rfl (Nat.le_of_eq rfl) (by decide) (by decide) (by decide) (by decide) rfl ?_
  rintro _ _ ⟨r, rfl, rfl, hr⟩
  obtain rfl : r = (1 : Int32) := Int32.toInt_inj.mp (by rw [hr]; decide)
  show Go _ _ _ _ _ _ _ _ _ _ _ _ h0 (0 + 0) (0 + 0) 7 #[.val (.ref a), .val (.int 0), .unset] [(.int 1), (.int 0)]
  refine Go.icmp (pc1 := 67) (pc2 := 10) d6_7 (by decide) (by decide) rfl (fun (c_1489 : (1 : Int) ≤ (0 : Int)) => ?_) (fun (c_1489 : (0 : Int) < (1 : Int)) => ?_)
  · exact absurd c_1489 (by decide)
  refine Go.aloadN (pc' := 11) d6_10 rfl rfl rfl ?_
  refine Go.iloadN (pc' := 12) d6_11 rfl rfl ?_
  refine Go.callV (pc' := 15) (argsL := [(.int 0)]) (rest := []) (W := 0) (own_w hw 63 rfl) (own_w hw 64 rfl) (own_w hw 66 rfl) (own_w hw 65 rfl) (own_w hw 8 rfl) (own_w hw 67 rfl) (by decide) hE (m_ca1 l Z a0 hw a o [.int l0, .int g0] (0 : Int32) (2 : Int32) l0 g0 0 cs fm h0 n0 z0 hO hSCS hSAD hSHB hSLB hSFM hcs hfm hE hFV hFC hA rfl rfl (by decide) (by decide) rfl rfl) d6_12 rfl pd16 rfl rfl (Nat.le_of_eq rfl) (by decide) (by decide) (by decide) (by decide) rfl ?_
  rintro _ _ ⟨r, rfl, rfl, hr⟩
  obtain rfl : c0 = r := Int32.toInt_inj.mp (by rw [hr]; exact e0.symm)
  show Go _ _ _ _ _ _ _ _ _ _ _ _ h0 (0 + 0 + 0) (0 + 0 + 0) 15 #[.val (.ref a), .val (.int 0), .unset] [(.int c0)]
  refine Go.istoreN (pc' := 16) (Ls' := #[.val (.ref a), .val (.int 0), .val (.int c0)]) d6_15 rfl rfl ?_
  refine Go.iloadN (pc' := 17) d6_16 rfl rfl ?_
  refine Go.callS (pc' := 20) (argsL := [(.int c0)]) (rest := []) (W := 0) (own_w hw 85 rfl) (own_w hw 86 rfl) (own_w hw 87 rfl) (own_w hw 88 rfl) (by decide) (m_jh l Z a0 hw c0 h0 n0 z0) d6_17 rfl pd8 rfl rfl (Nat.le_of_eq rfl) (by decide) (by decide) (by decide) (by decide) rfl ?_
  rintro _ _ ⟨r_1490, rfl, rfl, hr_1490, ir_1490⟩
  show Go _ _ _ _ _ _ _ _ _ _ _ _ h0 (0 + 0 + 0 + 0) (0 + 0 + 0 + 0) 20 #[.val (.ref a), .val (.int 0), .val (.int c0)] [(.int r_1490)]
  refine Go.ifc (pc1 := 52) (pc2 := 23) d6_20 (by decide) (by decide) rfl (fun (c_1491 : r_1490.toInt = 0) => ?_) (fun (c_1491 : r_1490.toInt ≠ 0) => ?_)
  · have k1 : ¬ own_k c0 = 1 := own_b0 ir_1490 c_1491
    refine Go.iloadN (pc' := 53) d6_52 rfl rfl ?_
    refine Go.callS (pc' := 56) (argsL := [(.int c0)]) (rest := []) (W := 0) (own_w hw 90 rfl) (own_w hw 91 rfl) (own_w hw 87 rfl) (own_w hw 92 rfl) (by decide) (m_js l Z a0 hw c0 h0 n0 z0) d6_53 rfl pd8 rfl rfl (Nat.le_of_eq rfl) (by decide) (by decide) (by decide) (by decide) rfl ?_
    rintro _ _ ⟨r_1492, rfl, rfl, hr_1492, ir_1492⟩
    show Go _ _ _ _ _ _ _ _ _ _ _ _ h0 (0 + 0 + 0 + 0 + 0) (0 + 0 + 0 + 0 + 0) 56 #[.val (.ref a), .val (.int 0), .val (.int c0)] [(.int r_1492)]
    refine Go.ifc (pc1 := 61) (pc2 := 59) d6_56 (by decide) (by decide) rfl (fun (c_1493 : r_1492.toInt = 0) => ?_) (fun (c_1493 : r_1492.toInt ≠ 0) => ?_)
    · have k0 : own_k c0 = 0 := Decidable.not_not.mp (own_b0 ir_1492 c_1493)
      refine Go.iinc (pc' := 64) (w := (1 : Int32)) (Ls' := #[.val (.ref a), .val (.int 1), .val (.int c0)]) d6_61 rfl rfl rfl rfl ?_
      refine Go.goto (pc' := 2) d6_64 (by decide) (by decide) ?_
      exact J1 c0 (hJ.trans (own_tx_0 k0))
    · have k0 : own_k c0 ≠ 0 := own_b1 ir_1492 hr_1492 c_1493
      refine Go.iconst (pc' := 60) (v := (0 : Int32)) d6_59 rfl rfl ?_
      exact Go.retN (t := .boolean) d6_60 rfl (by simp) rfl ⟨_, rfl, rfl, by decide, own_f (fun t => own_tx_l (own_k2 k1 k0) (hJ.mp t))⟩ (by decide) (by decide)
  · have k1 : own_k c0 = 1 := own_b1 ir_1490 hr_1490 c_1491
    refine Go.iloadN (pc' := 24) d6_23 rfl rfl ?_
    refine Go.iconst (pc' := 25) (v := (1 : Int32)) d6_24 rfl rfl ?_
    refine Go.iadd (pc' := 26) d6_25 rfl ?_
    show Go _ _ _ _ _ _ _ _ _ _ _ _ h0 (0 + 0 + 0 + 0) (0 + 0 + 0 + 0) 26 #[.val (.ref a), .val (.int 0), .val (.int c0)] [(.int 1)]
    refine Go.aloadN (pc' := 27) d6_26 rfl rfl rfl ?_
    refine Go.callV (pc' := 30) (argsL := []) (rest := [(.int 1)]) (W := 1) (own_w hw 34 rfl) (own_w hw 35 rfl) (own_w hw 37 rfl) (own_w hw 36 rfl) (own_w hw 8 rfl) (own_w hw 38 rfl) (by decide) hE (m_ln1 l Z a0 hw a o [.int l0, .int g0] (2 : Int32) cs h0 n0 z0 hO hSCS hcs hE hFV hFC hA rfl) d6_27 rfl pd15 rfl rfl (Nat.le_of_eq rfl) (by decide) (by decide) (by decide) (by decide) rfl ?_
    rintro _ _ ⟨r, rfl, rfl, hr⟩
    obtain rfl : r = (1 : Int32) := Int32.toInt_inj.mp (by rw [hr]; decide)
    show Go _ _ _ _ _ _ _ _ _ _ _ _ h0 (0 + 0 + 0 + 0 + 0) (0 + 0 + 0 + 0 + 0) 30 #[.val (.ref a), .val (.int 0), .val (.int c0)] [(.int 1), (.int 1)]
    refine Go.icmp (pc1 := 52) (pc2 := 33) d6_30 (by decide) (by decide) rfl (fun (c_1494 : (1 : Int) ≤ (1 : Int)) => ?_) (fun (c_1494 : (1 : Int) < (1 : Int)) => ?_)
    rotate_left
    · exact absurd c_1494 (by decide)
    refine Go.iloadN (pc' := 53) d6_52 rfl rfl ?_
    refine Go.callS (pc' := 56) (argsL := [(.int c0)]) (rest := []) (W := 0) (own_w hw 90 rfl) (own_w hw 91 rfl) (own_w hw 87 rfl) (own_w hw 92 rfl) (by decide) (m_js l Z a0 hw c0 h0 n0 z0) d6_53 rfl pd8 rfl rfl (Nat.le_of_eq rfl) (by decide) (by decide) (by decide) (by decide) rfl ?_
    rintro _ _ ⟨r_1495, rfl, rfl, hr_1495, ir_1495⟩
    show Go _ _ _ _ _ _ _ _ _ _ _ _ h0 (0 + 0 + 0 + 0 + 0 + 0) (0 + 0 + 0 + 0 + 0 + 0) 56 #[.val (.ref a), .val (.int 0), .val (.int c0)] [(.int r_1495)]
    refine Go.ifc (pc1 := 61) (pc2 := 59) d6_56 (by decide) (by decide) rfl (fun (c_1496 : r_1495.toInt = 0) => ?_) (fun (c_1496 : r_1495.toInt ≠ 0) => ?_)
    · exact absurd k1 (by have q := own_b0 ir_1495 c_1496; omega)
    refine Go.iconst (pc' := 60) (v := (0 : Int32)) d6_59 rfl rfl ?_
    exact Go.retN (t := .boolean) d6_60 rfl (by simp) rfl ⟨_, rfl, rfl, by decide, own_f (fun t => own_tx_h1 k1 (hJ.mp t))⟩ (by decide) (by decide)
set_option maxRecDepth 65536 in
set_option maxHeartbeats 40000000 in
theorem m_tx2_0 (l : Launch) (Z : State) (a0 : Array Value) (hw : ∀ d ∈ tables_1, d.before a0 Z = true) (a o : Addr) (b0 b1 c0 c1 : Int32) (cs : Int32) (fm : Value) (h0 : Heap) (n0 : Nat) (z0 : n0 ≤ h0.size) (hO : Old Z n0 h0) (hSCS : Sta Z Z.heap "java/lang/String" "COMPACT_STRINGS" "Z" (.int cs)) (hSAD : Sta Z Z.heap "java/lang/StringUTF16" "$assertionsDisabled" "Z" (.int 1)) (hSHB : Sta Z Z.heap "java/lang/StringUTF16" "HI_BYTE_SHIFT" "I" (.int 0)) (hSLB : Sta Z Z.heap "java/lang/StringUTF16" "LO_BYTE_SHIFT" "I" (.int 8)) (hSFM : Sta Z Z.heap "jdk/internal/util/Preconditions" "SIOOBE_FORMATTER" "Ljava/util/function/BiFunction;" fm) (hcs : cs.toInt ≠ 0) (hfm : fm.isRef = true) (hE : Exa Z h0 a "java/lang/String") (hFV : Fld Z h0 a "java/lang/String" "value" "[B" (.ref o)) (hFC : Fld Z h0 a "java/lang/String" "coder" "B" (.int 0)) (hA : Ary Z h0 o .byte [.int b0, .int b1]) (e0 : b0.toInt % 256 = c0.toInt) (e1 : b1.toInt % 256 = c1.toInt) : Mt .n l Z (⟨"com/example/consentry/consentry/io/Unicode", "isText", "(Ljava/lang/String;)Z"⟩ : MethodName) prog_29_method_2_code 3 (some .boolean) ({ frames := 5, cells := 0, slots := 0, locals := 75 } : Room) n0 (fun v h => ∃ r : Int32, v = some (.int r) ∧ h0 = h ∧ (r.toInt = 0 ∨ r.toInt = 1) ∧ (r.toInt = 1 ↔ (own_tx [c0, c1]))) h0 #[(.ref a)] := by
  refine Mt.go (Ls := #[.val (.ref a), .unset, .unset]) (plainFor_of_name pn1) (fun m => by first | (simp [entryFrame, mkF, argsToLocals, Value.category]; done) | rfl) ?_
  show Go _ _ _ _ _ _ _ _ _ _ _ _ h0 0 0 0 #[.val (.ref a), .unset, .unset] []
  have hTCS := Sta.ext hO.2 hSCS
  have hTAD := Sta.ext hO.2 hSAD
  have hTHB := Sta.ext hO.2 hSHB
  have hTLB := Sta.ext hO.2 hSLB
  have hTFM := Sta.ext hO.2 hSFM
  have n_1497 : a ≠ o := by obtain ⟨_, Ag, -⟩ := hA; exact ne_arr hE (own_w hw 7 rfl) Ag
  refine Go.iconst (pc' := 1) (v := (0 : Int32)) d6_0 rfl rfl ?_
  refine Go.istoreN (pc' := 2) (Ls' := #[.val (.ref a), .val (.int 0), .unset]) d6_1 rfl rfl ?_
  have J2 : ∀ cc : Int32, ((own_tx [c0, c1]) ↔ (own_tx [])) → (Go .n l ({ frames := 5, cells := 0, slots := 0, locals := 75 } : Room) Z (⟨"com/example/consentry/consentry/io/Unicode", "isText", "(Ljava/lang/String;)Z"⟩ : MethodName) prog_29_method_2_code 3 (some .boolean) n0 0 0 (fun v h => ∃ r : Int32, v = some (.int r) ∧ h0 = h ∧ (r.toInt = 0 ∨ r.toInt = 1) ∧ (r.toInt = 1 ↔ (own_tx [c0, c1])))) h0 0 0 2 #[.val (.ref a), .val (.int 2), .val (.int cc)] [] := by
    intro cc hJ
    refine Go.iloadN (pc' := 3) d6_2 rfl rfl ?_
    refine Go.aloadN (pc' := 4) d6_3 rfl rfl rfl ?_
    refine Go.callV (pc' := 7) (argsL := []) (rest := [(.int 2)]) (W := 1) (own_w hw 34 rfl) (own_w hw 35 rfl) (own_w hw 37 rfl) (own_w hw 36 rfl) (own_w hw 8 rfl) (own_w hw 38 rfl) (by decide) hE (m_ln0 l Z a0 hw a o [.int b0, .int b1] (2 : Int32) cs h0 n0 z0 hO hSCS hcs hE hFV hFC hA rfl) d6_4 rfl pd15 rfl rfl (Nat.le_of_eq rfl) (by decide) (by decide) (by decide) (by decide) rfl ?_
    rintro _ _ ⟨r, rfl, rfl, hr⟩
    obtain rfl : r = (2 : Int32) := Int32.toInt_inj.mp (by rw [hr]; decide)
    show Go _ _ _ _ _ _ _ _ _ _ _ _ h0 (0 + 0) (0 + 0) 7 #[.val (.ref a), .val (.int 2), .val (.int cc)] [(.int 2), (.int 2)]
    refine Go.icmp (pc1 := 67) (pc2 := 10) d6_7 (by decide) (by decide) rfl (fun (c_1498 : (2 : Int) ≤ (2 : Int)) => ?_) (fun (c_1498 : (2 : Int) < (2 : Int)) => ?_)
    rotate_left
    · exact absurd c_1498 (by decide)
    refine Go.iconst (pc' := 68) (v := (1 : Int32)) d6_67 rfl rfl ?_
    exact Go.retN (t := .boolean) d6_68 rfl (by simp) rfl ⟨_, rfl, rfl, by decide, ⟨fun _ => hJ.mpr trivial, fun _ => rfl⟩⟩ (by decide) (by decide)
  have J1 : ∀ cc : Int32, ((own_tx [c0, c1]) ↔ (own_tx [c1])) → (Go .n l ({ frames := 5, cells := 0, slots := 0, locals := 75 } : Room) Z (⟨"com/example/consentry/consentry/io/Unicode", "isText", "(Ljava/lang/String;)Z"⟩ : MethodName) prog_29_method_2_code 3 (some .boolean) n0 0 0 (fun v h => ∃ r : Int32, v = some (.int r) ∧ h0 = h ∧ (r.toInt = 0 ∨ r.toInt = 1) ∧ (r.toInt = 1 ↔ (own_tx [c0, c1])))) h0 0 0 2 #[.val (.ref a), .val (.int 1), .val (.int cc)] [] := by
    intro cc hJ
    refine Go.iloadN (pc' := 3) d6_2 rfl rfl ?_
    refine Go.aloadN (pc' := 4) d6_3 rfl rfl rfl ?_
    refine Go.callV (pc' := 7) (argsL := []) (rest := [(.int 1)]) (W := 1) (own_w hw 34 rfl) (own_w hw 35 rfl) (own_w hw 37 rfl) (own_w hw 36 rfl) (own_w hw 8 rfl) (own_w hw 38 rfl) (by decide) hE (m_ln0 l Z a0 hw a o [.int b0, .int b1] (2 : Int32) cs h0 n0 z0 hO hSCS hcs hE hFV hFC hA rfl) d6_4 rfl pd15 rfl rfl (Nat.le_of_eq rfl) (by decide) (by decide) (by decide) (by decide) rfl ?_
    rintro _ _ ⟨r, rfl, rfl, hr⟩
    obtain rfl : r = (2 : Int32) := Int32.toInt_inj.mp (by rw [hr]; decide)
    show Go _ _ _ _ _ _ _ _ _ _ _ _ h0 (0 + 0) (0 + 0) 7 #[.val (.ref a), .val (.int 1), .val (.int cc)] [(.int 2), (.int 1)]
    refine Go.icmp (pc1 := 67) (pc2 := 10) d6_7 (by decide) (by decide) rfl (fun (c_1499 : (2 : Int) ≤ (1 : Int)) => ?_) (fun (c_1499 : (1 : Int) < (2 : Int)) => ?_)
    · exact absurd c_1499 (by decide)
    refine Go.aloadN (pc' := 11) d6_10 rfl rfl rfl ?_
    refine Go.iloadN (pc' := 12) d6_11 rfl rfl ?_
    refine Go.callV (pc' := 15) (argsL := [(.int 1)]) (rest := []) (W := 0) (own_w hw 63 rfl) (own_w hw 64 rfl) (own_w hw 66 rfl) (own_w hw 65 rfl) (own_w hw 8 rfl) (own_w hw 67 rfl) (by decide) hE (m_ca0 l Z a0 hw a o [.int b0, .int b1] (1 : Int32) (2 : Int32) b1 1 cs fm h0 n0 z0 hO hSCS hSAD hSHB hSLB hSFM hcs hfm hE hFV hFC hA rfl rfl (by decide) rfl) d6_12 rfl pd16 rfl rfl (Nat.le_of_eq rfl) (by decide) (by decide) (by decide) (by decide) rfl ?_
    rintro _ _ ⟨r, rfl, rfl, hr⟩
    obtain rfl : c1 = r := Int32.toInt_inj.mp (by rw [hr]; exact e1.symm)
    show Go _ _ _ _ _ _ _ _ _ _ _ _ h0 (0 + 0 + 0) (0 + 0 + 0) 15 #[.val (.ref a), .val (.int 1), .val (.int cc)] [(.int c1)]
    refine Go.istoreN (pc' := 16) (Ls' := #[.val (.ref a), .val (.int 1), .val (.int c1)]) d6_15 rfl rfl ?_
    refine Go.iloadN (pc' := 17) d6_16 rfl rfl ?_
    refine Go.callS (pc' := 20) (argsL := [(.int c1)]) (rest := []) (W := 0) (own_w hw 85 rfl) (own_w hw 86 rfl) (own_w hw 87 rfl) (own_w hw 88 rfl) (by decide) (m_jh l Z a0 hw c1 h0 n0 z0) d6_17 rfl pd8 rfl rfl (Nat.le_of_eq rfl) (by decide) (by decide) (by decide) (by decide) rfl ?_
    rintro _ _ ⟨r_1500, rfl, rfl, hr_1500, ir_1500⟩
    show Go _ _ _ _ _ _ _ _ _ _ _ _ h0 (0 + 0 + 0 + 0) (0 + 0 + 0 + 0) 20 #[.val (.ref a), .val (.int 1), .val (.int c1)] [(.int r_1500)]
    refine Go.ifc (pc1 := 52) (pc2 := 23) d6_20 (by decide) (by decide) rfl (fun (c_1501 : r_1500.toInt = 0) => ?_) (fun (c_1501 : r_1500.toInt ≠ 0) => ?_)
    · have k1 : ¬ own_k c1 = 1 := own_b0 ir_1500 c_1501
      refine Go.iloadN (pc' := 53) d6_52 rfl rfl ?_
      refine Go.callS (pc' := 56) (argsL := [(.int c1)]) (rest := []) (W := 0) (own_w hw 90 rfl) (own_w hw 91 rfl) (own_w hw 87 rfl) (own_w hw 92 rfl) (by decide) (m_js l Z a0 hw c1 h0 n0 z0) d6_53 rfl pd8 rfl rfl (Nat.le_of_eq rfl) (by decide) (by decide) (by decide) (by decide) rfl ?_
      rintro _ _ ⟨r_1502, rfl, rfl, hr_1502, ir_1502⟩
      show Go _ _ _ _ _ _ _ _ _ _ _ _ h0 (0 + 0 + 0 + 0 + 0) (0 + 0 + 0 + 0 + 0) 56 #[.val (.ref a), .val (.int 1), .val (.int c1)] [(.int r_1502)]
      refine Go.ifc (pc1 := 61) (pc2 := 59) d6_56 (by decide) (by decide) rfl (fun (c_1503 : r_1502.toInt = 0) => ?_) (fun (c_1503 : r_1502.toInt ≠ 0) => ?_)
      · have k0 : own_k c1 = 0 := Decidable.not_not.mp (own_b0 ir_1502 c_1503)
        refine Go.iinc (pc' := 64) (w := (2 : Int32)) (Ls' := #[.val (.ref a), .val (.int 2), .val (.int c1)]) d6_61 rfl rfl rfl rfl ?_
        refine Go.goto (pc' := 2) d6_64 (by decide) (by decide) ?_
        exact J2 c1 (hJ.trans (own_tx_0 k0))
      · have k0 : own_k c1 ≠ 0 := own_b1 ir_1502 hr_1502 c_1503
        refine Go.iconst (pc' := 60) (v := (0 : Int32)) d6_59 rfl rfl ?_
        exact Go.retN (t := .boolean) d6_60 rfl (by simp) rfl ⟨_, rfl, rfl, by decide, own_f (fun t => own_tx_l (own_k2 k1 k0) (hJ.mp t))⟩ (by decide) (by decide)
    · have k1 : own_k c1 = 1 := own_b1 ir_1500 hr_1500 c_1501
      refine Go.iloadN (pc' := 24) d6_23 rfl rfl ?_
      refine Go.iconst (pc' := 25) (v := (1 : Int32)) d6_24 rfl rfl ?_
      refine Go.iadd (pc' := 26) d6_25 rfl ?_
      show Go _ _ _ _ _ _ _ _ _ _ _ _ h0 (0 + 0 + 0 + 0) (0 + 0 + 0 + 0) 26 #[.val (.ref a), .val (.int 1), .val (.int c1)] [(.int 2)]
      refine Go.aloadN (pc' := 27) d6_26 rfl rfl rfl ?_
      refine Go.callV (pc' := 30) (argsL := []) (rest := [(.int 2)]) (W := 1) (own_w hw 34 rfl) (own_w hw 35 rfl) (own_w hw 37 rfl) (own_w hw 36 rfl) (own_w hw 8 rfl) (own_w hw 38 rfl) (by decide) hE (m_ln0 l Z a0 hw a o [.int b0, .int b1] (2 : Int32) cs h0 n0 z0 hO hSCS hcs hE hFV hFC hA rfl) d6_27 rfl pd15 rfl rfl (Nat.le_of_eq rfl) (by decide) (by decide) (by decide) (by decide) rfl ?_
      rintro _ _ ⟨r, rfl, rfl, hr⟩
      obtain rfl : r = (2 : Int32) := Int32.toInt_inj.mp (by rw [hr]; decide)
      show Go _ _ _ _ _ _ _ _ _ _ _ _ h0 (0 + 0 + 0 + 0 + 0) (0 + 0 + 0 + 0 + 0) 30 #[.val (.ref a), .val (.int 1), .val (.int c1)] [(.int 2), (.int 2)]
      refine Go.icmp (pc1 := 52) (pc2 := 33) d6_30 (by decide) (by decide) rfl (fun (c_1504 : (2 : Int) ≤ (2 : Int)) => ?_) (fun (c_1504 : (2 : Int) < (2 : Int)) => ?_)
      rotate_left
      · exact absurd c_1504 (by decide)
      refine Go.iloadN (pc' := 53) d6_52 rfl rfl ?_
      refine Go.callS (pc' := 56) (argsL := [(.int c1)]) (rest := []) (W := 0) (own_w hw 90 rfl) (own_w hw 91 rfl) (own_w hw 87 rfl) (own_w hw 92 rfl) (by decide) (m_js l Z a0 hw c1 h0 n0 z0) d6_53 rfl pd8 rfl rfl (Nat.le_of_eq rfl) (by decide) (by decide) (by decide) (by decide) rfl ?_
      rintro _ _ ⟨r_1505, rfl, rfl, hr_1505, ir_1505⟩
      show Go _ _ _ _ _ _ _ _ _ _ _ _ h0 (0 + 0 + 0 + 0 + 0 + 0) (0 + 0 + 0 + 0 + 0 + 0) 56 #[.val (.ref a), .val (.int 1), .val (.int c1)] [(.int r_1505)]
      refine Go.ifc (pc1 := 61) (pc2 := 59) d6_56 (by decide) (by decide) rfl (fun (c_1506 : r_1505.toInt = 0) => ?_) (fun (c_1506 : r_1505.toInt ≠ 0) => ?_)
      · exact absurd k1 (by have q := own_b0 ir_1505 c_1506; omega)
      refine Go.iconst (pc' := 60) (v := (0 : Int32)) d6_59 rfl rfl ?_
      exact Go.retN (t := .boolean) d6_60 rfl (by simp) rfl ⟨_, rfl, rfl, by decide, own_f (fun t => own_tx_h1 k1 (hJ.mp t))⟩ (by decide) (by decide)
  have hJ : (own_tx [c0, c1]) ↔ (own_tx [c0, c1]) := Iff.rfl
  refine Go.iloadN (pc' := 3) d6_2 rfl rfl ?_
  refine Go.aloadN (pc' := 4) d6_3 rfl rfl rfl ?_
  refine Go.callV (pc' := 7) (argsL := []) (rest := [(.int 0)]) (W := 1) (own_w hw 34 rfl) (own_w hw 35 rfl) (own_w hw 37 rfl) (own_w hw 36 rfl) (own_w hw 8 rfl) (own_w hw 38 rfl) (by decide) hE (m_ln0 l Z a0 hw a o [.int b0, .int b1] (2 : Int32) cs h0 n0 z0 hO hSCS hcs hE hFV hFC hA rfl) d6_4 rfl pd15 rfl rfl (Nat.le_of_eq rfl) (by decide) (by decide) (by decide) (by decide) rfl ?_
  rintro _ _ ⟨r, rfl, rfl, hr⟩
  obtain rfl : r = (2 : Int32) := Int32.toInt_inj.mp (by rw [hr]; decide)
  show Go _ _ _ _ _ _ _ _ _ _ _ _ h0 (0 + 0) (0 + 0) 7 #[.val (.ref a), .val (.int 0), .unset] [(.int 2), (.int 0)]
  refine Go.icmp (pc1 := 67) (pc2 := 10) d6_7 (by decide) (by decide) rfl (fun (c_1507 : (2 : Int) ≤ (0 : Int)) => ?_) (fun (c_1507 : (0 : Int) < (2 : Int)) => ?_)
  · exact absurd c_1507 (by decide)
  refine Go.aloadN (pc' := 11) d6_10 rfl rfl rfl ?_
  refine Go.iloadN (pc' := 12) d6_11 rfl rfl ?_
  refine Go.callV (pc' := 15) (argsL := [(.int 0)]) (rest := []) (W := 0) (own_w hw 63 rfl) (own_w hw 64 rfl) (own_w hw 66 rfl) (own_w hw 65 rfl) (own_w hw 8 rfl) (own_w hw 67 rfl) (by decide) hE (m_ca0 l Z a0 hw a o [.int b0, .int b1] (0 : Int32) (2 : Int32) b0 0 cs fm h0 n0 z0 hO hSCS hSAD hSHB hSLB hSFM hcs hfm hE hFV hFC hA rfl rfl (by decide) rfl) d6_12 rfl pd16 rfl rfl (Nat.le_of_eq rfl) (by decide) (by decide) (by decide) (by decide) rfl ?_
  rintro _ _ ⟨r, rfl, rfl, hr⟩
  obtain rfl : c0 = r := Int32.toInt_inj.mp (by rw [hr]; exact e0.symm)
  show Go _ _ _ _ _ _ _ _ _ _ _ _ h0 (0 + 0 + 0) (0 + 0 + 0) 15 #[.val (.ref a), .val (.int 0), .unset] [(.int c0)]
  refine Go.istoreN (pc' := 16) (Ls' := #[.val (.ref a), .val (.int 0), .val (.int c0)]) d6_15 rfl rfl ?_
  refine Go.iloadN (pc' := 17) d6_16 rfl rfl ?_
  refine Go.callS (pc' := 20) (argsL := [(.int c0)]) (rest := []) (W := 0) (own_w hw 85 rfl) (own_w hw 86 rfl) (own_w hw 87 rfl) (own_w hw 88 rfl) (by decide) (m_jh l Z a0 hw c0 h0 n0 z0) d6_17 rfl pd8 rfl rfl (Nat.le_of_eq rfl) (by decide) (by decide) (by decide) (by decide) rfl ?_
  rintro _ _ ⟨r_1508, rfl, rfl, hr_1508, ir_1508⟩
  show Go _ _ _ _ _ _ _ _ _ _ _ _ h0 (0 + 0 + 0 + 0) (0 + 0 + 0 + 0) 20 #[.val (.ref a), .val (.int 0), .val (.int c0)] [(.int r_1508)]
  refine Go.ifc (pc1 := 52) (pc2 := 23) d6_20 (by decide) (by decide) rfl (fun (c_1509 : r_1508.toInt = 0) => ?_) (fun (c_1509 : r_1508.toInt ≠ 0) => ?_)
  · have k1 : ¬ own_k c0 = 1 := own_b0 ir_1508 c_1509
    refine Go.iloadN (pc' := 53) d6_52 rfl rfl ?_
    refine Go.callS (pc' := 56) (argsL := [(.int c0)]) (rest := []) (W := 0) (own_w hw 90 rfl) (own_w hw 91 rfl) (own_w hw 87 rfl) (own_w hw 92 rfl) (by decide) (m_js l Z a0 hw c0 h0 n0 z0) d6_53 rfl pd8 rfl rfl (Nat.le_of_eq rfl) (by decide) (by decide) (by decide) (by decide) rfl ?_
    rintro _ _ ⟨r_1510, rfl, rfl, hr_1510, ir_1510⟩
    show Go _ _ _ _ _ _ _ _ _ _ _ _ h0 (0 + 0 + 0 + 0 + 0) (0 + 0 + 0 + 0 + 0) 56 #[.val (.ref a), .val (.int 0), .val (.int c0)] [(.int r_1510)]
    refine Go.ifc (pc1 := 61) (pc2 := 59) d6_56 (by decide) (by decide) rfl (fun (c_1511 : r_1510.toInt = 0) => ?_) (fun (c_1511 : r_1510.toInt ≠ 0) => ?_)
    · have k0 : own_k c0 = 0 := Decidable.not_not.mp (own_b0 ir_1510 c_1511)
      refine Go.iinc (pc' := 64) (w := (1 : Int32)) (Ls' := #[.val (.ref a), .val (.int 1), .val (.int c0)]) d6_61 rfl rfl rfl rfl ?_
      refine Go.goto (pc' := 2) d6_64 (by decide) (by decide) ?_
      exact J1 c0 (hJ.trans (own_tx_0 k0))
    · have k0 : own_k c0 ≠ 0 := own_b1 ir_1510 hr_1510 c_1511
      refine Go.iconst (pc' := 60) (v := (0 : Int32)) d6_59 rfl rfl ?_
      exact Go.retN (t := .boolean) d6_60 rfl (by simp) rfl ⟨_, rfl, rfl, by decide, own_f (fun t => own_tx_l (own_k2 k1 k0) (hJ.mp t))⟩ (by decide) (by decide)
  · have k1 : own_k c0 = 1 := own_b1 ir_1508 hr_1508 c_1509
    refine Go.iloadN (pc' := 24) d6_23 rfl rfl ?_
    refine Go.iconst (pc' := 25) (v := (1 : Int32)) d6_24 rfl rfl ?_
    refine Go.iadd (pc' := 26) d6_25 rfl ?_
    show Go _ _ _ _ _ _ _ _ _ _ _ _ h0 (0 + 0 + 0 + 0) (0 + 0 + 0 + 0) 26 #[.val (.ref a), .val (.int 0), .val (.int c0)] [(.int 1)]
    refine Go.aloadN (pc' := 27) d6_26 rfl rfl rfl ?_
    refine Go.callV (pc' := 30) (argsL := []) (rest := [(.int 1)]) (W := 1) (own_w hw 34 rfl) (own_w hw 35 rfl) (own_w hw 37 rfl) (own_w hw 36 rfl) (own_w hw 8 rfl) (own_w hw 38 rfl) (by decide) hE (m_ln0 l Z a0 hw a o [.int b0, .int b1] (2 : Int32) cs h0 n0 z0 hO hSCS hcs hE hFV hFC hA rfl) d6_27 rfl pd15 rfl rfl (Nat.le_of_eq rfl) (by decide) (by decide) (by decide) (by decide) rfl ?_
    rintro _ _ ⟨r, rfl, rfl, hr⟩
    obtain rfl : r = (2 : Int32) := Int32.toInt_inj.mp (by rw [hr]; decide)
    show Go _ _ _ _ _ _ _ _ _ _ _ _ h0 (0 + 0 + 0 + 0 + 0) (0 + 0 + 0 + 0 + 0) 30 #[.val (.ref a), .val (.int 0), .val (.int c0)] [(.int 2), (.int 1)]
    refine Go.icmp (pc1 := 52) (pc2 := 33) d6_30 (by decide) (by decide) rfl (fun (c_1512 : (2 : Int) ≤ (1 : Int)) => ?_) (fun (c_1512 : (1 : Int) < (2 : Int)) => ?_)
    · exact absurd c_1512 (by decide)
    refine Go.aloadN (pc' := 34) d6_33 rfl rfl rfl ?_
    refine Go.iloadN (pc' := 35) d6_34 rfl rfl ?_
    refine Go.iconst (pc' := 36) (v := (1 : Int32)) d6_35 rfl rfl ?_
    refine Go.iadd (pc' := 37) d6_36 rfl ?_
    show Go _ _ _ _ _ _ _ _ _ _ _ _ h0 (0 + 0 + 0 + 0 + 0) (0 + 0 + 0 + 0 + 0) 37 #[.val (.ref a), .val (.int 0), .val (.int c0)] [(.int 1), (.ref a)]
    refine Go.callV (pc' := 40) (argsL := [(.int 1)]) (rest := []) (W := 0) (own_w hw 63 rfl) (own_w hw 64 rfl) (own_w hw 66 rfl) (own_w hw 65 rfl) (own_w hw 8 rfl) (own_w hw 67 rfl) (by decide) hE (m_ca0 l Z a0 hw a o [.int b0, .int b1] (1 : Int32) (2 : Int32) b1 1 cs fm h0 n0 z0 hO hSCS hSAD hSHB hSLB hSFM hcs hfm hE hFV hFC hA rfl rfl (by decide) rfl) d6_37 rfl pd16 rfl rfl (Nat.le_of_eq rfl) (by decide) (by decide) (by decide) (by decide) rfl ?_
    rintro _ _ ⟨r, rfl, rfl, hr⟩
    obtain rfl : c1 = r := Int32.toInt_inj.mp (by rw [hr]; exact e1.symm)
    show Go _ _ _ _ _ _ _ _ _ _ _ _ h0 (0 + 0 + 0 + 0 + 0 + 0) (0 + 0 + 0 + 0 + 0 + 0) 40 #[.val (.ref a), .val (.int 0), .val (.int c0)] [(.int c1)]
    refine Go.callS (pc' := 43) (argsL := [(.int c1)]) (rest := []) (W := 0) (own_w hw 126 rfl) (own_w hw 127 rfl) (own_w hw 87 rfl) (own_w hw 128 rfl) (by decide) (m_jl l Z a0 hw c1 h0 n0 z0) d6_40 rfl pd8 rfl rfl (Nat.le_of_eq rfl) (by decide) (by decide) (by decide) (by decide) rfl ?_
    rintro _ _ ⟨r_1513, rfl, rfl, hr_1513, ir_1513⟩
    show Go _ _ _ _ _ _ _ _ _ _ _ _ h0 (0 + 0 + 0 + 0 + 0 + 0 + 0) (0 + 0 + 0 + 0 + 0 + 0 + 0) 43 #[.val (.ref a), .val (.int 0), .val (.int c0)] [(.int r_1513)]
    refine Go.ifc (pc1 := 52) (pc2 := 46) d6_43 (by decide) (by decide) rfl (fun (c_1514 : r_1513.toInt = 0) => ?_) (fun (c_1514 : r_1513.toInt ≠ 0) => ?_)
    · have k2 : ¬ own_k c1 = 2 := own_b0 ir_1513 c_1514
      refine Go.iloadN (pc' := 53) d6_52 rfl rfl ?_
      refine Go.callS (pc' := 56) (argsL := [(.int c0)]) (rest := []) (W := 0) (own_w hw 90 rfl) (own_w hw 91 rfl) (own_w hw 87 rfl) (own_w hw 92 rfl) (by decide) (m_js l Z a0 hw c0 h0 n0 z0) d6_53 rfl pd8 rfl rfl (Nat.le_of_eq rfl) (by decide) (by decide) (by decide) (by decide) rfl ?_
      rintro _ _ ⟨r_1515, rfl, rfl, hr_1515, ir_1515⟩
      show Go _ _ _ _ _ _ _ _ _ _ _ _ h0 (0 + 0 + 0 + 0 + 0 + 0 + 0 + 0) (0 + 0 + 0 + 0 + 0 + 0 + 0 + 0) 56 #[.val (.ref a), .val (.int 0), .val (.int c0)] [(.int r_1515)]
      refine Go.ifc (pc1 := 61) (pc2 := 59) d6_56 (by decide) (by decide) rfl (fun (c_1516 : r_1515.toInt = 0) => ?_) (fun (c_1516 : r_1515.toInt ≠ 0) => ?_)
      · exact absurd k1 (by have q := own_b0 ir_1515 c_1516; omega)
      refine Go.iconst (pc' := 60) (v := (0 : Int32)) d6_59 rfl rfl ?_
      exact Go.retN (t := .boolean) d6_60 rfl (by simp) rfl ⟨_, rfl, rfl, by decide, own_f (fun t => own_tx_hn k1 k2 (hJ.mp t))⟩ (by decide) (by decide)
    · have k2 : own_k c1 = 2 := own_b1 ir_1513 hr_1513 c_1514
      refine Go.iinc (pc' := 49) (w := (1 : Int32)) (Ls' := #[.val (.ref a), .val (.int 1), .val (.int c0)]) d6_46 rfl rfl rfl rfl ?_
      refine Go.goto (pc' := 61) d6_49 (by decide) (by decide) ?_
      refine Go.iinc (pc' := 64) (w := (2 : Int32)) (Ls' := #[.val (.ref a), .val (.int 2), .val (.int c0)]) d6_61 rfl rfl rfl rfl ?_
      refine Go.goto (pc' := 2) d6_64 (by decide) (by decide) ?_
      exact J2 c0 (hJ.trans (own_tx_hl k1 k2))
set_option maxRecDepth 65536 in
set_option maxHeartbeats 40000000 in
theorem m_tx2_1 (l : Launch) (Z : State) (a0 : Array Value) (hw : ∀ d ∈ tables_1, d.before a0 Z = true) (a o : Addr) (l0 g0 l1 g1 c0 c1 : Int32) (cs : Int32) (fm : Value) (h0 : Heap) (n0 : Nat) (z0 : n0 ≤ h0.size) (hO : Old Z n0 h0) (hSCS : Sta Z Z.heap "java/lang/String" "COMPACT_STRINGS" "Z" (.int cs)) (hSAD : Sta Z Z.heap "java/lang/StringUTF16" "$assertionsDisabled" "Z" (.int 1)) (hSHB : Sta Z Z.heap "java/lang/StringUTF16" "HI_BYTE_SHIFT" "I" (.int 0)) (hSLB : Sta Z Z.heap "java/lang/StringUTF16" "LO_BYTE_SHIFT" "I" (.int 8)) (hSFM : Sta Z Z.heap "jdk/internal/util/Preconditions" "SIOOBE_FORMATTER" "Ljava/util/function/BiFunction;" fm) (hcs : cs.toInt ≠ 0) (hfm : fm.isRef = true) (hE : Exa Z h0 a "java/lang/String") (hFV : Fld Z h0 a "java/lang/String" "value" "[B" (.ref o)) (hFC : Fld Z h0 a "java/lang/String" "coder" "B" (.int 1)) (hA : Ary Z h0 o .byte [.int l0, .int g0, .int l1, .int g1]) (e0 : l0.toInt % 256 + 256 * (g0.toInt % 256) = c0.toInt) (e1 : l1.toInt % 256 + 256 * (g1.toInt % 256) = c1.toInt) : Mt .n l Z (⟨"com/example/consentry/consentry/io/Unicode", "isText", "(Ljava/lang/String;)Z"⟩ : MethodName) prog_29_method_2_code 3 (some .boolean) ({ frames := 5, cells := 0, slots := 0, locals := 75 } : Room) n0 (fun v h => ∃ r : Int32, v = some (.int r) ∧ h0 = h ∧ (r.toInt = 0 ∨ r.toInt = 1) ∧ (r.toInt = 1 ↔ (own_tx [c0, c1]))) h0 #[(.ref a)] := by
  refine Mt.go (Ls := #[.val (.ref a), .unset, .unset]) (plainFor_of_name pn1) (fun m => by first | (simp [entryFrame, mkF, argsToLocals, Value.category]; done) | rfl) ?_
  show Go _ _ _ _ _ _ _ _ _ _ _ _ h0 0 0 0 #[.val (.ref a), .unset, .unset] []
  have hTCS := Sta.ext hO.2 hSCS
  have hTAD := Sta.ext hO.2 hSAD
  have hTHB := Sta.ext hO.2 hSHB
  have hTLB := Sta.ext hO.2 hSLB
  have hTFM := Sta.ext hO.2 hSFM
  have n_1517 : a ≠ o := by obtain ⟨_, Ag, -⟩ := hA; exact ne_arr hE (own_w hw 7 rfl) Ag
  refine Go.iconst (pc' := 1) (v := (0 : Int32)) d6_0 rfl rfl ?_
  refine Go.istoreN (pc' := 2) (Ls' := #[.val (.ref a), .val (.int 0), .unset]) d6_1 rfl rfl ?_
  have J2 : ∀ cc : Int32, ((own_tx [c0, c1]) ↔ (own_tx [])) → (Go .n l ({ frames := 5, cells := 0, slots := 0, locals := 75 } : Room) Z (⟨"com/example/consentry/consentry/io/Unicode", "isText", "(Ljava/lang/String;)Z"⟩ : MethodName) prog_29_method_2_code 3 (some .boolean) n0 0 0 (fun v h => ∃ r : Int32, v = some (.int r) ∧ h0 = h ∧ (r.toInt = 0 ∨ r.toInt = 1) ∧ (r.toInt = 1 ↔ (own_tx [c0, c1])))) h0 0 0 2 #[.val (.ref a), .val (.int 2), .val (.int cc)] [] := by
    intro cc hJ
    refine Go.iloadN (pc' := 3) d6_2 rfl rfl ?_
    refine Go.aloadN (pc' := 4) d6_3 rfl rfl rfl ?_
    refine Go.callV (pc' := 7) (argsL := []) (rest := [(.int 2)]) (W := 1) (own_w hw 34 rfl) (own_w hw 35 rfl) (own_w hw 37 rfl) (own_w hw 36 rfl) (own_w hw 8 rfl) (own_w hw 38 rfl) (by decide) hE (m_ln1 l Z a0 hw a o [.int l0, .int g0, .int l1, .int g1] (4 : Int32) cs h0 n0 z0 hO hSCS hcs hE hFV hFC hA rfl) d6_4 rfl pd15 rfl rfl (Nat.le_of_eq rfl) (by decide) (by decide) (by decide) (by decide) rfl ?_
    rintro _ _ ⟨r, rfl, rfl, hr⟩
    obtain rfl : r = (2 : Int32) := Int32.toInt_inj.mp (by rw [hr]; decide)
    show Go _ _ _ _ _ _ _ _ _ _ _ _ h0 (0 + 0) (0 + 0) 7 #[.val (.ref a), .val (.int 2), .val (.int cc)] [(.int 2), (.int 2)]
    refine Go.icmp (pc1 := 67) (pc2 := 10) d6_7 (by decide) (by decide) rfl (fun (c_1518 : (2 : Int) ≤ (2 : Int)) => ?_) (fun (c_1518 : (2 : Int) < (2 : Int)) => ?_)
    rotate_left
    · exact absurd c_1518 (by decide)
    refine Go.iconst (pc' := 68) (v := (1 : Int32)) d6_67 rfl rfl ?_
    exact Go.retN (t := .boolean) d6_68 rfl (by simp) rfl ⟨_, rfl, rfl, by decide, ⟨fun _ => hJ.mpr trivial, fun _ => rfl⟩⟩ (by decide) (by decide)
  have J1 : ∀ cc : Int32, ((own_tx [c0, c1]) ↔ (own_tx [c1])) → (Go .n l ({ frames := 5, cells := 0, slots := 0, locals := 75 } : Room) Z (⟨"com/example/consentry/consentry/io/Unicode", "isText", "(Ljava/lang/String;)Z"⟩ : MethodName) prog_29_method_2_code 3 (some .boolean) n0 0 0 (fun v h => ∃ r : Int32, v = some (.int r) ∧ h0 = h ∧ (r.toInt = 0 ∨ r.toInt = 1) ∧ (r.toInt = 1 ↔ (own_tx [c0, c1])))) h0 0 0 2 #[.val (.ref a), .val (.int 1), .val (.int cc)] [] := by
    intro cc hJ
    refine Go.iloadN (pc' := 3) d6_2 rfl rfl ?_
    refine Go.aloadN (pc' := 4) d6_3 rfl rfl rfl ?_
    refine Go.callV (pc' := 7) (argsL := []) (rest := [(.int 1)]) (W := 1) (own_w hw 34 rfl) (own_w hw 35 rfl) (own_w hw 37 rfl) (own_w hw 36 rfl) (own_w hw 8 rfl) (own_w hw 38 rfl) (by decide) hE (m_ln1 l Z a0 hw a o [.int l0, .int g0, .int l1, .int g1] (4 : Int32) cs h0 n0 z0 hO hSCS hcs hE hFV hFC hA rfl) d6_4 rfl pd15 rfl rfl (Nat.le_of_eq rfl) (by decide) (by decide) (by decide) (by decide) rfl ?_
    rintro _ _ ⟨r, rfl, rfl, hr⟩
    obtain rfl : r = (2 : Int32) := Int32.toInt_inj.mp (by rw [hr]; decide)
    show Go _ _ _ _ _ _ _ _ _ _ _ _ h0 (0 + 0) (0 + 0) 7 #[.val (.ref a), .val (.int 1), .val (.int cc)] [(.int 2), (.int 1)]
    refine Go.icmp (pc1 := 67) (pc2 := 10) d6_7 (by decide) (by decide) rfl (fun (c_1519 : (2 : Int) ≤ (1 : Int)) => ?_) (fun (c_1519 : (1 : Int) < (2 : Int)) => ?_)
    · exact absurd c_1519 (by decide)
    refine Go.aloadN (pc' := 11) d6_10 rfl rfl rfl ?_
    refine Go.iloadN (pc' := 12) d6_11 rfl rfl ?_
    refine Go.callV (pc' := 15) (argsL := [(.int 1)]) (rest := []) (W := 0) (own_w hw 63 rfl) (own_w hw 64 rfl) (own_w hw 66 rfl) (own_w hw 65 rfl) (own_w hw 8 rfl) (own_w hw 67 rfl) (by decide) hE (m_ca1 l Z a0 hw a o [.int l0, .int g0, .int l1, .int g1] (1 : Int32) (4 : Int32) l1 g1 1 cs fm h0 n0 z0 hO hSCS hSAD hSHB hSLB hSFM hcs hfm hE hFV hFC hA rfl rfl (by decide) (by decide) rfl rfl) d6_12 rfl pd16 rfl rfl (Nat.le_of_eq rfl) (by decide) (by decide) (by decide) (by decide) rfl ?_
    rintro _ _ ⟨r, rfl, rfl, hr⟩
    obtain rfl : c1 = r := Int32.toInt_inj.mp (by rw [hr]; exact e1.symm)
    show Go _ _ _ _ _ _ _ _ _ _ _ _ h0 (0 + 0 + 0) (0 + 0 + 0) 15 #[.val (.ref a), .val (.int 1), .val (.int cc)] [(.int c1)]
    refine Go.istoreN (pc' := 16) (Ls' := #[.val (.ref a), .val (.int 1), .val (.int c1)]) d6_15 rfl rfl ?_
    refine Go.iloadN (pc' := 17) d6_16 rfl rfl ?_
    refine Go.callS (pc' := 20) (argsL := [(.int c1)]) (rest := []) (W := 0) (own_w hw 85 rfl) (own_w hw 86 rfl) (own_w hw 87 rfl) (own_w hw 88 rfl) (by decide) (m_jh l Z a0 hw c1 h0 n0 z0) d6_17 rfl pd8 rfl rfl (Nat.le_of_eq rfl) (by decide) (by decide) (by decide) (by decide) rfl ?_
    rintro _ _ ⟨r_1520, rfl, rfl, hr_1520, ir_1520⟩
    show Go _ _ _ _ _ _ _ _ _ _ _ _ h0 (0 + 0 + 0 + 0) (0 + 0 + 0 + 0) 20 #[.val (.ref a), .val (.int 1), .val (.int c1)] [(.int r_1520)]
    refine Go.ifc (pc1 := 52) (pc2 := 23) d6_20 (by decide) (by decide) rfl (fun (c_1521 : r_1520.toInt = 0) => ?_) (fun (c_1521 : r_1520.toInt ≠ 0) => ?_)
    · have k1 : ¬ own_k c1 = 1 := own_b0 ir_1520 c_1521
      refine Go.iloadN (pc' := 53) d6_52 rfl rfl ?_
      refine Go.callS (pc' := 56) (argsL := [(.int c1)]) (rest := []) (W := 0) (own_w hw 90 rfl) (own_w hw 91 rfl) (own_w hw 87 rfl) (own_w hw 92 rfl) (by decide) (m_js l Z a0 hw c1 h0 n0 z0) d6_53 rfl pd8 rfl rfl (Nat.le_of_eq rfl) (by decide) (by decide) (by decide) (by decide) rfl ?_
      rintro _ _ ⟨r_1522, rfl, rfl, hr_1522, ir_1522⟩
      show Go _ _ _ _ _ _ _ _ _ _ _ _ h0 (0 + 0 + 0 + 0 + 0) (0 + 0 + 0 + 0 + 0) 56 #[.val (.ref a), .val (.int 1), .val (.int c1)] [(.int r_1522)]
      refine Go.ifc (pc1 := 61) (pc2 := 59) d6_56 (by decide) (by decide) rfl (fun (c_1523 : r_1522.toInt = 0) => ?_) (fun (c_1523 : r_1522.toInt ≠ 0) => ?_)
      · have k0 : own_k c1 = 0 := Decidable.not_not.mp (own_b0 ir_1522 c_1523)
        refine Go.iinc (pc' := 64) (w := (2 : Int32)) (Ls' := #[.val (.ref a), .val (.int 2), .val (.int c1)]) d6_61 rfl rfl rfl rfl ?_
        refine Go.goto (pc' := 2) d6_64 (by decide) (by decide) ?_
        exact J2 c1 (hJ.trans (own_tx_0 k0))
      · have k0 : own_k c1 ≠ 0 := own_b1 ir_1522 hr_1522 c_1523
        refine Go.iconst (pc' := 60) (v := (0 : Int32)) d6_59 rfl rfl ?_
        exact Go.retN (t := .boolean) d6_60 rfl (by simp) rfl ⟨_, rfl, rfl, by decide, own_f (fun t => own_tx_l (own_k2 k1 k0) (hJ.mp t))⟩ (by decide) (by decide)
    · have k1 : own_k c1 = 1 := own_b1 ir_1520 hr_1520 c_1521
      refine Go.iloadN (pc' := 24) d6_23 rfl rfl ?_
      refine Go.iconst (pc' := 25) (v := (1 : Int32)) d6_24 rfl rfl ?_
      refine Go.iadd (pc' := 26) d6_25 rfl ?_
      show Go _ _ _ _ _ _ _ _ _ _ _ _ h0 (0 + 0 + 0 + 0) (0 + 0 + 0 + 0) 26 #[.val (.ref a), .val (.int 1), .val (.int c1)] [(.int 2)]
      refine Go.aloadN (pc' := 27) d6_26 rfl rfl rfl ?_
      refine Go.callV (pc' := 30) (argsL := []) (rest := [(.int 2)]) (W := 1) (own_w hw 34 rfl) (own_w hw 35 rfl) (own_w hw 37 rfl) (own_w hw 36 rfl) (own_w hw 8 rfl) (own_w hw 38 rfl) (by decide) hE (m_ln1 l Z a0 hw a o [.int l0, .int g0, .int l1, .int g1] (4 : Int32) cs h0 n0 z0 hO hSCS hcs hE hFV hFC hA rfl) d6_27 rfl pd15 rfl rfl (Nat.le_of_eq rfl) (by decide) (by decide) (by decide) (by decide) rfl ?_
      rintro _ _ ⟨r, rfl, rfl, hr⟩
      obtain rfl : r = (2 : Int32) := Int32.toInt_inj.mp (by rw [hr]; decide)
      show Go _ _ _ _ _ _ _ _ _ _ _ _ h0 (0 + 0 + 0 + 0 + 0) (0 + 0 + 0 + 0 + 0) 30 #[.val (.ref a), .val (.int 1), .val (.int c1)] [(.int 2), (.int 2)]
      refine Go.icmp (pc1 := 52) (pc2 := 33) d6_30 (by decide) (by decide) rfl (fun (c_1524 : (2 : Int) ≤ (2 : Int)) => ?_) (fun (c_1524 : (2 : Int) < (2 : Int)) => ?_)
      rotate_left
      · exact absurd c_1524 (by decide)
      refine Go.iloadN (pc' := 53) d6_52 rfl rfl ?_
      refine Go.callS (pc' := 56) (argsL := [(.int c1)]) (rest := []) (W := 0) (own_w hw 90 rfl) (own_w hw 91 rfl) (own_w hw 87 rfl) (own_w hw 92 rfl) (by decide) (m_js l Z a0 hw c1 h0 n0 z0) d6_53 rfl pd8 rfl rfl (Nat.le_of_eq rfl) (by decide) (by decide) (by decide) (by decide) rfl ?_
      rintro _ _ ⟨r_1525, rfl, rfl, hr_1525, ir_1525⟩
      show Go _ _ _ _ _ _ _ _ _ _ _ _ h0 (0 + 0 + 0 + 0 + 0 + 0) (0 + 0 + 0 + 0 + 0 + 0) 56 #[.val (.ref a), .val (.int 1), .val (.int c1)] [(.int r_1525)]
      refine Go.ifc (pc1 := 61) (pc2 := 59) d6_56 (by decide) (by decide) rfl (fun (c_1526 : r_1525.toInt = 0) => ?_) (fun (c_1526 : r_1525.toInt ≠ 0) => ?_)
      · exact absurd k1 (by have q := own_b0 ir_1525 c_1526; omega)
      refine Go.iconst (pc' := 60) (v := (0 : Int32)) d6_59 rfl rfl ?_
      exact Go.retN (t := .boolean) d6_60 rfl (by simp) rfl ⟨_, rfl, rfl, by decide, own_f (fun t => own_tx_h1 k1 (hJ.mp t))⟩ (by decide) (by decide)
  have hJ : (own_tx [c0, c1]) ↔ (own_tx [c0, c1]) := Iff.rfl
  refine Go.iloadN (pc' := 3) d6_2 rfl rfl ?_
  refine Go.aloadN (pc' := 4) d6_3 rfl rfl rfl ?_
  refine Go.callV (pc' := 7) (argsL := []) (rest := [(.int 0)]) (W := 1) (own_w hw 34 rfl) (own_w hw 35 rfl) (own_w hw 37 rfl) (own_w hw 36 rfl) (own_w hw 8 rfl) (own_w hw 38 rfl) (by decide) hE (m_ln1 l Z a0 hw a o [.int l0, .int g0, .int l1, .int g1] (4 : Int32) cs h0 n0 z0 hO hSCS hcs hE hFV hFC hA rfl) d6_4 rfl pd15 rfl rfl (Nat.le_of_eq rfl) (by decide) (by decide) (by decide) (by decide) rfl ?_
  rintro _ _ ⟨r, rfl, rfl, hr⟩
  obtain rfl : r = (2 : Int32) := Int32.toInt_inj.mp (by rw [hr]; decide)
  show Go _ _ _ _ _ _ _ _ _ _ _ _ h0 (0 + 0) (0 + 0) 7 #[.val (.ref a), .val (.int 0), .unset] [(.int 2), (.int 0)]
  refine Go.icmp (pc1 := 67) (pc2 := 10) d6_7 (by decide) (by decide) rfl (fun (c_1527 : (2 : Int) ≤ (0 : Int)) => ?_) (fun (c_1527 : (0 : Int) < (2 : Int)) => ?_)
  · exact absurd c_1527 (by decide)
  refine Go.aloadN (pc' := 11) d6_10 rfl rfl rfl ?_
  refine Go.iloadN (pc' := 12) d6_11 rfl rfl ?_
  refine Go.callV (pc' := 15) (argsL := [(.int 0)]) (rest := []) (W := 0) (own_w hw 63 rfl) (own_w hw 64 rfl) (own_w hw 66 rfl) (own_w hw 65 rfl) (own_w hw 8 rfl) (own_w hw 67 rfl) (by decide) hE (m_ca1 l Z a0 hw a o [.int l0, .int g0, .int l1, .int g1] (0 : Int32) (4 : Int32) l0 g0 0 cs fm h0 n0 z0 hO hSCS hSAD hSHB hSLB hSFM hcs hfm hE hFV hFC hA rfl rfl (by decide) (by decide) rfl rfl) d6_12 rfl pd16 rfl rfl (Nat.le_of_eq rfl) (by decide) (by decide) (by decide) (by decide) rfl ?_
  rintro _ _ ⟨r, rfl, rfl, hr⟩
  obtain rfl : c0 = r := Int32.toInt_inj.mp (by rw [hr]; exact e0.symm)
  show Go _ _ _ _ _ _ _ _ _ _ _ _ h0 (0 + 0 + 0) (0 + 0 + 0) 15 #[.val (.ref a), .val (.int 0), .unset] [(.int c0)]
  refine Go.istoreN (pc' := 16) (Ls' := #[.val (.ref a), .val (.int 0), .val (.int c0)]) d6_15 rfl rfl ?_
  refine Go.iloadN (pc' := 17) d6_16 rfl rfl ?_
  refine Go.callS (pc' := 20) (argsL := [(.int c0)]) (rest := []) (W := 0) (own_w hw 85 rfl) (own_w hw 86 rfl) (own_w hw 87 rfl) (own_w hw 88 rfl) (by decide) (m_jh l Z a0 hw c0 h0 n0 z0) d6_17 rfl pd8 rfl rfl (Nat.le_of_eq rfl) (by decide) (by decide) (by decide) (by decide) rfl ?_
  rintro _ _ ⟨r_1528, rfl, rfl, hr_1528, ir_1528⟩
  show Go _ _ _ _ _ _ _ _ _ _ _ _ h0 (0 + 0 + 0 + 0) (0 + 0 + 0 + 0) 20 #[.val (.ref a), .val (.int 0), .val (.int c0)] [(.int r_1528)]
  refine Go.ifc (pc1 := 52) (pc2 := 23) d6_20 (by decide) (by decide) rfl (fun (c_1529 : r_1528.toInt = 0) => ?_) (fun (c_1529 : r_1528.toInt ≠ 0) => ?_)
  · have k1 : ¬ own_k c0 = 1 := own_b0 ir_1528 c_1529
    refine Go.iloadN (pc' := 53) d6_52 rfl rfl ?_
    refine Go.callS (pc' := 56) (argsL := [(.int c0)]) (rest := []) (W := 0) (own_w hw 90 rfl) (own_w hw 91 rfl) (own_w hw 87 rfl) (own_w hw 92 rfl) (by decide) (m_js l Z a0 hw c0 h0 n0 z0) d6_53 rfl pd8 rfl rfl (Nat.le_of_eq rfl) (by decide) (by decide) (by decide) (by decide) rfl ?_
    rintro _ _ ⟨r_1530, rfl, rfl, hr_1530, ir_1530⟩
    show Go _ _ _ _ _ _ _ _ _ _ _ _ h0 (0 + 0 + 0 + 0 + 0) (0 + 0 + 0 + 0 + 0) 56 #[.val (.ref a), .val (.int 0), .val (.int c0)] [(.int r_1530)]
    refine Go.ifc (pc1 := 61) (pc2 := 59) d6_56 (by decide) (by decide) rfl (fun (c_1531 : r_1530.toInt = 0) => ?_) (fun (c_1531 : r_1530.toInt ≠ 0) => ?_)
    · have k0 : own_k c0 = 0 := Decidable.not_not.mp (own_b0 ir_1530 c_1531)
      refine Go.iinc (pc' := 64) (w := (1 : Int32)) (Ls' := #[.val (.ref a), .val (.int 1), .val (.int c0)]) d6_61 rfl rfl rfl rfl ?_
      refine Go.goto (pc' := 2) d6_64 (by decide) (by decide) ?_
      exact J1 c0 (hJ.trans (own_tx_0 k0))
    · have k0 : own_k c0 ≠ 0 := own_b1 ir_1530 hr_1530 c_1531
      refine Go.iconst (pc' := 60) (v := (0 : Int32)) d6_59 rfl rfl ?_
      exact Go.retN (t := .boolean) d6_60 rfl (by simp) rfl ⟨_, rfl, rfl, by decide, own_f (fun t => own_tx_l (own_k2 k1 k0) (hJ.mp t))⟩ (by decide) (by decide)
  · have k1 : own_k c0 = 1 := own_b1 ir_1528 hr_1528 c_1529
    refine Go.iloadN (pc' := 24) d6_23 rfl rfl ?_
    refine Go.iconst (pc' := 25) (v := (1 : Int32)) d6_24 rfl rfl ?_
    refine Go.iadd (pc' := 26) d6_25 rfl ?_
    show Go _ _ _ _ _ _ _ _ _ _ _ _ h0 (0 + 0 + 0 + 0) (0 + 0 + 0 + 0) 26 #[.val (.ref a), .val (.int 0), .val (.int c0)] [(.int 1)]
    refine Go.aloadN (pc' := 27) d6_26 rfl rfl rfl ?_
    refine Go.callV (pc' := 30) (argsL := []) (rest := [(.int 1)]) (W := 1) (own_w hw 34 rfl) (own_w hw 35 rfl) (own_w hw 37 rfl) (own_w hw 36 rfl) (own_w hw 8 rfl) (own_w hw 38 rfl) (by decide) hE (m_ln1 l Z a0 hw a o [.int l0, .int g0, .int l1, .int g1] (4 : Int32) cs h0 n0 z0 hO hSCS hcs hE hFV hFC hA rfl) d6_27 rfl pd15 rfl rfl (Nat.le_of_eq rfl) (by decide) (by decide) (by decide) (by decide) rfl ?_
    rintro _ _ ⟨r, rfl, rfl, hr⟩
    obtain rfl : r = (2 : Int32) := Int32.toInt_inj.mp (by rw [hr]; decide)
    show Go _ _ _ _ _ _ _ _ _ _ _ _ h0 (0 + 0 + 0 + 0 + 0) (0 + 0 + 0 + 0 + 0) 30 #[.val (.ref a), .val (.int 0), .val (.int c0)] [(.int 2), (.int 1)]
    refine Go.icmp (pc1 := 52) (pc2 := 33) d6_30 (by decide) (by decide) rfl (fun (c_1532 : (2 : Int) ≤ (1 : Int)) => ?_) (fun (c_1532 : (1 : Int) < (2 : Int)) => ?_)
    · exact absurd c_1532 (by decide)
    refine Go.aloadN (pc' := 34) d6_33 rfl rfl rfl ?_
    refine Go.iloadN (pc' := 35) d6_34 rfl rfl ?_
    refine Go.iconst (pc' := 36) (v := (1 : Int32)) d6_35 rfl rfl ?_
    refine Go.iadd (pc' := 37) d6_36 rfl ?_
    show Go _ _ _ _ _ _ _ _ _ _ _ _ h0 (0 + 0 + 0 + 0 + 0) (0 + 0 + 0 + 0 + 0) 37 #[.val (.ref a), .val (.int 0), .val (.int c0)] [(.int 1), (.ref a)]
    refine Go.callV (pc' := 40) (argsL := [(.int 1)]) (rest := []) (W := 0) (own_w hw 63 rfl) (own_w hw 64 rfl) (own_w hw 66 rfl) (own_w hw 65 rfl) (own_w hw 8 rfl) (own_w hw 67 rfl) (by decide) hE (m_ca1 l Z a0 hw a o [.int l0, .int g0, .int l1, .int g1] (1 : Int32) (4 : Int32) l1 g1 1 cs fm h0 n0 z0 hO hSCS hSAD hSHB hSLB hSFM hcs hfm hE hFV hFC hA rfl rfl (by decide) (by decide) rfl rfl) d6_37 rfl pd16 rfl rfl (Nat.le_of_eq rfl) (by decide) (by decide) (by decide) (by decide) rfl ?_
    rintro _ _ ⟨r, rfl, rfl, hr⟩
    obtain rfl : c1 = r := Int32.toInt_inj.mp (by rw [hr]; exact e1.symm)
    show Go _ _ _ _ _ _ _ _ _ _ _ _ h0 (0 + 0 + 0 + 0 + 0 + 0) (0 + 0 + 0 + 0 + 0 + 0) 40 #[.val (.ref a), .val (.int 0), .val (.int c0)] [(.int c1)]
    refine Go.callS (pc' := 43) (argsL := [(.int c1)]) (rest := []) (W := 0) (own_w hw 126 rfl) (own_w hw 127 rfl) (own_w hw 87 rfl) (own_w hw 128 rfl) (by decide) (m_jl l Z a0 hw c1 h0 n0 z0) d6_40 rfl pd8 rfl rfl (Nat.le_of_eq rfl) (by decide) (by decide) (by decide) (by decide) rfl ?_
    rintro _ _ ⟨r_1533, rfl, rfl, hr_1533, ir_1533⟩
    show Go _ _ _ _ _ _ _ _ _ _ _ _ h0 (0 + 0 + 0 + 0 + 0 + 0 + 0) (0 + 0 + 0 + 0 + 0 + 0 + 0) 43 #[.val (.ref a), .val (.int 0), .val (.int c0)] [(.int r_1533)]
    refine Go.ifc (pc1 := 52) (pc2 := 46) d6_43 (by decide) (by decide) rfl (fun (c_1534 : r_1533.toInt = 0) => ?_) (fun (c_1534 : r_1533.toInt ≠ 0) => ?_)
    · have k2 : ¬ own_k c1 = 2 := own_b0 ir_1533 c_1534
      refine Go.iloadN (pc' := 53) d6_52 rfl rfl ?_
      refine Go.callS (pc' := 56) (argsL := [(.int c0)]) (rest := []) (W := 0) (own_w hw 90 rfl) (own_w hw 91 rfl) (own_w hw 87 rfl) (own_w hw 92 rfl) (by decide) (m_js l Z a0 hw c0 h0 n0 z0) d6_53 rfl pd8 rfl rfl (Nat.le_of_eq rfl) (by decide) (by decide) (by decide) (by decide) rfl ?_
      rintro _ _ ⟨r_1535, rfl, rfl, hr_1535, ir_1535⟩
      show Go _ _ _ _ _ _ _ _ _ _ _ _ h0 (0 + 0 + 0 + 0 + 0 + 0 + 0 + 0) (0 + 0 + 0 + 0 + 0 + 0 + 0 + 0) 56 #[.val (.ref a), .val (.int 0), .val (.int c0)] [(.int r_1535)]
      refine Go.ifc (pc1 := 61) (pc2 := 59) d6_56 (by decide) (by decide) rfl (fun (c_1536 : r_1535.toInt = 0) => ?_) (fun (c_1536 : r_1535.toInt ≠ 0) => ?_)
      · exact absurd k1 (by have q := own_b0 ir_1535 c_1536; omega)
      refine Go.iconst (pc' := 60) (v := (0 : Int32)) d6_59 rfl rfl ?_
      exact Go.retN (t := .boolean) d6_60 rfl (by simp) rfl ⟨_, rfl, rfl, by decide, own_f (fun t => own_tx_hn k1 k2 (hJ.mp t))⟩ (by decide) (by decide)
    · have k2 : own_k c1 = 2 := own_b1 ir_1533 hr_1533 c_1534
      refine Go.iinc (pc' := 49) (w := (1 : Int32)) (Ls' := #[.val (.ref a), .val (.int 1), .val (.int c0)]) d6_46 rfl rfl rfl rfl ?_
      refine Go.goto (pc' := 61) d6_49 (by decide) (by decide) ?_
      refine Go.iinc (pc' := 64) (w := (2 : Int32)) (Ls' := #[.val (.ref a), .val (.int 2), .val (.int c0)]) d6_61 rfl rfl rfl rfl ?_
      refine Go.goto (pc' := 2) d6_64 (by decide) (by decide) ?_
      exact J2 c0 (hJ.trans (own_tx_hl k1 k2))
set_option maxRecDepth 65536 in
set_option maxHeartbeats 40000000 in
theorem m_tx3_0 (l : Launch) (Z : State) (a0 : Array Value) (hw : ∀ d ∈ tables_1, d.before a0 Z = true) (a o : Addr) (b0 b1 b2 c0 c1 c2 : Int32) (cs : Int32) (fm : Value) (h0 : Heap) (n0 : Nat) (z0 : n0 ≤ h0.size) (hO : Old Z n0 h0) (hSCS : Sta Z Z.heap "java/lang/String" "COMPACT_STRINGS" "Z" (.int cs)) (hSAD : Sta Z Z.heap "java/lang/StringUTF16" "$assertionsDisabled" "Z" (.int 1)) (hSHB : Sta Z Z.heap "java/lang/StringUTF16" "HI_BYTE_SHIFT" "I" (.int 0)) (hSLB : Sta Z Z.heap "java/lang/StringUTF16" "LO_BYTE_SHIFT" "I" (.int 8)) (hSFM : Sta Z Z.heap "jdk/internal/util/Preconditions" "SIOOBE_FORMATTER" "Ljava/util/function/BiFunction;" fm) (hcs : cs.toInt ≠ 0) (hfm : fm.isRef = true) (hE : Exa Z h0 a "java/lang/String") (hFV : Fld Z h0 a "java/lang/String" "value" "[B" (.ref o)) (hFC : Fld Z h0 a "java/lang/String" "coder" "B" (.int 0)) (hA : Ary Z h0 o .byte [.int b0, .int b1, .int b2]) (e0 : b0.toInt % 256 = c0.toInt) (e1 : b1.toInt % 256 = c1.toInt) (e2 : b2.toInt % 256 = c2.toInt) : Mt .n l Z (⟨"com/example/consentry/consentry/io/Unicode", "isText", "(Ljava/lang/String;)Z"⟩ : MethodName) prog_29_method_2_code 3 (some .boolean) ({ frames := 5, cells := 0, slots := 0, locals := 75 } : Room) n0 (fun v h => ∃ r : Int32, v = some (.int r) ∧ h0 = h ∧ (r.toInt = 0 ∨ r.toInt = 1) ∧ (r.toInt = 1 ↔ (own_tx [c0, c1, c2]))) h0 #[(.ref a)] := by
  refine Mt.go (Ls := #[.val (.ref a), .unset, .unset]) (plainFor_of_name pn1) (fun m => by first | (simp [entryFrame, mkF, argsToLocals, Value.category]; done) | rfl) ?_
  show Go _ _ _ _ _ _ _ _ _ _ _ _ h0 0 0 0 #[.val (.ref a), .unset, .unset] []
  have hTCS := Sta.ext hO.2 hSCS
  have hTAD := Sta.ext hO.2 hSAD
  have hTHB := Sta.ext hO.2 hSHB
  have hTLB := Sta.ext hO.2 hSLB
  have hTFM := Sta.ext hO.2 hSFM
  have n_1537 : a ≠ o := by obtain ⟨_, Ag, -⟩ := hA; exact ne_arr hE (own_w hw 7 rfl) Ag
  refine Go.iconst (pc' := 1) (v := (0 : Int32)) d6_0 rfl rfl ?_
  refine Go.istoreN (pc' := 2) (Ls' := #[.val (.ref a), .val (.int 0), .unset]) d6_1 rfl rfl ?_
  have J3 : ∀ cc : Int32, ((own_tx [c0, c1, c2]) ↔ (own_tx [])) → (Go .n l ({ frames := 5, cells := 0, slots := 0, locals := 75 } : Room) Z (⟨"com/example/consentry/consentry/io/Unicode", "isText", "(Ljava/lang/String;)Z"⟩ : MethodName) prog_29_method_2_code 3 (some .boolean) n0 0 0 (fun v h => ∃ r : Int32, v = some (.int r) ∧ h0 = h ∧ (r.toInt = 0 ∨ r.toInt = 1) ∧ (r.toInt = 1 ↔ (own_tx [c0, c1, c2])))) h0 0 0 2 #[.val (.ref a), .val (.int 3), .val (.int cc)] [] := by
    intro cc hJ
    refine Go.iloadN (pc' := 3) d6_2 rfl rfl ?_
    refine Go.aloadN (pc' := 4) d6_3 rfl rfl rfl ?_
    refine Go.callV (pc' := 7) (argsL := []) (rest := [(.int 3)]) (W := 1) (own_w hw 34 rfl) (own_w hw 35 rfl) (own_w hw 37 rfl) (own_w hw 36 rfl) (own_w hw 8 rfl) (own_w hw 38 rfl) (by decide) hE (m_ln0 l Z a0 hw a o [.int b0, .int b1, .int b2] (3 : Int32) cs h0 n0 z0 hO hSCS hcs hE hFV hFC hA rfl) d6_4 rfl pd15 rfl rfl (Nat.le_of_eq rfl) (by decide) (by decide) (by decide) (by decide) rfl ?_
    rintro _ _ ⟨r, rfl, rfl, hr⟩
    obtain rfl : r = (3 : Int32) := Int32.toInt_inj.mp (by rw [hr]; decide)
    show Go _ _ _ _ _ _ _ _ _ _ _ _ h0 (0 + 0) (0 + 0) 7 #[.val (.ref a), .val (.int 3), .val (.int cc)] [(.int 3), (.int 3)]
    refine Go.icmp (pc1 := 67) (pc2 := 10) d6_7 (by decide) (by decide) rfl (fun (c_1538 : (3 : Int) ≤ (3 : Int)) => ?_) (fun (c_1538 : (3 : Int) < (3 : Int)) => ?_)
    rotate_left
    · exact absurd c_1538 (by decide)
    refine Go.iconst (pc' := 68) (v := (1 : Int32)) d6_67 rfl rfl ?_
    exact Go.retN (t := .boolean) d6_68 rfl (by simp) rfl ⟨_, rfl, rfl, by decide, ⟨fun _ => hJ.mpr trivial, fun _ => rfl⟩⟩ (by decide) (by decide)
  have J2 : ∀ cc : Int32, ((own_tx [c0, c1, c2]) ↔ (own_tx [c2])) → (Go .n l ({ frames := 5, cells := 0, slots := 0, locals := 75 } : Room) Z (⟨"com/example/consentry/consentry/io/Unicode", "isText", "(Ljava/lang/String;)Z"⟩ : MethodName) prog_29_method_2_code 3 (some .boolean) n0 0 0 (fun v h => ∃ r : Int32, v = some (.int r) ∧ h0 = h ∧ (r.toInt = 0 ∨ r.toInt = 1) ∧ (r.toInt = 1 ↔ (own_tx [c0, c1, c2])))) h0 0 0 2 #[.val (.ref a), .val (.int 2), .val (.int cc)] [] := by
    intro cc hJ
    refine Go.iloadN (pc' := 3) d6_2 rfl rfl ?_
    refine Go.aloadN (pc' := 4) d6_3 rfl rfl rfl ?_
    refine Go.callV (pc' := 7) (argsL := []) (rest := [(.int 2)]) (W := 1) (own_w hw 34 rfl) (own_w hw 35 rfl) (own_w hw 37 rfl) (own_w hw 36 rfl) (own_w hw 8 rfl) (own_w hw 38 rfl) (by decide) hE (m_ln0 l Z a0 hw a o [.int b0, .int b1, .int b2] (3 : Int32) cs h0 n0 z0 hO hSCS hcs hE hFV hFC hA rfl) d6_4 rfl pd15 rfl rfl (Nat.le_of_eq rfl) (by decide) (by decide) (by decide) (by decide) rfl ?_
    rintro _ _ ⟨r, rfl, rfl, hr⟩
    obtain rfl : r = (3 : Int32) := Int32.toInt_inj.mp (by rw [hr]; decide)
    show Go _ _ _ _ _ _ _ _ _ _ _ _ h0 (0 + 0) (0 + 0) 7 #[.val (.ref a), .val (.int 2), .val (.int cc)] [(.int 3), (.int 2)]
    refine Go.icmp (pc1 := 67) (pc2 := 10) d6_7 (by decide) (by decide) rfl (fun (c_1539 : (3 : Int) ≤ (2 : Int)) => ?_) (fun (c_1539 : (2 : Int) < (3 : Int)) => ?_)
    · exact absurd c_1539 (by decide)
    refine Go.aloadN (pc' := 11) d6_10 rfl rfl rfl ?_
    refine Go.iloadN (pc' := 12) d6_11 rfl rfl ?_
    refine Go.callV (pc' := 15) (argsL := [(.int 2)]) (rest := []) (W := 0) (own_w hw 63 rfl) (own_w hw 64 rfl) (own_w hw 66 rfl) (own_w hw 65 rfl) (own_w hw 8 rfl) (own_w hw 67 rfl) (by decide) hE (m_ca0 l Z a0 hw a o [.int b0, .int b1, .int b2] (2 : Int32) (3 : Int32) b2 2 cs fm h0 n0 z0 hO hSCS hSAD hSHB hSLB hSFM hcs hfm hE hFV hFC hA rfl rfl (by decide) rfl) d6_12 rfl pd16 rfl rfl (Nat.le_of_eq rfl) (by decide) (by decide) (by decide) (by decide) rfl ?_
    rintro _ _ ⟨r, rfl, rfl, hr⟩
    obtain rfl : c2 = r := Int32.toInt_inj.mp (by rw [hr]; exact e2.symm)
    show Go _ _ _ _ _ _ _ _ _ _ _ _ h0 (0 + 0 + 0) (0 + 0 + 0) 15 #[.val (.ref a), .val (.int 2), .val (.int cc)] [(.int c2)]
    refine Go.istoreN (pc' := 16) (Ls' := #[.val (.ref a), .val (.int 2), .val (.int c2)]) d6_15 rfl rfl ?_
    refine Go.iloadN (pc' := 17) d6_16 rfl rfl ?_
    refine Go.callS (pc' := 20) (argsL := [(.int c2)]) (rest := []) (W := 0) (own_w hw 85 rfl) (own_w hw 86 rfl) (own_w hw 87 rfl) (own_w hw 88 rfl) (by decide) (m_jh l Z a0 hw c2 h0 n0 z0) d6_17 rfl pd8 rfl rfl (Nat.le_of_eq rfl) (by decide) (by decide) (by decide) (by decide) rfl ?_
    rintro _ _ ⟨r_1540, rfl, rfl, hr_1540, ir_1540⟩
    show Go _ _ _ _ _ _ _ _ _ _ _ _ h0 (0 + 0 + 0 + 0) (0 + 0 + 0 + 0) 20 #[.val (.ref a), .val (.int 2), .val (.int c2)] [(.int r_1540)]
    refine Go.ifc (pc1 := 52) (pc2 := 23) d6_20 (by decide) (by decide) rfl (fun (c_1541 : r_1540.toInt = 0) => ?_) (fun (c_1541 : r_1540.toInt ≠ 0) => ?_)
    · have k1 : ¬ own_k c2 = 1 := own_b0 ir_1540 c_1541
      refine Go.iloadN (pc' := 53) d6_52 rfl rfl ?_
      refine Go.callS (pc' := 56) (argsL := [(.int c2)]) (rest := []) (W := 0) (own_w hw 90 rfl) (own_w hw 91 rfl) (own_w hw 87 rfl) (own_w hw 92 rfl) (by decide) (m_js l Z a0 hw c2 h0 n0 z0) d6_53 rfl pd8 rfl rfl (Nat.le_of_eq rfl) (by decide) (by decide) (by decide) (by decide) rfl ?_
      rintro _ _ ⟨r_1542, rfl, rfl, hr_1542, ir_1542⟩
      show Go _ _ _ _ _ _ _ _ _ _ _ _ h0 (0 + 0 + 0 + 0 + 0) (0 + 0 + 0 + 0 + 0) 56 #[.val (.ref a), .val (.int 2), .val (.int c2)] [(.int r_1542)]
      refine Go.ifc (pc1 := 61) (pc2 := 59) d6_56 (by decide) (by decide) rfl (fun (c_1543 : r_1542.toInt = 0) => ?_) (fun (c_1543 : r_1542.toInt ≠ 0) => ?_)
      · have k0 : own_k c2 = 0 := Decidable.not_not.mp (own_b0 ir_1542 c_1543)
        refine Go.iinc (pc' := 64) (w := (3 : Int32)) (Ls' := #[.val (.ref a), .val (.int 3), .val (.int c2)]) d6_61 rfl rfl rfl rfl ?_
        refine Go.goto (pc' := 2) d6_64 (by decide) (by decide) ?_
        exact J3 c2 (hJ.trans (own_tx_0 k0))
      · have k0 : own_k c2 ≠ 0 := own_b1 ir_1542 hr_1542 c_1543
        refine Go.iconst (pc' := 60) (v := (0 : Int32)) d6_59 rfl rfl ?_
        exact Go.retN (t := .boolean) d6_60 rfl (by simp) rfl ⟨_, rfl, rfl, by decide, own_f (fun t => own_tx_l (own_k2 k1 k0) (hJ.mp t))⟩ (by decide) (by decide)
    · have k1 : own_k c2 = 1 := own_b1 ir_1540 hr_1540 c_1541
      refine Go.iloadN (pc' := 24) d6_23 rfl rfl ?_
      refine Go.iconst (pc' := 25) (v := (1 : Int32)) d6_24 rfl rfl ?_
      refine Go.iadd (pc' := 26) d6_25 rfl ?_
      show Go _ _ _ _ _ _ _ _ _ _ _ _ h0 (0 + 0 + 0 + 0) (0 + 0 + 0 + 0) 26 #[.val (.ref a), .val (.int 2), .val (.int c2)] [(.int 3)]
      refine Go.aloadN (pc' := 27) d6_26 rfl rfl rfl ?_
      refine Go.callV (pc' := 30) (argsL := []) (rest := [(.int 3)]) (W := 1) (own_w hw 34 rfl) (own_w hw 35 rfl) (own_w hw 37 rfl) (own_w hw 36 rfl) (own_w hw 8 rfl) (own_w hw 38 rfl) (by decide) hE (m_ln0 l Z a0 hw a o [.int b0, .int b1, .int b2] (3 : Int32) cs h0 n0 z0 hO hSCS hcs hE hFV hFC hA rfl) d6_27 rfl pd15 rfl rfl (Nat.le_of_eq rfl) (by decide) (by decide) (by decide) (by decide) rfl ?_
      rintro _ _ ⟨r, rfl, rfl, hr⟩
      obtain rfl : r = (3 : Int32) := Int32.toInt_inj.mp (by rw [hr]; decide)
      show Go _ _ _ _ _ _ _ _ _ _ _ _ h0 (0 + 0 + 0 + 0 + 0) (0 + 0 + 0 + 0 + 0) 30 #[.val (.ref a), .val (.int 2), .val (.int c2)] [(.int 3), (.int 3)]
      refine Go.icmp (pc1 := 52) (pc2 := 33) d6_30 (by decide) (by decide) rfl (fun (c_1544 : (3 : Int) ≤ (3 : Int)) => ?_) (fun (c_1544 : (3 : Int) < (3 : Int)) => ?_)
      rotate_left
      · exact absurd c_1544 (by decide)
      refine Go.iloadN (pc' := 53) d6_52 rfl rfl ?_
      refine Go.callS (pc' := 56) (argsL := [(.int c2)]) (rest := []) (W := 0) (own_w hw 90 rfl) (own_w hw 91 rfl) (own_w hw 87 rfl) (own_w hw 92 rfl) (by decide) (m_js l Z a0 hw c2 h0 n0 z0) d6_53 rfl pd8 rfl rfl (Nat.le_of_eq rfl) (by decide) (by decide) (by decide) (by decide) rfl ?_
      rintro _ _ ⟨r_1545, rfl, rfl, hr_1545, ir_1545⟩
      show Go _ _ _ _ _ _ _ _ _ _ _ _ h0 (0 + 0 + 0 + 0 + 0 + 0) (0 + 0 + 0 + 0 + 0 + 0) 56 #[.val (.ref a), .val (.int 2), .val (.int c2)] [(.int r_1545)]
      refine Go.ifc (pc1 := 61) (pc2 := 59) d6_56 (by decide) (by decide) rfl (fun (c_1546 : r_1545.toInt = 0) => ?_) (fun (c_1546 : r_1545.toInt ≠ 0) => ?_)
      · exact absurd k1 (by have q := own_b0 ir_1545 c_1546; omega)
      refine Go.iconst (pc' := 60) (v := (0 : Int32)) d6_59 rfl rfl ?_
      exact Go.retN (t := .boolean) d6_60 rfl (by simp) rfl ⟨_, rfl, rfl, by decide, own_f (fun t => own_tx_h1 k1 (hJ.mp t))⟩ (by decide) (by decide)
  have J1 : ∀ cc : Int32, ((own_tx [c0, c1, c2]) ↔ (own_tx [c1, c2])) → (Go .n l ({ frames := 5, cells := 0, slots := 0, locals := 75 } : Room) Z (⟨"com/example/consentry/consentry/io/Unicode", "isText", "(Ljava/lang/String;)Z"⟩ : MethodName) prog_29_method_2_code 3 (some .boolean) n0 0 0 (fun v h => ∃ r : Int32, v = some (.int r) ∧ h0 = h ∧ (r.toInt = 0 ∨ r.toInt = 1) ∧ (r.toInt = 1 ↔ (own_tx [c0, c1, c2])))) h0 0 0 2 #[.val (.ref a), .val (.int 1), .val (.int cc)] [] := by
    intro cc hJ
    refine Go.iloadN (pc' := 3) d6_2 rfl rfl ?_
    refine Go.aloadN (pc' := 4) d6_3 rfl rfl rfl ?_
    refine Go.callV (pc' := 7) (argsL := []) (rest := [(.int 1)]) (W := 1) (own_w hw 34 rfl) (own_w hw 35 rfl) (own_w hw 37 rfl) (own_w hw 36 rfl) (own_w hw 8 rfl) (own_w hw 38 rfl) (by decide) hE (m_ln0 l Z a0 hw a o [.int b0, .int b1, .int b2] (3 : Int32) cs h0 n0 z0 hO hSCS hcs hE hFV hFC hA rfl) d6_4 rfl pd15 rfl rfl (Nat.le_of_eq rfl) (by decide) (by decide) (by decide) (by decide) rfl ?_
    rintro _ _ ⟨r, rfl, rfl, hr⟩
    obtain rfl : r = (3 : Int32) := Int32.toInt_inj.mp (by rw [hr]; decide)
    show Go _ _ _ _ _ _ _ _ _ _ _ _ h0 (0 + 0) (0 + 0) 7 #[.val (.ref a), .val (.int 1), .val (.int cc)] [(.int 3), (.int 1)]
    refine Go.icmp (pc1 := 67) (pc2 := 10) d6_7 (by decide) (by decide) rfl (fun (c_1547 : (3 : Int) ≤ (1 : Int)) => ?_) (fun (c_1547 : (1 : Int) < (3 : Int)) => ?_)
    · exact absurd c_1547 (by decide)
    refine Go.aloadN (pc' := 11) d6_10 rfl rfl rfl ?_
    refine Go.iloadN (pc' := 12) d6_11 rfl rfl ?_
    refine Go.callV (pc' := 15) (argsL := [(.int 1)]) (rest := []) (W := 0) (own_w hw 63 rfl) (own_w hw 64 rfl) (own_w hw 66 rfl) (own_w hw 65 rfl) (own_w hw 8 rfl) (own_w hw 67 rfl) (by decide) hE (m_ca0 l Z a0 hw a o [.int b0, .int b1, .int b2] (1 : Int32) (3 : Int32) b1 1 cs fm h0 n0 z0 hO hSCS hSAD hSHB hSLB hSFM hcs hfm hE hFV hFC hA rfl rfl (by decide) rfl) d6_12 rfl pd16 rfl rfl (Nat.le_of_eq rfl) (by decide) (by decide) (by decide) (by decide) rfl ?_
    rintro _ _ ⟨r, rfl, rfl, hr⟩
    obtain rfl : c1 = r := Int32.toInt_inj.mp (by rw [hr]; exact e1.symm)
    show Go _ _ _ _ _ _ _ _ _ _ _ _ h0 (0 + 0 + 0) (0 + 0 + 0) 15 #[.val (.ref a), .val (.int 1), .val (.int cc)] [(.int c1)]
    refine Go.istoreN (pc' := 16) (Ls' := #[.val (.ref a), .val (.int 1), .val (.int c1)]) d6_15 rfl rfl ?_
    refine Go.iloadN (pc' := 17) d6_16 rfl rfl ?_
    refine Go.callS (pc' := 20) (argsL := [(.int c1)]) (rest := []) (W := 0) (own_w hw 85 rfl) (own_w hw 86 rfl) (own_w hw 87 rfl) (own_w hw 88 rfl) (by decide) (m_jh l Z a0 hw c1 h0 n0 z0) d6_17 rfl pd8 rfl rfl (Nat.le_of_eq rfl) (by decide) (by decide) (by decide) (by decide) rfl ?_
    rintro _ _ ⟨r_1548, rfl, rfl, hr_1548, ir_1548⟩
    show Go _ _ _ _ _ _ _ _ _ _ _ _ h0 (0 + 0 + 0 + 0) (0 + 0 + 0 + 0) 20 #[.val (.ref a), .val (.int 1), .val (.int c1)] [(.int r_1548)]
    refine Go.ifc (pc1 := 52) (pc2 := 23) d6_20 (by decide) (by decide) rfl (fun (c_1549 : r_1548.toInt = 0) => ?_) (fun (c_1549 : r_1548.toInt ≠ 0) => ?_)
    · have k1 : ¬ own_k c1 = 1 := own_b0 ir_1548 c_1549
      refine Go.iloadN (pc' := 53) d6_52 rfl rfl ?_
      refine Go.callS (pc' := 56) (argsL := [(.int c1)]) (rest := []) (W := 0) (own_w hw 90 rfl) (own_w hw 91 rfl) (own_w hw 87 rfl) (own_w hw 92 rfl) (by decide) (m_js l Z a0 hw c1 h0 n0 z0) d6_53 rfl pd8 rfl rfl (Nat.le_of_eq rfl) (by decide) (by decide) (by decide) (by decide) rfl ?_
      rintro _ _ ⟨r_1550, rfl, rfl, hr_1550, ir_1550⟩
      show Go _ _ _ _ _ _ _ _ _ _ _ _ h0 (0 + 0 + 0 + 0 + 0) (0 + 0 + 0 + 0 + 0) 56 #[.val (.ref a), .val (.int 1), .val (.int c1)] [(.int r_1550)]
      refine Go.ifc (pc1 := 61) (pc2 := 59) d6_56 (by decide) (by decide) rfl (fun (c_1551 : r_1550.toInt = 0) => ?_) (fun (c_1551 : r_1550.toInt ≠ 0) => ?_)
      · have k0 : own_k c1 = 0 := Decidable.not_not.mp (own_b0 ir_1550 c_1551)
        refine Go.iinc (pc' := 64) (w := (2 : Int32)) (Ls' := #[.val (.ref a), .val (.int 2), .val (.int c1)]) d6_61 rfl rfl rfl rfl ?_
        refine Go.goto (pc' := 2) d6_64 (by decide) (by decide) ?_
        exact J2 c1 (hJ.trans (own_tx_0 k0))
      · have k0 : own_k c1 ≠ 0 := own_b1 ir_1550 hr_1550 c_1551
        refine Go.iconst (pc' := 60) (v := (0 : Int32)) d6_59 rfl rfl ?_
        exact Go.retN (t := .boolean) d6_60 rfl (by simp) rfl ⟨_, rfl, rfl, by decide, own_f (fun t => own_tx_l (own_k2 k1 k0) (hJ.mp t))⟩ (by decide) (by decide)
    · have k1 : own_k c1 = 1 := own_b1 ir_1548 hr_1548 c_1549
      refine Go.iloadN (pc' := 24) d6_23 rfl rfl ?_
      refine Go.iconst (pc' := 25) (v := (1 : Int32)) d6_24 rfl rfl ?_
      refine Go.iadd (pc' := 26) d6_25 rfl ?_
      show Go _ _ _ _ _ _ _ _ _ _ _ _ h0 (0 + 0 + 0 + 0) (0 + 0 + 0 + 0) 26 #[.val (.ref a), .val (.int 1), .val (.int c1)] [(.int 2)]
      refine Go.aloadN (pc' := 27) d6_26 rfl rfl rfl ?_
      refine Go.callV (pc' := 30) (argsL := []) (rest := [(.int 2)]) (W := 1) (own_w hw 34 rfl) (own_w hw 35 rfl) (own_w hw 37 rfl) (own_w hw 36 rfl) (own_w hw 8 rfl) (own_w hw 38 rfl) (by decide) hE (m_ln0 l Z a0 hw a o [.int b0, .int b1, .int b2] (3 : Int32) cs h0 n0 z0 hO hSCS hcs hE hFV hFC hA rfl) d6_27 rfl pd15 rfl rfl (Nat.le_of_eq rfl) (by decide) (by decide) (by decide) (by decide) rfl ?_
      rintro _ _ ⟨r, rfl, rfl, hr⟩
      obtain rfl : r = (3 : Int32) := Int32.toInt_inj.mp (by rw [hr]; decide)
      show Go _ _ _ _ _ _ _ _ _ _ _ _ h0 (0 + 0 + 0 + 0 + 0) (0 + 0 + 0 + 0 + 0) 30 #[.val (.ref a), .val (.int 1), .val (.int c1)] [(.int 3), (.int 2)]
      refine Go.icmp (pc1 := 52) (pc2 := 33) d6_30 (by decide) (by decide) rfl (fun (c_1552 : (3 : Int) ≤ (2 : Int)) => ?_) (fun (c_1552 : (2 : Int) < (3 : Int)) => ?_)
      · exact absurd c_1552 (by decide)
      refine Go.aloadN (pc' := 34) d6_33 rfl rfl rfl ?_
      refine Go.iloadN (pc' := 35) d6_34 rfl rfl ?_
      refine Go.iconst (pc' := 36) (v := (1 : Int32)) d6_35 rfl rfl ?_
      refine Go.iadd (pc' := 37) d6_36 rfl ?_
      show Go _ _ _ _ _ _ _ _ _ _ _ _ h0 (0 + 0 + 0 + 0 + 0) (0 + 0 + 0 + 0 + 0) 37 #[.val (.ref a), .val (.int 1), .val (.int c1)] [(.int 2), (.ref a)]
      refine Go.callV (pc' := 40) (argsL := [(.int 2)]) (rest := []) (W := 0) (own_w hw 63 rfl) (own_w hw 64 rfl) (own_w hw 66 rfl) (own_w hw 65 rfl) (own_w hw 8 rfl) (own_w hw 67 rfl) (by decide) hE (m_ca0 l Z a0 hw a o [.int b0, .int b1, .int b2] (2 : Int32) (3 : Int32) b2 2 cs fm h0 n0 z0 hO hSCS hSAD hSHB hSLB hSFM hcs hfm hE hFV hFC hA rfl rfl (by decide) rfl) d6_37 rfl pd16 rfl rfl (Nat.le_of_eq rfl) (by decide) (by decide) (by decide) (by decide) rfl ?_
      rintro _ _ ⟨r, rfl, rfl, hr⟩
      obtain rfl : c2 = r := Int32.toInt_inj.mp (by rw [hr]; exact e2.symm)
      show Go _ _ _ _ _ _ _ _ _ _ _ _ h0 (0 + 0 + 0 + 0 + 0 + 0) (0 + 0 + 0 + 0 + 0 + 0) 40 #[.val (.ref a), .val (.int 1), .val (.int c1)] [(.int c2)]
      refine Go.callS (pc' := 43) (argsL := [(.int c2)]) (rest := []) (W := 0) (own_w hw 126 rfl) (own_w hw 127 rfl) (own_w hw 87 rfl) (own_w hw 128 rfl) (by decide) (m_jl l Z a0 hw c2 h0 n0 z0) d6_40 rfl pd8 rfl rfl (Nat.le_of_eq rfl) (by decide) (by decide) (by decide) (by decide) rfl ?_
      rintro _ _ ⟨r_1553, rfl, rfl, hr_1553, ir_1553⟩
      show Go _ _ _ _ _ _ _ _ _ _ _ _ h0 (0 + 0 + 0 + 0 + 0 + 0 + 0) (0 + 0 + 0 + 0 + 0 + 0 + 0) 43 #[.val (.ref a), .val (.int 1), .val (.int c1)] [(.int r_1553)]
      refine Go.ifc (pc1 := 52) (pc2 := 46) d6_43 (by decide) (by decide) rfl (fun (c_1554 : r_1553.toInt = 0) => ?_) (fun (c_1554 : r_1553.toInt ≠ 0) => ?_)
      · have k2 : ¬ own_k c2 = 2 := own_b0 ir_1553 c_1554
        refine Go.iloadN (pc' := 53) d6_52 rfl rfl ?_
        refine Go.callS (pc' := 56) (argsL := [(.int c1)]) (rest := []) (W := 0) (own_w hw 90 rfl) (own_w hw 91 rfl) (own_w hw 87 rfl) (own_w hw 92 rfl) (by decide) (m_js l Z a0 hw c1 h0 n0 z0) d6_53 rfl pd8 rfl rfl (Nat.le_of_eq rfl) (by decide) (by decide) (by decide) (by decide) rfl ?_
        rintro _ _ ⟨r_1555, rfl, rfl, hr_1555, ir_1555⟩
        show Go _ _ _ _ _ _ _ _ _ _ _ _ h0 (0 + 0 + 0 + 0 + 0 + 0 + 0 + 0) (0 + 0 + 0 + 0 + 0 + 0 + 0 + 0) 56 #[.val (.ref a), .val (.int 1), .val (.int c1)] [(.int r_1555)]
        refine Go.ifc (pc1 := 61) (pc2 := 59) d6_56 (by decide) (by decide) rfl (fun (c_1556 : r_1555.toInt = 0) => ?_) (fun (c_1556 : r_1555.toInt ≠ 0) => ?_)
        · exact absurd k1 (by have q := own_b0 ir_1555 c_1556; omega)
        refine Go.iconst (pc' := 60) (v := (0 : Int32)) d6_59 rfl rfl ?_
        exact Go.retN (t := .boolean) d6_60 rfl (by simp) rfl ⟨_, rfl, rfl, by decide, own_f (fun t => own_tx_hn k1 k2 (hJ.mp t))⟩ (by decide) (by decide)
      · have k2 : own_k c2 = 2 := own_b1 ir_1553 hr_1553 c_1554
        refine Go.iinc (pc' := 49) (w := (2 : Int32)) (Ls' := #[.val (.ref a), .val (.int 2), .val (.int c1)]) d6_46 rfl rfl rfl rfl ?_
        refine Go.goto (pc' := 61) d6_49 (by decide) (by decide) ?_
        refine Go.iinc (pc' := 64) (w := (3 : Int32)) (Ls' := #[.val (.ref a), .val (.int 3), .val (.int c1)]) d6_61 rfl rfl rfl rfl ?_
        refine Go.goto (pc' := 2) d6_64 (by decide) (by decide) ?_
        exact J3 c1 (hJ.trans (own_tx_hl k1 k2))
  have hJ : (own_tx [c0, c1, c2]) ↔ (own_tx [c0, c1, c2]) := Iff.rfl
  refine Go.iloadN (pc' := 3) d6_2 rfl rfl ?_
  refine Go.aloadN (pc' := 4) d6_3 rfl rfl rfl ?_
  refine Go.callV (pc' := 7) (argsL := []) (rest := [(.int 0)]) (W := 1) (own_w hw 34 rfl) (own_w hw 35 rfl) (own_w hw 37 rfl) (own_w hw 36 rfl) (own_w hw 8 rfl) (own_w hw 38 rfl) (by decide) hE (m_ln0 l Z a0 hw a o [.int b0, .int b1, .int b2] (3 : Int32) cs h0 n0 z0 hO hSCS hcs hE hFV hFC hA rfl) d6_4 rfl pd15 rfl rfl (Nat.le_of_eq rfl) (by decide) (by decide) (by decide) (by decide) rfl ?_
  rintro _ _ ⟨r, rfl, rfl, hr⟩
  obtain rfl : r = (3 : Int32) := Int32.toInt_inj.mp (by rw [hr]; decide)
  show Go _ _ _ _ _ _ _ _ _ _ _ _ h0 (0 + 0) (0 + 0) 7 #[.val (.ref a), .val (.int 0), .unset] [(.int 3), (.int 0)]
  refine Go.icmp (pc1 := 67) (pc2 := 10) d6_7 (by decide) (by decide) rfl (fun (c_1557 : (3 : Int) ≤ (0 : Int)) => ?_) (fun (c_1557 : (0 : Int) < (3 : Int)) => ?_)
  · exact absurd c_1557 (by decide)
  refine Go.aloadN (pc' := 11) d6_10 rfl rfl rfl ?_
  refine Go.iloadN (pc' := 12) d6_11 rfl rfl ?_
  refine Go.callV (pc' := 15) (argsL := [(.int 0)]) (rest := []) (W := 0) (own_w hw 63 rfl) (own_w hw 64 rfl) (own_w hw 66 rfl) (own_w hw 65 rfl) (own_w hw 8 rfl) (own_w hw 67 rfl) (by decide) hE (m_ca0 l Z a0 hw a o [.int b0, .int b1, .int b2] (0 : Int32) (3 : Int32) b0 0 cs fm h0 n0 z0 hO hSCS hSAD hSHB hSLB hSFM hcs hfm hE hFV hFC hA rfl rfl (by decide) rfl) d6_12 rfl pd16 rfl rfl (Nat.le_of_eq rfl) (by decide) (by decide) (by decide) (by decide) rfl ?_
  rintro _ _ ⟨r, rfl, rfl, hr⟩
  obtain rfl : c0 = r := Int32.toInt_inj.mp (by rw [hr]; exact e0.symm)
  show Go _ _ _ _ _ _ _ _ _ _ _ _ h0 (0 + 0 + 0) (0 + 0 + 0) 15 #[.val (.ref a), .val (.int 0), .unset] [(.int c0)]
  refine Go.istoreN (pc' := 16) (Ls' := #[.val (.ref a), .val (.int 0), .val (.int c0)]) d6_15 rfl rfl ?_
  refine Go.iloadN (pc' := 17) d6_16 rfl rfl ?_
  refine Go.callS (pc' := 20) (argsL := [(.int c0)]) (rest := []) (W := 0) (own_w hw 85 rfl) (own_w hw 86 rfl) (own_w hw 87 rfl) (own_w hw 88 rfl) (by decide) (m_jh l Z a0 hw c0 h0 n0 z0) d6_17 rfl pd8 rfl rfl (Nat.le_of_eq rfl) (by decide) (by decide) (by decide) (by decide) rfl ?_
  rintro _ _ ⟨r_1558, rfl, rfl, hr_1558, ir_1558⟩
  show Go _ _ _ _ _ _ _ _ _ _ _ _ h0 (0 + 0 + 0 + 0) (0 + 0 + 0 + 0) 20 #[.val (.ref a), .val (.int 0), .val (.int c0)] [(.int r_1558)]
  refine Go.ifc (pc1 := 52) (pc2 := 23) d6_20 (by decide) (by decide) rfl (fun (c_1559 : r_1558.toInt = 0) => ?_) (fun (c_1559 : r_1558.toInt ≠ 0) => ?_)
  · have k1 : ¬ own_k c0 = 1 := own_b0 ir_1558 c_1559
    refine Go.iloadN (pc' := 53) d6_52 rfl rfl ?_
    refine Go.callS (pc' := 56) (argsL := [(.int c0)]) (rest := []) (W := 0) (own_w hw 90 rfl) (own_w hw 91 rfl) (own_w hw 87 rfl) (own_w hw 92 rfl) (by decide) (m_js l Z a0 hw c0 h0 n0 z0) d6_53 rfl pd8 rfl rfl (Nat.le_of_eq rfl) (by decide) (by decide) (by decide) (by decide) rfl ?_
    rintro _ _ ⟨r_1560, rfl, rfl, hr_1560, ir_1560⟩
    show Go _ _ _ _ _ _ _ _ _ _ _ _ h0 (0 + 0 + 0 + 0 + 0) (0 + 0 + 0 + 0 + 0) 56 #[.val (.ref a), .val (.int 0), .val (.int c0)] [(.int r_1560)]
    refine Go.ifc (pc1 := 61) (pc2 := 59) d6_56 (by decide) (by decide) rfl (fun (c_1561 : r_1560.toInt = 0) => ?_) (fun (c_1561 : r_1560.toInt ≠ 0) => ?_)
    · have k0 : own_k c0 = 0 := Decidable.not_not.mp (own_b0 ir_1560 c_1561)
      refine Go.iinc (pc' := 64) (w := (1 : Int32)) (Ls' := #[.val (.ref a), .val (.int 1), .val (.int c0)]) d6_61 rfl rfl rfl rfl ?_
      refine Go.goto (pc' := 2) d6_64 (by decide) (by decide) ?_
      exact J1 c0 (hJ.trans (own_tx_0 k0))
    · have k0 : own_k c0 ≠ 0 := own_b1 ir_1560 hr_1560 c_1561
      refine Go.iconst (pc' := 60) (v := (0 : Int32)) d6_59 rfl rfl ?_
      exact Go.retN (t := .boolean) d6_60 rfl (by simp) rfl ⟨_, rfl, rfl, by decide, own_f (fun t => own_tx_l (own_k2 k1 k0) (hJ.mp t))⟩ (by decide) (by decide)
  · have k1 : own_k c0 = 1 := own_b1 ir_1558 hr_1558 c_1559
    refine Go.iloadN (pc' := 24) d6_23 rfl rfl ?_
    refine Go.iconst (pc' := 25) (v := (1 : Int32)) d6_24 rfl rfl ?_
    refine Go.iadd (pc' := 26) d6_25 rfl ?_
    show Go _ _ _ _ _ _ _ _ _ _ _ _ h0 (0 + 0 + 0 + 0) (0 + 0 + 0 + 0) 26 #[.val (.ref a), .val (.int 0), .val (.int c0)] [(.int 1)]
    refine Go.aloadN (pc' := 27) d6_26 rfl rfl rfl ?_
    refine Go.callV (pc' := 30) (argsL := []) (rest := [(.int 1)]) (W := 1) (own_w hw 34 rfl) (own_w hw 35 rfl) (own_w hw 37 rfl) (own_w hw 36 rfl) (own_w hw 8 rfl) (own_w hw 38 rfl) (by decide) hE (m_ln0 l Z a0 hw a o [.int b0, .int b1, .int b2] (3 : Int32) cs h0 n0 z0 hO hSCS hcs hE hFV hFC hA rfl) d6_27 rfl pd15 rfl rfl (Nat.le_of_eq rfl) (by decide) (by decide) (by decide) (by decide) rfl ?_
    rintro _ _ ⟨r, rfl, rfl, hr⟩
    obtain rfl : r = (3 : Int32) := Int32.toInt_inj.mp (by rw [hr]; decide)
    show Go _ _ _ _ _ _ _ _ _ _ _ _ h0 (0 + 0 + 0 + 0 + 0) (0 + 0 + 0 + 0 + 0) 30 #[.val (.ref a), .val (.int 0), .val (.int c0)] [(.int 3), (.int 1)]
    refine Go.icmp (pc1 := 52) (pc2 := 33) d6_30 (by decide) (by decide) rfl (fun (c_1562 : (3 : Int) ≤ (1 : Int)) => ?_) (fun (c_1562 : (1 : Int) < (3 : Int)) => ?_)
    · exact absurd c_1562 (by decide)
    refine Go.aloadN (pc' := 34) d6_33 rfl rfl rfl ?_
    refine Go.iloadN (pc' := 35) d6_34 rfl rfl ?_
    refine Go.iconst (pc' := 36) (v := (1 : Int32)) d6_35 rfl rfl ?_
    refine Go.iadd (pc' := 37) d6_36 rfl ?_
    show Go _ _ _ _ _ _ _ _ _ _ _ _ h0 (0 + 0 + 0 + 0 + 0) (0 + 0 + 0 + 0 + 0) 37 #[.val (.ref a), .val (.int 0), .val (.int c0)] [(.int 1), (.ref a)]
    refine Go.callV (pc' := 40) (argsL := [(.int 1)]) (rest := []) (W := 0) (own_w hw 63 rfl) (own_w hw 64 rfl) (own_w hw 66 rfl) (own_w hw 65 rfl) (own_w hw 8 rfl) (own_w hw 67 rfl) (by decide) hE (m_ca0 l Z a0 hw a o [.int b0, .int b1, .int b2] (1 : Int32) (3 : Int32) b1 1 cs fm h0 n0 z0 hO hSCS hSAD hSHB hSLB hSFM hcs hfm hE hFV hFC hA rfl rfl (by decide) rfl) d6_37 rfl pd16 rfl rfl (Nat.le_of_eq rfl) (by decide) (by decide) (by decide) (by decide) rfl ?_
    rintro _ _ ⟨r, rfl, rfl, hr⟩
    obtain rfl : c1 = r := Int32.toInt_inj.mp (by rw [hr]; exact e1.symm)
    show Go _ _ _ _ _ _ _ _ _ _ _ _ h0 (0 + 0 + 0 + 0 + 0 + 0) (0 + 0 + 0 + 0 + 0 + 0) 40 #[.val (.ref a), .val (.int 0), .val (.int c0)] [(.int c1)]
    refine Go.callS (pc' := 43) (argsL := [(.int c1)]) (rest := []) (W := 0) (own_w hw 126 rfl) (own_w hw 127 rfl) (own_w hw 87 rfl) (own_w hw 128 rfl) (by decide) (m_jl l Z a0 hw c1 h0 n0 z0) d6_40 rfl pd8 rfl rfl (Nat.le_of_eq rfl) (by decide) (by decide) (by decide) (by decide) rfl ?_
    rintro _ _ ⟨r_1563, rfl, rfl, hr_1563, ir_1563⟩
    show Go _ _ _ _ _ _ _ _ _ _ _ _ h0 (0 + 0 + 0 + 0 + 0 + 0 + 0) (0 + 0 + 0 + 0 + 0 + 0 + 0) 43 #[.val (.ref a), .val (.int 0), .val (.int c0)] [(.int r_1563)]
    refine Go.ifc (pc1 := 52) (pc2 := 46) d6_43 (by decide) (by decide) rfl (fun (c_1564 : r_1563.toInt = 0) => ?_) (fun (c_1564 : r_1563.toInt ≠ 0) => ?_)
    · have k2 : ¬ own_k c1 = 2 := own_b0 ir_1563 c_1564
      refine Go.iloadN (pc' := 53) d6_52 rfl rfl ?_
      refine Go.callS (pc' := 56) (argsL := [(.int c0)]) (rest := []) (W := 0) (own_w hw 90 rfl) (own_w hw 91 rfl) (own_w hw 87 rfl) (own_w hw 92 rfl) (by decide) (m_js l Z a0 hw c0 h0 n0 z0) d6_53 rfl pd8 rfl rfl (Nat.le_of_eq rfl) (by decide) (by decide) (by decide) (by decide) rfl ?_
      rintro _ _ ⟨r_1565, rfl, rfl, hr_1565, ir_1565⟩
      show Go _ _ _ _ _ _ _ _ _ _ _ _ h0 (0 + 0 + 0 + 0 + 0 + 0 + 0 + 0) (0 + 0 + 0 + 0 + 0 + 0 + 0 + 0) 56 #[.val (.ref a), .val (.int 0), .val (.int c0)] [(.int r_1565)]
      refine Go.ifc (pc1 := 61) (pc2 := 59) d6_56 (by decide) (by decide) rfl (fun (c_1566 : r_1565.toInt = 0) => ?_) (fun (c_1566 : r_1565.toInt ≠ 0) => ?_)
      · exact absurd k1 (by have q := own_b0 ir_1565 c_1566; omega)
      refine Go.iconst (pc' := 60) (v := (0 : Int32)) d6_59 rfl rfl ?_
      exact Go.retN (t := .boolean) d6_60 rfl (by simp) rfl ⟨_, rfl, rfl, by decide, own_f (fun t => own_tx_hn k1 k2 (hJ.mp t))⟩ (by decide) (by decide)
    · have k2 : own_k c1 = 2 := own_b1 ir_1563 hr_1563 c_1564
      refine Go.iinc (pc' := 49) (w := (1 : Int32)) (Ls' := #[.val (.ref a), .val (.int 1), .val (.int c0)]) d6_46 rfl rfl rfl rfl ?_
      refine Go.goto (pc' := 61) d6_49 (by decide) (by decide) ?_
      refine Go.iinc (pc' := 64) (w := (2 : Int32)) (Ls' := #[.val (.ref a), .val (.int 2), .val (.int c0)]) d6_61 rfl rfl rfl rfl ?_
      refine Go.goto (pc' := 2) d6_64 (by decide) (by decide) ?_
      exact J2 c0 (hJ.trans (own_tx_hl k1 k2))
set_option maxRecDepth 65536 in
set_option maxHeartbeats 40000000 in
theorem m_tx3_1 (l : Launch) (Z : State) (a0 : Array Value) (hw : ∀ d ∈ tables_1, d.before a0 Z = true) (a o : Addr) (l0 g0 l1 g1 l2 g2 c0 c1 c2 : Int32) (cs : Int32) (fm : Value) (h0 : Heap) (n0 : Nat) (z0 : n0 ≤ h0.size) (hO : Old Z n0 h0) (hSCS : Sta Z Z.heap "java/lang/String" "COMPACT_STRINGS" "Z" (.int cs)) (hSAD : Sta Z Z.heap "java/lang/StringUTF16" "$assertionsDisabled" "Z" (.int 1)) (hSHB : Sta Z Z.heap "java/lang/StringUTF16" "HI_BYTE_SHIFT" "I" (.int 0)) (hSLB : Sta Z Z.heap "java/lang/StringUTF16" "LO_BYTE_SHIFT" "I" (.int 8)) (hSFM : Sta Z Z.heap "jdk/internal/util/Preconditions" "SIOOBE_FORMATTER" "Ljava/util/function/BiFunction;" fm) (hcs : cs.toInt ≠ 0) (hfm : fm.isRef = true) (hE : Exa Z h0 a "java/lang/String") (hFV : Fld Z h0 a "java/lang/String" "value" "[B" (.ref o)) (hFC : Fld Z h0 a "java/lang/String" "coder" "B" (.int 1)) (hA : Ary Z h0 o .byte [.int l0, .int g0, .int l1, .int g1, .int l2, .int g2]) (e0 : l0.toInt % 256 + 256 * (g0.toInt % 256) = c0.toInt) (e1 : l1.toInt % 256 + 256 * (g1.toInt % 256) = c1.toInt) (e2 : l2.toInt % 256 + 256 * (g2.toInt % 256) = c2.toInt) : Mt .n l Z (⟨"com/example/consentry/consentry/io/Unicode", "isText", "(Ljava/lang/String;)Z"⟩ : MethodName) prog_29_method_2_code 3 (some .boolean) ({ frames := 5, cells := 0, slots := 0, locals := 75 } : Room) n0 (fun v h => ∃ r : Int32, v = some (.int r) ∧ h0 = h ∧ (r.toInt = 0 ∨ r.toInt = 1) ∧ (r.toInt = 1 ↔ (own_tx [c0, c1, c2]))) h0 #[(.ref a)] := by
  refine Mt.go (Ls := #[.val (.ref a), .unset, .unset]) (plainFor_of_name pn1) (fun m => by first | (simp [entryFrame, mkF, argsToLocals, Value.category]; done) | rfl) ?_
  show Go _ _ _ _ _ _ _ _ _ _ _ _ h0 0 0 0 #[.val (.ref a), .unset, .unset] []
  have hTCS := Sta.ext hO.2 hSCS
  have hTAD := Sta.ext hO.2 hSAD
  have hTHB := Sta.ext hO.2 hSHB
  have hTLB := Sta.ext hO.2 hSLB
  have hTFM := Sta.ext hO.2 hSFM
  have n_1567 : a ≠ o := by obtain ⟨_, Ag, -⟩ := hA; exact ne_arr hE (own_w hw 7 rfl) Ag
  refine Go.iconst (pc' := 1) (v := (0 : Int32)) d6_0 rfl rfl ?_
  refine Go.istoreN (pc' := 2) (Ls' := #[.val (.ref a), .val (.int 0), .unset]) d6_1 rfl rfl ?_
  have J3 : ∀ cc : Int32, ((own_tx [c0, c1, c2]) ↔ (own_tx [])) → (Go .n l ({ frames := 5, cells := 0, slots := 0, locals := 75 } : Room) Z (⟨"com/example/consentry/consentry/io/Unicode", "isText", "(Ljava/lang/String;)Z"⟩ : MethodName) prog_29_method_2_code 3 (some .boolean) n0 0 0 (fun v h => ∃ r : Int32, v = some (.int r) ∧ h0 = h ∧ (r.toInt = 0 ∨ r.toInt = 1) ∧ (r.toInt = 1 ↔ (own_tx [c0, c1, c2])))) h0 0 0 2 #[.val (.ref a), .val (.int 3), .val (.int cc)] [] := by
    intro cc hJ
    refine Go.iloadN (pc' := 3) d6_2 rfl rfl ?_
    refine Go.aloadN (pc' := 4) d6_3 rfl rfl rfl ?_
    refine Go.callV (pc' := 7) (argsL := []) (rest := [(.int 3)]) (W := 1) (own_w hw 34 rfl) (own_w hw 35 rfl) (own_w hw 37 rfl) (own_w hw 36 rfl) (own_w hw 8 rfl) (own_w hw 38 rfl) (by decide) hE (m_ln1 l Z a0 hw a o [.int l0, .int g0, .int l1, .int g1, .int l2, .int g2] (6 : Int32) cs h0 n0 z0 hO hSCS hcs hE hFV hFC hA rfl) d6_4 rfl pd15 rfl rfl (Nat.le_of_eq rfl) (by decide) (by decide) (by decide) (by decide) rfl ?_
    rintro _ _ ⟨r, rfl, rfl, hr⟩
    obtain rfl : r = (3 : Int32) := Int32.toInt_inj.mp (by rw [hr]; decide)
    show Go _ _ _ _ _ _ _ _ _ _ _ _ h0 (0 + 0) (0 + 0) 7 #[.val (.ref a), .val (.int 3), .val (.int cc)] [(.int 3), (.int 3)]
    refine Go.icmp (pc1 := 67) (pc2 := 10) d6_7 (by decide) (by decide) rfl (fun (c_1568 : (3 : Int) ≤ (3 : Int)) => ?_) (fun (c_1568 : (3 : Int) < (3 : Int)) => ?_)
    rotate_left
    · exact absurd c_1568 (by decide)
    refine Go.iconst (pc' := 68) (v := (1 : Int32)) d6_67 rfl rfl ?_
    exact Go.retN (t := .boolean) d6_68 rfl (by simp) rfl ⟨_, rfl, rfl, by decide, ⟨fun _ => hJ.mpr trivial, fun _ => rfl⟩⟩ (by decide) (by decide)
  have J2 : ∀ cc : Int32, ((own_tx [c0, c1, c2]) ↔ (own_tx [c2])) → (Go .n l ({ frames := 5, cells := 0, slots := 0, locals := 75 } : Room) Z (⟨"com/example/consentry/consentry/io/Unicode", "isText", "(Ljava/lang/String;)Z"⟩ : MethodName) prog_29_method_2_code 3 (some .boolean) n0 0 0 (fun v h => ∃ r : Int32, v = some (.int r) ∧ h0 = h ∧ (r.toInt = 0 ∨ r.toInt = 1) ∧ (r.toInt = 1 ↔ (own_tx [c0, c1, c2])))) h0 0 0 2 #[.val (.ref a), .val (.int 2), .val (.int cc)] [] := by
    intro cc hJ
    refine Go.iloadN (pc' := 3) d6_2 rfl rfl ?_
    refine Go.aloadN (pc' := 4) d6_3 rfl rfl rfl ?_
    refine Go.callV (pc' := 7) (argsL := []) (rest := [(.int 2)]) (W := 1) (own_w hw 34 rfl) (own_w hw 35 rfl) (own_w hw 37 rfl) (own_w hw 36 rfl) (own_w hw 8 rfl) (own_w hw 38 rfl) (by decide) hE (m_ln1 l Z a0 hw a o [.int l0, .int g0, .int l1, .int g1, .int l2, .int g2] (6 : Int32) cs h0 n0 z0 hO hSCS hcs hE hFV hFC hA rfl) d6_4 rfl pd15 rfl rfl (Nat.le_of_eq rfl) (by decide) (by decide) (by decide) (by decide) rfl ?_
    rintro _ _ ⟨r, rfl, rfl, hr⟩
    obtain rfl : r = (3 : Int32) := Int32.toInt_inj.mp (by rw [hr]; decide)
    show Go _ _ _ _ _ _ _ _ _ _ _ _ h0 (0 + 0) (0 + 0) 7 #[.val (.ref a), .val (.int 2), .val (.int cc)] [(.int 3), (.int 2)]
    refine Go.icmp (pc1 := 67) (pc2 := 10) d6_7 (by decide) (by decide) rfl (fun (c_1569 : (3 : Int) ≤ (2 : Int)) => ?_) (fun (c_1569 : (2 : Int) < (3 : Int)) => ?_)
    · exact absurd c_1569 (by decide)
    refine Go.aloadN (pc' := 11) d6_10 rfl rfl rfl ?_
    refine Go.iloadN (pc' := 12) d6_11 rfl rfl ?_
    refine Go.callV (pc' := 15) (argsL := [(.int 2)]) (rest := []) (W := 0) (own_w hw 63 rfl) (own_w hw 64 rfl) (own_w hw 66 rfl) (own_w hw 65 rfl) (own_w hw 8 rfl) (own_w hw 67 rfl) (by decide) hE (m_ca1 l Z a0 hw a o [.int l0, .int g0, .int l1, .int g1, .int l2, .int g2] (2 : Int32) (6 : Int32) l2 g2 2 cs fm h0 n0 z0 hO hSCS hSAD hSHB hSLB hSFM hcs hfm hE hFV hFC hA rfl rfl (by decide) (by decide) rfl rfl) d6_12 rfl pd16 rfl rfl (Nat.le_of_eq rfl) (by decide) (by decide) (by decide) (by decide) rfl ?_
    rintro _ _ ⟨r, rfl, rfl, hr⟩
    obtain rfl : c2 = r := Int32.toInt_inj.mp (by rw [hr]; exact e2.symm)
    show Go _ _ _ _ _ _ _ _ _ _ _ _ h0 (0 + 0 + 0) (0 + 0 + 0) 15 #[.val (.ref a), .val (.int 2), .val (.int cc)] [(.int c2)]
    refine Go.istoreN (pc' := 16) (Ls' := #[.val (.ref a), .val (.int 2), .val (.int c2)]) d6_15 rfl rfl ?_
    refine Go.iloadN (pc' := 17) d6_16 rfl rfl ?_
    refine Go.callS (pc' := 20) (argsL := [(.int c2)]) (rest := []) (W := 0) (own_w hw 85 rfl) (own_w hw 86 rfl) (own_w hw 87 rfl) (own_w hw 88 rfl) (by decide) (m_jh l Z a0 hw c2 h0 n0 z0) d6_17 rfl pd8 rfl rfl (Nat.le_of_eq rfl) (by decide) (by decide) (by decide) (by decide) rfl ?_
    rintro _ _ ⟨r_1570, rfl, rfl, hr_1570, ir_1570⟩
    show Go _ _ _ _ _ _ _ _ _ _ _ _ h0 (0 + 0 + 0 + 0) (0 + 0 + 0 + 0) 20 #[.val (.ref a), .val (.int 2), .val (.int c2)] [(.int r_1570)]
    refine Go.ifc (pc1 := 52) (pc2 := 23) d6_20 (by decide) (by decide) rfl (fun (c_1571 : r_1570.toInt = 0) => ?_) (fun (c_1571 : r_1570.toInt ≠ 0) => ?_)
    · have k1 : ¬ own_k c2 = 1 := own_b0 ir_1570 c_1571
      refine Go.iloadN (pc' := 53) d6_52 rfl rfl ?_
      refine Go.callS (pc' := 56) (argsL := [(.int c2)]) (rest := []) (W := 0) (own_w hw 90 rfl) (own_w hw 91 rfl) (own_w hw 87 rfl) (own_w hw 92 rfl) (by decide) (m_js l Z a0 hw c2 h0 n0 z0) d6_53 rfl pd8 rfl rfl (Nat.le_of_eq rfl) (by decide) (by decide) (by decide) (by decide) rfl ?_
      rintro _ _ ⟨r_1572, rfl, rfl, hr_1572, ir_1572⟩
      show Go _ _ _ _ _ _ _ _ _ _ _ _ h0 (0 + 0 + 0 + 0 + 0) (0 + 0 + 0 + 0 + 0) 56 #[.val (.ref a), .val (.int 2), .val (.int c2)] [(.int r_1572)]
      refine Go.ifc (pc1 := 61) (pc2 := 59) d6_56 (by decide) (by decide) rfl (fun (c_1573 : r_1572.toInt = 0) => ?_) (fun (c_1573 : r_1572.toInt ≠ 0) => ?_)
      · have k0 : own_k c2 = 0 := Decidable.not_not.mp (own_b0 ir_1572 c_1573)
        refine Go.iinc (pc' := 64) (w := (3 : Int32)) (Ls' := #[.val (.ref a), .val (.int 3), .val (.int c2)]) d6_61 rfl rfl rfl rfl ?_
        refine Go.goto (pc' := 2) d6_64 (by decide) (by decide) ?_
        exact J3 c2 (hJ.trans (own_tx_0 k0))
      · have k0 : own_k c2 ≠ 0 := own_b1 ir_1572 hr_1572 c_1573
        refine Go.iconst (pc' := 60) (v := (0 : Int32)) d6_59 rfl rfl ?_
        exact Go.retN (t := .boolean) d6_60 rfl (by simp) rfl ⟨_, rfl, rfl, by decide, own_f (fun t => own_tx_l (own_k2 k1 k0) (hJ.mp t))⟩ (by decide) (by decide)
    · have k1 : own_k c2 = 1 := own_b1 ir_1570 hr_1570 c_1571
      refine Go.iloadN (pc' := 24) d6_23 rfl rfl ?_
      refine Go.iconst (pc' := 25) (v := (1 : Int32)) d6_24 rfl rfl ?_
      refine Go.iadd (pc' := 26) d6_25 rfl ?_
      show Go _ _ _ _ _ _ _ _ _ _ _ _ h0 (0 + 0 + 0 + 0) (0 + 0 + 0 + 0) 26 #[.val (.ref a), .val (.int 2), .val (.int c2)] [(.int 3)]
      refine Go.aloadN (pc' := 27) d6_26 rfl rfl rfl ?_
      refine Go.callV (pc' := 30) (argsL := []) (rest := [(.int 3)]) (W := 1) (own_w hw 34 rfl) (own_w hw 35 rfl) (own_w hw 37 rfl) (own_w hw 36 rfl) (own_w hw 8 rfl) (own_w hw 38 rfl) (by decide) hE (m_ln1 l Z a0 hw a o [.int l0, .int g0, .int l1, .int g1, .int l2, .int g2] (6 : Int32) cs h0 n0 z0 hO hSCS hcs hE hFV hFC hA rfl) d6_27 rfl pd15 rfl rfl (Nat.le_of_eq rfl) (by decide) (by decide) (by decide) (by decide) rfl ?_
      rintro _ _ ⟨r, rfl, rfl, hr⟩
      obtain rfl : r = (3 : Int32) := Int32.toInt_inj.mp (by rw [hr]; decide)
      show Go _ _ _ _ _ _ _ _ _ _ _ _ h0 (0 + 0 + 0 + 0 + 0) (0 + 0 + 0 + 0 + 0) 30 #[.val (.ref a), .val (.int 2), .val (.int c2)] [(.int 3), (.int 3)]
      refine Go.icmp (pc1 := 52) (pc2 := 33) d6_30 (by decide) (by decide) rfl (fun (c_1574 : (3 : Int) ≤ (3 : Int)) => ?_) (fun (c_1574 : (3 : Int) < (3 : Int)) => ?_)
      rotate_left
      · exact absurd c_1574 (by decide)
      refine Go.iloadN (pc' := 53) d6_52 rfl rfl ?_
      refine Go.callS (pc' := 56) (argsL := [(.int c2)]) (rest := []) (W := 0) (own_w hw 90 rfl) (own_w hw 91 rfl) (own_w hw 87 rfl) (own_w hw 92 rfl) (by decide) (m_js l Z a0 hw c2 h0 n0 z0) d6_53 rfl pd8 rfl rfl (Nat.le_of_eq rfl) (by decide) (by decide) (by decide) (by decide) rfl ?_
      rintro _ _ ⟨r_1575, rfl, rfl, hr_1575, ir_1575⟩
      show Go _ _ _ _ _ _ _ _ _ _ _ _ h0 (0 + 0 + 0 + 0 + 0 + 0) (0 + 0 + 0 + 0 + 0 + 0) 56 #[.val (.ref a), .val (.int 2), .val (.int c2)] [(.int r_1575)]
      refine Go.ifc (pc1 := 61) (pc2 := 59) d6_56 (by decide) (by decide) rfl (fun (c_1576 : r_1575.toInt = 0) => ?_) (fun (c_1576 : r_1575.toInt ≠ 0) => ?_)
      · exact absurd k1 (by have q := own_b0 ir_1575 c_1576; omega)
      refine Go.iconst (pc' := 60) (v := (0 : Int32)) d6_59 rfl rfl ?_
      exact Go.retN (t := .boolean) d6_60 rfl (by simp) rfl ⟨_, rfl, rfl, by decide, own_f (fun t => own_tx_h1 k1 (hJ.mp t))⟩ (by decide) (by decide)
  have J1 : ∀ cc : Int32, ((own_tx [c0, c1, c2]) ↔ (own_tx [c1, c2])) → (Go .n l ({ frames := 5, cells := 0, slots := 0, locals := 75 } : Room) Z (⟨"com/example/consentry/consentry/io/Unicode", "isText", "(Ljava/lang/String;)Z"⟩ : MethodName) prog_29_method_2_code 3 (some .boolean) n0 0 0 (fun v h => ∃ r : Int32, v = some (.int r) ∧ h0 = h ∧ (r.toInt = 0 ∨ r.toInt = 1) ∧ (r.toInt = 1 ↔ (own_tx [c0, c1, c2])))) h0 0 0 2 #[.val (.ref a), .val (.int 1), .val (.int cc)] [] := by
    intro cc hJ
    refine Go.iloadN (pc' := 3) d6_2 rfl rfl ?_
    refine Go.aloadN (pc' := 4) d6_3 rfl rfl rfl ?_
    refine Go.callV (pc' := 7) (argsL := []) (rest := [(.int 1)]) (W := 1) (own_w hw 34 rfl) (own_w hw 35 rfl) (own_w hw 37 rfl) (own_w hw 36 rfl) (own_w hw 8 rfl) (own_w hw 38 rfl) (by decide) hE (m_ln1 l Z a0 hw a o [.int l0, .int g0, .int l1, .int g1, .int l2, .int g2] (6 : Int32) cs h0 n0 z0 hO hSCS hcs hE hFV hFC hA rfl) d6_4 rfl pd15 rfl rfl (Nat.le_of_eq rfl) (by decide) (by decide) (by decide) (by decide) rfl ?_
    rintro _ _ ⟨r, rfl, rfl, hr⟩
    obtain rfl : r = (3 : Int32) := Int32.toInt_inj.mp (by rw [hr]; decide)
    show Go _ _ _ _ _ _ _ _ _ _ _ _ h0 (0 + 0) (0 + 0) 7 #[.val (.ref a), .val (.int 1), .val (.int cc)] [(.int 3), (.int 1)]
    refine Go.icmp (pc1 := 67) (pc2 := 10) d6_7 (by decide) (by decide) rfl (fun (c_1577 : (3 : Int) ≤ (1 : Int)) => ?_) (fun (c_1577 : (1 : Int) < (3 : Int)) => ?_)
    · exact absurd c_1577 (by decide)
    refine Go.aloadN (pc' := 11) d6_10 rfl rfl rfl ?_
    refine Go.iloadN (pc' := 12) d6_11 rfl rfl ?_
    refine Go.callV (pc' := 15) (argsL := [(.int 1)]) (rest := []) (W := 0) (own_w hw 63 rfl) (own_w hw 64 rfl) (own_w hw 66 rfl) (own_w hw 65 rfl) (own_w hw 8 rfl) (own_w hw 67 rfl) (by decide) hE (m_ca1 l Z a0 hw a o [.int l0, .int g0, .int l1, .int g1, .int l2, .int g2] (1 : Int32) (6 : Int32) l1 g1 1 cs fm h0 n0 z0 hO hSCS hSAD hSHB hSLB hSFM hcs hfm hE hFV hFC hA rfl rfl (by decide) (by decide) rfl rfl) d6_12 rfl pd16 rfl rfl (Nat.le_of_eq rfl) (by decide) (by decide) (by decide) (by decide) rfl ?_
    rintro _ _ ⟨r, rfl, rfl, hr⟩
    obtain rfl : c1 = r := Int32.toInt_inj.mp (by rw [hr]; exact e1.symm)
    show Go _ _ _ _ _ _ _ _ _ _ _ _ h0 (0 + 0 + 0) (0 + 0 + 0) 15 #[.val (.ref a), .val (.int 1), .val (.int cc)] [(.int c1)]
    refine Go.istoreN (pc' := 16) (Ls' := #[.val (.ref a), .val (.int 1), .val (.int c1)]) d6_15 rfl rfl ?_
    refine Go.iloadN (pc' := 17) d6_16 rfl rfl ?_
    refine Go.callS (pc' := 20) (argsL := [(.int c1)]) (rest := []) (W := 0) (own_w hw 85 rfl) (own_w hw 86 rfl) (own_w hw 87 rfl) (own_w hw 88 rfl) (by decide) (m_jh l Z a0 hw c1 h0 n0 z0) d6_17 rfl pd8 rfl rfl (Nat.le_of_eq rfl) (by decide) (by decide) (by decide) (by decide) rfl ?_
    rintro _ _ ⟨r_1578, rfl, rfl, hr_1578, ir_1578⟩
    show Go _ _ _ _ _ _ _ _ _ _ _ _ h0 (0 + 0 + 0 + 0) (0 + 0 + 0 + 0) 20 #[.val (.ref a), .val (.int 1), .val (.int c1)] [(.int r_1578)]
    refine Go.ifc (pc1 := 52) (pc2 := 23) d6_20 (by decide) (by decide) rfl (fun (c_1579 : r_1578.toInt = 0) => ?_) (fun (c_1579 : r_1578.toInt ≠ 0) => ?_)
    · have k1 : ¬ own_k c1 = 1 := own_b0 ir_1578 c_1579
      refine Go.iloadN (pc' := 53) d6_52 rfl rfl ?_
      refine Go.callS (pc' := 56) (argsL := [(.int c1)]) (rest := []) (W := 0) (own_w hw 90 rfl) (own_w hw 91 rfl) (own_w hw 87 rfl) (own_w hw 92 rfl) (by decide) (m_js l Z a0 hw c1 h0 n0 z0) d6_53 rfl pd8 rfl rfl (Nat.le_of_eq rfl) (by decide) (by decide) (by decide) (by decide) rfl ?_
      rintro _ _ ⟨r_1580, rfl, rfl, hr_1580, ir_1580⟩
      show Go _ _ _ _ _ _ _ _ _ _ _ _ h0 (0 + 0 + 0 + 0 + 0) (0 + 0 + 0 + 0 + 0) 56 #[.val (.ref a), .val (.int 1), .val (.int c1)] [(.int r_1580)]
      refine Go.ifc (pc1 := 61) (pc2 := 59) d6_56 (by decide) (by decide) rfl (fun (c_1581 : r_1580.toInt = 0) => ?_) (fun (c_1581 : r_1580.toInt ≠ 0) => ?_)
      · have k0 : own_k c1 = 0 := Decidable.not_not.mp (own_b0 ir_1580 c_1581)
        refine Go.iinc (pc' := 64) (w := (2 : Int32)) (Ls' := #[.val (.ref a), .val (.int 2), .val (.int c1)]) d6_61 rfl rfl rfl rfl ?_
        refine Go.goto (pc' := 2) d6_64 (by decide) (by decide) ?_
        exact J2 c1 (hJ.trans (own_tx_0 k0))
      · have k0 : own_k c1 ≠ 0 := own_b1 ir_1580 hr_1580 c_1581
        refine Go.iconst (pc' := 60) (v := (0 : Int32)) d6_59 rfl rfl ?_
        exact Go.retN (t := .boolean) d6_60 rfl (by simp) rfl ⟨_, rfl, rfl, by decide, own_f (fun t => own_tx_l (own_k2 k1 k0) (hJ.mp t))⟩ (by decide) (by decide)
    · have k1 : own_k c1 = 1 := own_b1 ir_1578 hr_1578 c_1579
      refine Go.iloadN (pc' := 24) d6_23 rfl rfl ?_
      refine Go.iconst (pc' := 25) (v := (1 : Int32)) d6_24 rfl rfl ?_
      refine Go.iadd (pc' := 26) d6_25 rfl ?_
      show Go _ _ _ _ _ _ _ _ _ _ _ _ h0 (0 + 0 + 0 + 0) (0 + 0 + 0 + 0) 26 #[.val (.ref a), .val (.int 1), .val (.int c1)] [(.int 2)]
      refine Go.aloadN (pc' := 27) d6_26 rfl rfl rfl ?_
      refine Go.callV (pc' := 30) (argsL := []) (rest := [(.int 2)]) (W := 1) (own_w hw 34 rfl) (own_w hw 35 rfl) (own_w hw 37 rfl) (own_w hw 36 rfl) (own_w hw 8 rfl) (own_w hw 38 rfl) (by decide) hE (m_ln1 l Z a0 hw a o [.int l0, .int g0, .int l1, .int g1, .int l2, .int g2] (6 : Int32) cs h0 n0 z0 hO hSCS hcs hE hFV hFC hA rfl) d6_27 rfl pd15 rfl rfl (Nat.le_of_eq rfl) (by decide) (by decide) (by decide) (by decide) rfl ?_
      rintro _ _ ⟨r, rfl, rfl, hr⟩
      obtain rfl : r = (3 : Int32) := Int32.toInt_inj.mp (by rw [hr]; decide)
      show Go _ _ _ _ _ _ _ _ _ _ _ _ h0 (0 + 0 + 0 + 0 + 0) (0 + 0 + 0 + 0 + 0) 30 #[.val (.ref a), .val (.int 1), .val (.int c1)] [(.int 3), (.int 2)]
      refine Go.icmp (pc1 := 52) (pc2 := 33) d6_30 (by decide) (by decide) rfl (fun (c_1582 : (3 : Int) ≤ (2 : Int)) => ?_) (fun (c_1582 : (2 : Int) < (3 : Int)) => ?_)
      · exact absurd c_1582 (by decide)
      refine Go.aloadN (pc' := 34) d6_33 rfl rfl rfl ?_
      refine Go.iloadN (pc' := 35) d6_34 rfl rfl ?_
      refine Go.iconst (pc' := 36) (v := (1 : Int32)) d6_35 rfl rfl ?_
      refine Go.iadd (pc' := 37) d6_36 rfl ?_
      show Go _ _ _ _ _ _ _ _ _ _ _ _ h0 (0 + 0 + 0 + 0 + 0) (0 + 0 + 0 + 0 + 0) 37 #[.val (.ref a), .val (.int 1), .val (.int c1)] [(.int 2), (.ref a)]
      refine Go.callV (pc' := 40) (argsL := [(.int 2)]) (rest := []) (W := 0) (own_w hw 63 rfl) (own_w hw 64 rfl) (own_w hw 66 rfl) (own_w hw 65 rfl) (own_w hw 8 rfl) (own_w hw 67 rfl) (by decide) hE (m_ca1 l Z a0 hw a o [.int l0, .int g0, .int l1, .int g1, .int l2, .int g2] (2 : Int32) (6 : Int32) l2 g2 2 cs fm h0 n0 z0 hO hSCS hSAD hSHB hSLB hSFM hcs hfm hE hFV hFC hA rfl rfl (by decide) (by decide) rfl rfl) d6_37 rfl pd16 rfl rfl (Nat.le_of_eq rfl) (by decide) (by decide) (by decide) (by decide) rfl ?_
      rintro _ _ ⟨r, rfl, rfl, hr⟩
      obtain rfl : c2 = r := Int32.toInt_inj.mp (by rw [hr]; exact e2.symm)
      show Go _ _ _ _ _ _ _ _ _ _ _ _ h0 (0 + 0 + 0 + 0 + 0 + 0) (0 + 0 + 0 + 0 + 0 + 0) 40 #[.val (.ref a), .val (.int 1), .val (.int c1)] [(.int c2)]
      refine Go.callS (pc' := 43) (argsL := [(.int c2)]) (rest := []) (W := 0) (own_w hw 126 rfl) (own_w hw 127 rfl) (own_w hw 87 rfl) (own_w hw 128 rfl) (by decide) (m_jl l Z a0 hw c2 h0 n0 z0) d6_40 rfl pd8 rfl rfl (Nat.le_of_eq rfl) (by decide) (by decide) (by decide) (by decide) rfl ?_
      rintro _ _ ⟨r_1583, rfl, rfl, hr_1583, ir_1583⟩
      show Go _ _ _ _ _ _ _ _ _ _ _ _ h0 (0 + 0 + 0 + 0 + 0 + 0 + 0) (0 + 0 + 0 + 0 + 0 + 0 + 0) 43 #[.val (.ref a), .val (.int 1), .val (.int c1)] [(.int r_1583)]
      refine Go.ifc (pc1 := 52) (pc2 := 46) d6_43 (by decide) (by decide) rfl (fun (c_1584 : r_1583.toInt = 0) => ?_) (fun (c_1584 : r_1583.toInt ≠ 0) => ?_)
      · have k2 : ¬ own_k c2 = 2 := own_b0 ir_1583 c_1584
        refine Go.iloadN (pc' := 53) d6_52 rfl rfl ?_
        refine Go.callS (pc' := 56) (argsL := [(.int c1)]) (rest := []) (W := 0) (own_w hw 90 rfl) (own_w hw 91 rfl) (own_w hw 87 rfl) (own_w hw 92 rfl) (by decide) (m_js l Z a0 hw c1 h0 n0 z0) d6_53 rfl pd8 rfl rfl (Nat.le_of_eq rfl) (by decide) (by decide) (by decide) (by decide) rfl ?_
        rintro _ _ ⟨r_1585, rfl, rfl, hr_1585, ir_1585⟩
        show Go _ _ _ _ _ _ _ _ _ _ _ _ h0 (0 + 0 + 0 + 0 + 0 + 0 + 0 + 0) (0 + 0 + 0 + 0 + 0 + 0 + 0 + 0) 56 #[.val (.ref a), .val (.int 1), .val (.int c1)] [(.int r_1585)]
        refine Go.ifc (pc1 := 61) (pc2 := 59) d6_56 (by decide) (by decide) rfl (fun (c_1586 : r_1585.toInt = 0) => ?_) (fun (c_1586 : r_1585.toInt ≠ 0) => ?_)
        · exact absurd k1 (by have q := own_b0 ir_1585 c_1586; omega)
        refine Go.iconst (pc' := 60) (v := (0 : Int32)) d6_59 rfl rfl ?_
        exact Go.retN (t := .boolean) d6_60 rfl (by simp) rfl ⟨_, rfl, rfl, by decide, own_f (fun t => own_tx_hn k1 k2 (hJ.mp t))⟩ (by decide) (by decide)
      · have k2 : own_k c2 = 2 := own_b1 ir_1583 hr_1583 c_1584
        refine Go.iinc (pc' := 49) (w := (2 : Int32)) (Ls' := #[.val (.ref a), .val (.int 2), .val (.int c1)]) d6_46 rfl rfl rfl rfl ?_
        refine Go.goto (pc' := 61) d6_49 (by decide) (by decide) ?_
        refine Go.iinc (pc' := 64) (w := (3 : Int32)) (Ls' := #[.val (.ref a), .val (.int 3), .val (.int c1)]) d6_61 rfl rfl rfl rfl ?_
        refine Go.goto (pc' := 2) d6_64 (by decide) (by decide) ?_
        exact J3 c1 (hJ.trans (own_tx_hl k1 k2))
  have hJ : (own_tx [c0, c1, c2]) ↔ (own_tx [c0, c1, c2]) := Iff.rfl
  refine Go.iloadN (pc' := 3) d6_2 rfl rfl ?_
  refine Go.aloadN (pc' := 4) d6_3 rfl rfl rfl ?_
  refine Go.callV (pc' := 7) (argsL := []) (rest := [(.int 0)]) (W := 1) (own_w hw 34 rfl) (own_w hw 35 rfl) (own_w hw 37 rfl) (own_w hw 36 rfl) (own_w hw 8 rfl) (own_w hw 38 rfl) (by decide) hE (m_ln1 l Z a0 hw a o [.int l0, .int g0, .int l1, .int g1, .int l2, .int g2] (6 : Int32) cs h0 n0 z0 hO hSCS hcs hE hFV hFC hA rfl) d6_4 rfl pd15 rfl rfl (Nat.le_of_eq rfl) (by decide) (by decide) (by decide) (by decide) rfl ?_
  rintro _ _ ⟨r, rfl, rfl, hr⟩
  obtain rfl : r = (3 : Int32) := Int32.toInt_inj.mp (by rw [hr]; decide)
  show Go _ _ _ _ _ _ _ _ _ _ _ _ h0 (0 + 0) (0 + 0) 7 #[.val (.ref a), .val (.int 0), .unset] [(.int 3), (.int 0)]
  refine Go.icmp (pc1 := 67) (pc2 := 10) d6_7 (by decide) (by decide) rfl (fun (c_1587 : (3 : Int) ≤ (0 : Int)) => ?_) (fun (c_1587 : (0 : Int) < (3 : Int)) => ?_)
  · exact absurd c_1587 (by decide)
  refine Go.aloadN (pc' := 11) d6_10 rfl rfl rfl ?_
  refine Go.iloadN (pc' := 12) d6_11 rfl rfl ?_
  refine Go.callV (pc' := 15) (argsL := [(.int 0)]) (rest := []) (W := 0) (own_w hw 63 rfl) (own_w hw 64 rfl) (own_w hw 66 rfl) (own_w hw 65 rfl) (own_w hw 8 rfl) (own_w hw 67 rfl) (by decide) hE (m_ca1 l Z a0 hw a o [.int l0, .int g0, .int l1, .int g1, .int l2, .int g2] (0 : Int32) (6 : Int32) l0 g0 0 cs fm h0 n0 z0 hO hSCS hSAD hSHB hSLB hSFM hcs hfm hE hFV hFC hA rfl rfl (by decide) (by decide) rfl rfl) d6_12 rfl pd16 rfl rfl (Nat.le_of_eq rfl) (by decide) (by decide) (by decide) (by decide) rfl ?_
  rintro _ _ ⟨r, rfl, rfl, hr⟩
  obtain rfl : c0 = r := Int32.toInt_inj.mp (by rw [hr]; exact e0.symm)
  show Go _ _ _ _ _ _ _ _ _ _ _ _ h0 (0 + 0 + 0) (0 + 0 + 0) 15 #[.val (.ref a), .val (.int 0), .unset] [(.int c0)]
  refine Go.istoreN (pc' := 16) (Ls' := #[.val (.ref a), .val (.int 0), .val (.int c0)]) d6_15 rfl rfl ?_
  refine Go.iloadN (pc' := 17) d6_16 rfl rfl ?_
  refine Go.callS (pc' := 20) (argsL := [(.int c0)]) (rest := []) (W := 0) (own_w hw 85 rfl) (own_w hw 86 rfl) (own_w hw 87 rfl) (own_w hw 88 rfl) (by decide) (m_jh l Z a0 hw c0 h0 n0 z0) d6_17 rfl pd8 rfl rfl (Nat.le_of_eq rfl) (by decide) (by decide) (by decide) (by decide) rfl ?_
  rintro _ _ ⟨r_1588, rfl, rfl, hr_1588, ir_1588⟩
  show Go _ _ _ _ _ _ _ _ _ _ _ _ h0 (0 + 0 + 0 + 0) (0 + 0 + 0 + 0) 20 #[.val (.ref a), .val (.int 0), .val (.int c0)] [(.int r_1588)]
  refine Go.ifc (pc1 := 52) (pc2 := 23) d6_20 (by decide) (by decide) rfl (fun (c_1589 : r_1588.toInt = 0) => ?_) (fun (c_1589 : r_1588.toInt ≠ 0) => ?_)
  · have k1 : ¬ own_k c0 = 1 := own_b0 ir_1588 c_1589
    refine Go.iloadN (pc' := 53) d6_52 rfl rfl ?_
    refine Go.callS (pc' := 56) (argsL := [(.int c0)]) (rest := []) (W := 0) (own_w hw 90 rfl) (own_w hw 91 rfl) (own_w hw 87 rfl) (own_w hw 92 rfl) (by decide) (m_js l Z a0 hw c0 h0 n0 z0) d6_53 rfl pd8 rfl rfl (Nat.le_of_eq rfl) (by decide) (by decide) (by decide) (by decide) rfl ?_
    rintro _ _ ⟨r_1590, rfl, rfl, hr_1590, ir_1590⟩
    show Go _ _ _ _ _ _ _ _ _ _ _ _ h0 (0 + 0 + 0 + 0 + 0) (0 + 0 + 0 + 0 + 0) 56 #[.val (.ref a), .val (.int 0), .val (.int c0)] [(.int r_1590)]
    refine Go.ifc (pc1 := 61) (pc2 := 59) d6_56 (by decide) (by decide) rfl (fun (c_1591 : r_1590.toInt = 0) => ?_) (fun (c_1591 : r_1590.toInt ≠ 0) => ?_)
    · have k0 : own_k c0 = 0 := Decidable.not_not.mp (own_b0 ir_1590 c_1591)
      refine Go.iinc (pc' := 64) (w := (1 : Int32)) (Ls' := #[.val (.ref a), .val (.int 1), .val (.int c0)]) d6_61 rfl rfl rfl rfl ?_
      refine Go.goto (pc' := 2) d6_64 (by decide) (by decide) ?_
      exact J1 c0 (hJ.trans (own_tx_0 k0))
    · have k0 : own_k c0 ≠ 0 := own_b1 ir_1590 hr_1590 c_1591
      refine Go.iconst (pc' := 60) (v := (0 : Int32)) d6_59 rfl rfl ?_
      exact Go.retN (t := .boolean) d6_60 rfl (by simp) rfl ⟨_, rfl, rfl, by decide, own_f (fun t => own_tx_l (own_k2 k1 k0) (hJ.mp t))⟩ (by decide) (by decide)
  · have k1 : own_k c0 = 1 := own_b1 ir_1588 hr_1588 c_1589
    refine Go.iloadN (pc' := 24) d6_23 rfl rfl ?_
    refine Go.iconst (pc' := 25) (v := (1 : Int32)) d6_24 rfl rfl ?_
    refine Go.iadd (pc' := 26) d6_25 rfl ?_
    show Go _ _ _ _ _ _ _ _ _ _ _ _ h0 (0 + 0 + 0 + 0) (0 + 0 + 0 + 0) 26 #[.val (.ref a), .val (.int 0), .val (.int c0)] [(.int 1)]
    refine Go.aloadN (pc' := 27) d6_26 rfl rfl rfl ?_
    refine Go.callV (pc' := 30) (argsL := []) (rest := [(.int 1)]) (W := 1) (own_w hw 34 rfl) (own_w hw 35 rfl) (own_w hw 37 rfl) (own_w hw 36 rfl) (own_w hw 8 rfl) (own_w hw 38 rfl) (by decide) hE (m_ln1 l Z a0 hw a o [.int l0, .int g0, .int l1, .int g1, .int l2, .int g2] (6 : Int32) cs h0 n0 z0 hO hSCS hcs hE hFV hFC hA rfl) d6_27 rfl pd15 rfl rfl (Nat.le_of_eq rfl) (by decide) (by decide) (by decide) (by decide) rfl ?_
    rintro _ _ ⟨r, rfl, rfl, hr⟩
    obtain rfl : r = (3 : Int32) := Int32.toInt_inj.mp (by rw [hr]; decide)
    show Go _ _ _ _ _ _ _ _ _ _ _ _ h0 (0 + 0 + 0 + 0 + 0) (0 + 0 + 0 + 0 + 0) 30 #[.val (.ref a), .val (.int 0), .val (.int c0)] [(.int 3), (.int 1)]
    refine Go.icmp (pc1 := 52) (pc2 := 33) d6_30 (by decide) (by decide) rfl (fun (c_1592 : (3 : Int) ≤ (1 : Int)) => ?_) (fun (c_1592 : (1 : Int) < (3 : Int)) => ?_)
    · exact absurd c_1592 (by decide)
    refine Go.aloadN (pc' := 34) d6_33 rfl rfl rfl ?_
    refine Go.iloadN (pc' := 35) d6_34 rfl rfl ?_
    refine Go.iconst (pc' := 36) (v := (1 : Int32)) d6_35 rfl rfl ?_
    refine Go.iadd (pc' := 37) d6_36 rfl ?_
    show Go _ _ _ _ _ _ _ _ _ _ _ _ h0 (0 + 0 + 0 + 0 + 0) (0 + 0 + 0 + 0 + 0) 37 #[.val (.ref a), .val (.int 0), .val (.int c0)] [(.int 1), (.ref a)]
    refine Go.callV (pc' := 40) (argsL := [(.int 1)]) (rest := []) (W := 0) (own_w hw 63 rfl) (own_w hw 64 rfl) (own_w hw 66 rfl) (own_w hw 65 rfl) (own_w hw 8 rfl) (own_w hw 67 rfl) (by decide) hE (m_ca1 l Z a0 hw a o [.int l0, .int g0, .int l1, .int g1, .int l2, .int g2] (1 : Int32) (6 : Int32) l1 g1 1 cs fm h0 n0 z0 hO hSCS hSAD hSHB hSLB hSFM hcs hfm hE hFV hFC hA rfl rfl (by decide) (by decide) rfl rfl) d6_37 rfl pd16 rfl rfl (Nat.le_of_eq rfl) (by decide) (by decide) (by decide) (by decide) rfl ?_
    rintro _ _ ⟨r, rfl, rfl, hr⟩
    obtain rfl : c1 = r := Int32.toInt_inj.mp (by rw [hr]; exact e1.symm)
    show Go _ _ _ _ _ _ _ _ _ _ _ _ h0 (0 + 0 + 0 + 0 + 0 + 0) (0 + 0 + 0 + 0 + 0 + 0) 40 #[.val (.ref a), .val (.int 0), .val (.int c0)] [(.int c1)]
    refine Go.callS (pc' := 43) (argsL := [(.int c1)]) (rest := []) (W := 0) (own_w hw 126 rfl) (own_w hw 127 rfl) (own_w hw 87 rfl) (own_w hw 128 rfl) (by decide) (m_jl l Z a0 hw c1 h0 n0 z0) d6_40 rfl pd8 rfl rfl (Nat.le_of_eq rfl) (by decide) (by decide) (by decide) (by decide) rfl ?_
    rintro _ _ ⟨r_1593, rfl, rfl, hr_1593, ir_1593⟩
    show Go _ _ _ _ _ _ _ _ _ _ _ _ h0 (0 + 0 + 0 + 0 + 0 + 0 + 0) (0 + 0 + 0 + 0 + 0 + 0 + 0) 43 #[.val (.ref a), .val (.int 0), .val (.int c0)] [(.int r_1593)]
    refine Go.ifc (pc1 := 52) (pc2 := 46) d6_43 (by decide) (by decide) rfl (fun (c_1594 : r_1593.toInt = 0) => ?_) (fun (c_1594 : r_1593.toInt ≠ 0) => ?_)
    · have k2 : ¬ own_k c1 = 2 := own_b0 ir_1593 c_1594
      refine Go.iloadN (pc' := 53) d6_52 rfl rfl ?_
      refine Go.callS (pc' := 56) (argsL := [(.int c0)]) (rest := []) (W := 0) (own_w hw 90 rfl) (own_w hw 91 rfl) (own_w hw 87 rfl) (own_w hw 92 rfl) (by decide) (m_js l Z a0 hw c0 h0 n0 z0) d6_53 rfl pd8 rfl rfl (Nat.le_of_eq rfl) (by decide) (by decide) (by decide) (by decide) rfl ?_
      rintro _ _ ⟨r_1595, rfl, rfl, hr_1595, ir_1595⟩
      show Go _ _ _ _ _ _ _ _ _ _ _ _ h0 (0 + 0 + 0 + 0 + 0 + 0 + 0 + 0) (0 + 0 + 0 + 0 + 0 + 0 + 0 + 0) 56 #[.val (.ref a), .val (.int 0), .val (.int c0)] [(.int r_1595)]
      refine Go.ifc (pc1 := 61) (pc2 := 59) d6_56 (by decide) (by decide) rfl (fun (c_1596 : r_1595.toInt = 0) => ?_) (fun (c_1596 : r_1595.toInt ≠ 0) => ?_)
      · exact absurd k1 (by have q := own_b0 ir_1595 c_1596; omega)
      refine Go.iconst (pc' := 60) (v := (0 : Int32)) d6_59 rfl rfl ?_
      exact Go.retN (t := .boolean) d6_60 rfl (by simp) rfl ⟨_, rfl, rfl, by decide, own_f (fun t => own_tx_hn k1 k2 (hJ.mp t))⟩ (by decide) (by decide)
    · have k2 : own_k c1 = 2 := own_b1 ir_1593 hr_1593 c_1594
      refine Go.iinc (pc' := 49) (w := (1 : Int32)) (Ls' := #[.val (.ref a), .val (.int 1), .val (.int c0)]) d6_46 rfl rfl rfl rfl ?_
      refine Go.goto (pc' := 61) d6_49 (by decide) (by decide) ?_
      refine Go.iinc (pc' := 64) (w := (2 : Int32)) (Ls' := #[.val (.ref a), .val (.int 2), .val (.int c0)]) d6_61 rfl rfl rfl rfl ?_
      refine Go.goto (pc' := 2) d6_64 (by decide) (by decide) ?_
      exact J2 c0 (hJ.trans (own_tx_hl k1 k2))
set_option maxRecDepth 65536 in
set_option maxHeartbeats 40000000 in
theorem m_tx4_0 (l : Launch) (Z : State) (a0 : Array Value) (hw : ∀ d ∈ tables_1, d.before a0 Z = true) (a o : Addr) (b0 b1 b2 b3 c0 c1 c2 c3 : Int32) (cs : Int32) (fm : Value) (h0 : Heap) (n0 : Nat) (z0 : n0 ≤ h0.size) (hO : Old Z n0 h0) (hSCS : Sta Z Z.heap "java/lang/String" "COMPACT_STRINGS" "Z" (.int cs)) (hSAD : Sta Z Z.heap "java/lang/StringUTF16" "$assertionsDisabled" "Z" (.int 1)) (hSHB : Sta Z Z.heap "java/lang/StringUTF16" "HI_BYTE_SHIFT" "I" (.int 0)) (hSLB : Sta Z Z.heap "java/lang/StringUTF16" "LO_BYTE_SHIFT" "I" (.int 8)) (hSFM : Sta Z Z.heap "jdk/internal/util/Preconditions" "SIOOBE_FORMATTER" "Ljava/util/function/BiFunction;" fm) (hcs : cs.toInt ≠ 0) (hfm : fm.isRef = true) (hE : Exa Z h0 a "java/lang/String") (hFV : Fld Z h0 a "java/lang/String" "value" "[B" (.ref o)) (hFC : Fld Z h0 a "java/lang/String" "coder" "B" (.int 0)) (hA : Ary Z h0 o .byte [.int b0, .int b1, .int b2, .int b3]) (e0 : b0.toInt % 256 = c0.toInt) (e1 : b1.toInt % 256 = c1.toInt) (e2 : b2.toInt % 256 = c2.toInt) (e3 : b3.toInt % 256 = c3.toInt) : Mt .n l Z (⟨"com/example/consentry/consentry/io/Unicode", "isText", "(Ljava/lang/String;)Z"⟩ : MethodName) prog_29_method_2_code 3 (some .boolean) ({ frames := 5, cells := 0, slots := 0, locals := 75 } : Room) n0 (fun v h => ∃ r : Int32, v = some (.int r) ∧ h0 = h ∧ (r.toInt = 0 ∨ r.toInt = 1) ∧ (r.toInt = 1 ↔ (own_tx [c0, c1, c2, c3]))) h0 #[(.ref a)] := by
  refine Mt.go (Ls := #[.val (.ref a), .unset, .unset]) (plainFor_of_name pn1) (fun m => by first | (simp [entryFrame, mkF, argsToLocals, Value.category]; done) | rfl) ?_
  show Go _ _ _ _ _ _ _ _ _ _ _ _ h0 0 0 0 #[.val (.ref a), .unset, .unset] []
  have hTCS := Sta.ext hO.2 hSCS
  have hTAD := Sta.ext hO.2 hSAD
  have hTHB := Sta.ext hO.2 hSHB
  have hTLB := Sta.ext hO.2 hSLB
  have hTFM := Sta.ext hO.2 hSFM
  have n_1597 : a ≠ o := by obtain ⟨_, Ag, -⟩ := hA; exact ne_arr hE (own_w hw 7 rfl) Ag
  refine Go.iconst (pc' := 1) (v := (0 : Int32)) d6_0 rfl rfl ?_
  refine Go.istoreN (pc' := 2) (Ls' := #[.val (.ref a), .val (.int 0), .unset]) d6_1 rfl rfl ?_
  have J4 : ∀ cc : Int32, ((own_tx [c0, c1, c2, c3]) ↔ (own_tx [])) → (Go .n l ({ frames := 5, cells := 0, slots := 0, locals := 75 } : Room) Z (⟨"com/example/consentry/consentry/io/Unicode", "isText", "(Ljava/lang/String;)Z"⟩ : MethodName) prog_29_method_2_code 3 (some .boolean) n0 0 0 (fun v h => ∃ r : Int32, v = some (.int r) ∧ h0 = h ∧ (r.toInt = 0 ∨ r.toInt = 1) ∧ (r.toInt = 1 ↔ (own_tx [c0, c1, c2, c3])))) h0 0 0 2 #[.val (.ref a), .val (.int 4), .val (.int cc)] [] := by
    intro cc hJ
    refine Go.iloadN (pc' := 3) d6_2 rfl rfl ?_
    refine Go.aloadN (pc' := 4) d6_3 rfl rfl rfl ?_
    refine Go.callV (pc' := 7) (argsL := []) (rest := [(.int 4)]) (W := 1) (own_w hw 34 rfl) (own_w hw 35 rfl) (own_w hw 37 rfl) (own_w hw 36 rfl) (own_w hw 8 rfl) (own_w hw 38 rfl) (by decide) hE (m_ln0 l Z a0 hw a o [.int b0, .int b1, .int b2, .int b3] (4 : Int32) cs h0 n0 z0 hO hSCS hcs hE hFV hFC hA rfl) d6_4 rfl pd15 rfl rfl (Nat.le_of_eq rfl) (by decide) (by decide) (by decide) (by decide) rfl ?_
    rintro _ _ ⟨r, rfl, rfl, hr⟩
    obtain rfl : r = (4 : Int32) := Int32.toInt_inj.mp (by rw [hr]; decide)
    show Go _ _ _ _ _ _ _ _ _ _ _ _ h0 (0 + 0) (0 + 0) 7 #[.val (.ref a), .val (.int 4), .val (.int cc)] [(.int 4), (.int 4)]
    refine Go.icmp (pc1 := 67) (pc2 := 10) d6_7 (by decide) (by decide) rfl (fun (c_1598 : (4 : Int) ≤ (4 : Int)) => ?_) (fun (c_1598 : (4 : Int) < (4 : Int)) => ?_)
    rotate_left
    · exact absurd c_1598 (by decide)
    refine Go.iconst (pc' := 68) (v := (1 : Int32)) d6_67 rfl rfl ?_
    exact Go.retN (t := .boolean) d6_68 rfl (by simp) rfl ⟨_, rfl, rfl, by decide, ⟨fun _ => hJ.mpr trivial, fun _ => rfl⟩⟩ (by decide) (by decide)
  have J3 : ∀ cc : Int32, ((own_tx [c0, c1, c2, c3]) ↔ (own_tx [c3])) → (Go .n l ({ frames := 5, cells := 0, slots := 0, locals := 75 } : Room) Z (⟨"com/example/consentry/consentry/io/Unicode", "isText", "(Ljava/lang/String;)Z"⟩ : MethodName) prog_29_method_2_code 3 (some .boolean) n0 0 0 (fun v h => ∃ r : Int32, v = some (.int r) ∧ h0 = h ∧ (r.toInt = 0 ∨ r.toInt = 1) ∧ (r.toInt = 1 ↔ (own_tx [c0, c1, c2, c3])))) h0 0 0 2 #[.val (.ref a), .val (.int 3), .val (.int cc)] [] := by
    intro cc hJ
    refine Go.iloadN (pc' := 3) d6_2 rfl rfl ?_
    refine Go.aloadN (pc' := 4) d6_3 rfl rfl rfl ?_
    refine Go.callV (pc' := 7) (argsL := []) (rest := [(.int 3)]) (W := 1) (own_w hw 34 rfl) (own_w hw 35 rfl) (own_w hw 37 rfl) (own_w hw 36 rfl) (own_w hw 8 rfl) (own_w hw 38 rfl) (by decide) hE (m_ln0 l Z a0 hw a o [.int b0, .int b1, .int b2, .int b3] (4 : Int32) cs h0 n0 z0 hO hSCS hcs hE hFV hFC hA rfl) d6_4 rfl pd15 rfl rfl (Nat.le_of_eq rfl) (by decide) (by decide) (by decide) (by decide) rfl ?_
    rintro _ _ ⟨r, rfl, rfl, hr⟩
    obtain rfl : r = (4 : Int32) := Int32.toInt_inj.mp (by rw [hr]; decide)
    show Go _ _ _ _ _ _ _ _ _ _ _ _ h0 (0 + 0) (0 + 0) 7 #[.val (.ref a), .val (.int 3), .val (.int cc)] [(.int 4), (.int 3)]
    refine Go.icmp (pc1 := 67) (pc2 := 10) d6_7 (by decide) (by decide) rfl (fun (c_1599 : (4 : Int) ≤ (3 : Int)) => ?_) (fun (c_1599 : (3 : Int) < (4 : Int)) => ?_)
    · exact absurd c_1599 (by decide)
    refine Go.aloadN (pc' := 11) d6_10 rfl rfl rfl ?_
    refine Go.iloadN (pc' := 12) d6_11 rfl rfl ?_
    refine Go.callV (pc' := 15) (argsL := [(.int 3)]) (rest := []) (W := 0) (own_w hw 63 rfl) (own_w hw 64 rfl) (own_w hw 66 rfl) (own_w hw 65 rfl) (own_w hw 8 rfl) (own_w hw 67 rfl) (by decide) hE (m_ca0 l Z a0 hw a o [.int b0, .int b1, .int b2, .int b3] (3 : Int32) (4 : Int32) b3 3 cs fm h0 n0 z0 hO hSCS hSAD hSHB hSLB hSFM hcs hfm hE hFV hFC hA rfl rfl (by decide) rfl) d6_12 rfl pd16 rfl rfl (Nat.le_of_eq rfl) (by decide) (by decide) (by decide) (by decide) rfl ?_
    rintro _ _ ⟨r, rfl, rfl, hr⟩
    obtain rfl : c3 = r := Int32.toInt_inj.mp (by rw [hr]; exact e3.symm)
    show Go _ _ _ _ _ _ _ _ _ _ _ _ h0 (0 + 0 + 0) (0 + 0 + 0) 15 #[.val (.ref a), .val (.int 3), .val (.int cc)] [(.int c3)]
    refine Go.istoreN (pc' := 16) (Ls' := #[.val (.ref a), .val (.int 3), .val (.int c3)]) d6_15 rfl rfl ?_
    refine Go.iloadN (pc' := 17) d6_16 rfl rfl ?_
    refine Go.callS (pc' := 20) (argsL := [(.int c3)]) (rest := []) (W := 0) (own_w hw 85 rfl) (own_w hw 86 rfl) (own_w hw 87 rfl) (own_w hw 88 rfl) (by decide) (m_jh l Z a0 hw c3 h0 n0 z0) d6_17 rfl pd8 rfl rfl (Nat.le_of_eq rfl) (by decide) (by decide) (by decide) (by decide) rfl ?_
    rintro _ _ ⟨r_1600, rfl, rfl, hr_1600, ir_1600⟩
    show Go _ _ _ _ _ _ _ _ _ _ _ _ h0 (0 + 0 + 0 + 0) (0 + 0 + 0 + 0) 20 #[.val (.ref a), .val (.int 3), .val (.int c3)] [(.int r_1600)]
    refine Go.ifc (pc1 := 52) (pc2 := 23) d6_20 (by decide) (by decide) rfl (fun (c_1601 : r_1600.toInt = 0) => ?_) (fun (c_1601 : r_1600.toInt ≠ 0) => ?_)
    · have k1 : ¬ own_k c3 = 1 := own_b0 ir_1600 c_1601
      refine Go.iloadN (pc' := 53) d6_52 rfl rfl ?_
      refine Go.callS (pc' := 56) (argsL := [(.int c3)]) (rest := []) (W := 0) (own_w hw 90 rfl) (own_w hw 91 rfl) (own_w hw 87 rfl) (own_w hw 92 rfl) (by decide) (m_js l Z a0 hw c3 h0 n0 z0) d6_53 rfl pd8 rfl rfl (Nat.le_of_eq rfl) (by decide) (by decide) (by decide) (by decide) rfl ?_
      rintro _ _ ⟨r_1602, rfl, rfl, hr_1602, ir_1602⟩
      show Go _ _ _ _ _ _ _ _ _ _ _ _ h0 (0 + 0 + 0 + 0 + 0) (0 + 0 + 0 + 0 + 0) 56 #[.val (.ref a), .val (.int 3), .val (.int c3)] [(.int r_1602)]
      refine Go.ifc (pc1 := 61) (pc2 := 59) d6_56 (by decide) (by decide) rfl (fun (c_1603 : r_1602.toInt = 0) => ?_) (fun (c_1603 : r_1602.toInt ≠ 0) => ?_)
      · have k0 : own_k c3 = 0 := Decidable.not_not.mp (own_b0 ir_1602 c_1603)
        refine Go.iinc (pc' := 64) (w := (4 : Int32)) (Ls' := #[.val (.ref a), .val (.int 4), .val (.int c3)]) d6_61 rfl rfl rfl rfl ?_
        refine Go.goto (pc' := 2) d6_64 (by decide) (by decide) ?_
        exact J4 c3 (hJ.trans (own_tx_0 k0))
      · have k0 : own_k c3 ≠ 0 := own_b1 ir_1602 hr_1602 c_1603
        refine Go.iconst (pc' := 60) (v := (0 : Int32)) d6_59 rfl rfl ?_
        exact Go.retN (t := .boolean) d6_60 rfl (by simp) rfl ⟨_, rfl, rfl, by decide, own_f (fun t => own_tx_l (own_k2 k1 k0) (hJ.mp t))⟩ (by decide) (by decide)
    · have k1 : own_k c3 = 1 := own_b1 ir_1600 hr_1600 c_1601
      refine Go.iloadN (pc' := 24) d6_23 rfl rfl ?_
      refine Go.iconst (pc' := 25) (v := (1 : Int32)) d6_24 rfl rfl ?_
      refine Go.iadd (pc' := 26) d6_25 rfl ?_
      show Go _ _ _ _ _ _ _ _ _ _ _ _ h0 (0 + 0 + 0 + 0) (0 + 0 + 0 + 0) 26 #[.val (.ref a), .val (.int 3), .val (.int c3)] [(.int 4)]
      refine Go.aloadN (pc' := 27) d6_26 rfl rfl rfl ?_
      refine Go.callV (pc' := 30) (argsL := []) (rest := [(.int 4)]) (W := 1) (own_w hw 34 rfl) (own_w hw 35 rfl) (own_w hw 37 rfl) (own_w hw 36 rfl) (own_w hw 8 rfl) (own_w hw 38 rfl) (by decide) hE (m_ln0 l Z a0 hw a o [.int b0, .int b1, .int b2, .int b3] (4 : Int32) cs h0 n0 z0 hO hSCS hcs hE hFV hFC hA rfl) d6_27 rfl pd15 rfl rfl (Nat.le_of_eq rfl) (by decide) (by decide) (by decide) (by decide) rfl ?_
      rintro _ _ ⟨r, rfl, rfl, hr⟩
      obtain rfl : r = (4 : Int32) := Int32.toInt_inj.mp (by rw [hr]; decide)
      show Go _ _ _ _ _ _ _ _ _ _ _ _ h0 (0 + 0 + 0 + 0 + 0) (0 + 0 + 0 + 0 + 0) 30 #[.val (.ref a), .val (.int 3), .val (.int c3)] [(.int 4), (.int 4)]
      refine Go.icmp (pc1 := 52) (pc2 := 33) d6_30 (by decide) (by decide) rfl (fun (c_1604 : (4 : Int) ≤ (4 : Int)) => ?_) (fun (c_1604 : (4 : Int) < (4 : Int)) => ?_)
      rotate_left
      · exact absurd c_1604 (by decide)
      refine Go.iloadN (pc' := 53) d6_52 rfl rfl ?_
      refine Go.callS (pc' := 56) (argsL := [(.int c3)]) (rest := []) (W := 0) (own_w hw 90 rfl) (own_w hw 91 rfl) (own_w hw 87 rfl) (own_w hw 92 rfl) (by decide) (m_js l Z a0 hw c3 h0 n0 z0) d6_53 rfl pd8 rfl rfl (Nat.le_of_eq rfl) (by decide) (by decide) (by decide) (by decide) rfl ?_
      rintro _ _ ⟨r_1605, rfl, rfl, hr_1605, ir_1605⟩
      show Go _ _ _ _ _ _ _ _ _ _ _ _ h0 (0 + 0 + 0 + 0 + 0 + 0) (0 + 0 + 0 + 0 + 0 + 0) 56 #[.val (.ref a), .val (.int 3), .val (.int c3)] [(.int r_1605)]
      refine Go.ifc (pc1 := 61) (pc2 := 59) d6_56 (by decide) (by decide) rfl (fun (c_1606 : r_1605.toInt = 0) => ?_) (fun (c_1606 : r_1605.toInt ≠ 0) => ?_)
      · exact absurd k1 (by have q := own_b0 ir_1605 c_1606; omega)
      refine Go.iconst (pc' := 60) (v := (0 : Int32)) d6_59 rfl rfl ?_
      exact Go.retN (t := .boolean) d6_60 rfl (by simp) rfl ⟨_, rfl, rfl, by decide, own_f (fun t => own_tx_h1 k1 (hJ.mp t))⟩ (by decide) (by decide)
  have J2 : ∀ cc : Int32, ((own_tx [c0, c1, c2, c3]) ↔ (own_tx [c2, c3])) → (Go .n l ({ frames := 5, cells := 0, slots := 0, locals := 75 } : Room) Z (⟨"com/example/consentry/consentry/io/Unicode", "isText", "(Ljava/lang/String;)Z"⟩ : MethodName) prog_29_method_2_code 3 (some .boolean) n0 0 0 (fun v h => ∃ r : Int32, v = some (.int r) ∧ h0 = h ∧ (r.toInt = 0 ∨ r.toInt = 1) ∧ (r.toInt = 1 ↔ (own_tx [c0, c1, c2, c3])))) h0 0 0 2 #[.val (.ref a), .val (.int 2), .val (.int cc)] [] := by
    intro cc hJ
    refine Go.iloadN (pc' := 3) d6_2 rfl rfl ?_
    refine Go.aloadN (pc' := 4) d6_3 rfl rfl rfl ?_
    refine Go.callV (pc' := 7) (argsL := []) (rest := [(.int 2)]) (W := 1) (own_w hw 34 rfl) (own_w hw 35 rfl) (own_w hw 37 rfl) (own_w hw 36 rfl) (own_w hw 8 rfl) (own_w hw 38 rfl) (by decide) hE (m_ln0 l Z a0 hw a o [.int b0, .int b1, .int b2, .int b3] (4 : Int32) cs h0 n0 z0 hO hSCS hcs hE hFV hFC hA rfl) d6_4 rfl pd15 rfl rfl (Nat.le_of_eq rfl) (by decide) (by decide) (by decide) (by decide) rfl ?_
    rintro _ _ ⟨r, rfl, rfl, hr⟩
    obtain rfl : r = (4 : Int32) := Int32.toInt_inj.mp (by rw [hr]; decide)
    show Go _ _ _ _ _ _ _ _ _ _ _ _ h0 (0 + 0) (0 + 0) 7 #[.val (.ref a), .val (.int 2), .val (.int cc)] [(.int 4), (.int 2)]
    refine Go.icmp (pc1 := 67) (pc2 := 10) d6_7 (by decide) (by decide) rfl (fun (c_1607 : (4 : Int) ≤ (2 : Int)) => ?_) (fun (c_1607 : (2 : Int) < (4 : Int)) => ?_)
    · exact absurd c_1607 (by decide)
    refine Go.aloadN (pc' := 11) d6_10 rfl rfl rfl ?_
    refine Go.iloadN (pc' := 12) d6_11 rfl rfl ?_
    refine Go.callV (pc' := 15) (argsL := [(.int 2)]) (rest := []) (W := 0) (own_w hw 63 rfl) (own_w hw 64 rfl) (own_w hw 66 rfl) (own_w hw 65 rfl) (own_w hw 8 rfl) (own_w hw 67 rfl) (by decide) hE (m_ca0 l Z a0 hw a o [.int b0, .int b1, .int b2, .int b3] (2 : Int32) (4 : Int32) b2 2 cs fm h0 n0 z0 hO hSCS hSAD hSHB hSLB hSFM hcs hfm hE hFV hFC hA rfl rfl (by decide) rfl) d6_12 rfl pd16 rfl rfl (Nat.le_of_eq rfl) (by decide) (by decide) (by decide) (by decide) rfl ?_
    rintro _ _ ⟨r, rfl, rfl, hr⟩
    obtain rfl : c2 = r := Int32.toInt_inj.mp (by rw [hr]; exact e2.symm)
    show Go _ _ _ _ _ _ _ _ _ _ _ _ h0 (0 + 0 + 0) (0 + 0 + 0) 15 #[.val (.ref a), .val (.int 2), .val (.int cc)] [(.int c2)]
    refine Go.istoreN (pc' := 16) (Ls' := #[.val (.ref a), .val (.int 2), .val (.int c2)]) d6_15 rfl rfl ?_
    refine Go.iloadN (pc' := 17) d6_16 rfl rfl ?_
    refine Go.callS (pc' := 20) (argsL := [(.int c2)]) (rest := []) (W := 0) (own_w hw 85 rfl) (own_w hw 86 rfl) (own_w hw 87 rfl) (own_w hw 88 rfl) (by decide) (m_jh l Z a0 hw c2 h0 n0 z0) d6_17 rfl pd8 rfl rfl (Nat.le_of_eq rfl) (by decide) (by decide) (by decide) (by decide) rfl ?_
    rintro _ _ ⟨r_1608, rfl, rfl, hr_1608, ir_1608⟩
    show Go _ _ _ _ _ _ _ _ _ _ _ _ h0 (0 + 0 + 0 + 0) (0 + 0 + 0 + 0) 20 #[.val (.ref a), .val (.int 2), .val (.int c2)] [(.int r_1608)]
    refine Go.ifc (pc1 := 52) (pc2 := 23) d6_20 (by decide) (by decide) rfl (fun (c_1609 : r_1608.toInt = 0) => ?_) (fun (c_1609 : r_1608.toInt ≠ 0) => ?_)
    · have k1 : ¬ own_k c2 = 1 := own_b0 ir_1608 c_1609
      refine Go.iloadN (pc' := 53) d6_52 rfl rfl ?_
      refine Go.callS (pc' := 56) (argsL := [(.int c2)]) (rest := []) (W := 0) (own_w hw 90 rfl) (own_w hw 91 rfl) (own_w hw 87 rfl) (own_w hw 92 rfl) (by decide) (m_js l Z a0 hw c2 h0 n0 z0) d6_53 rfl pd8 rfl rfl (Nat.le_of_eq rfl) (by decide) (by decide) (by decide) (by decide) rfl ?_
      rintro _ _ ⟨r_1610, rfl, rfl, hr_1610, ir_1610⟩
      show Go _ _ _ _ _ _ _ _ _ _ _ _ h0 (0 + 0 + 0 + 0 + 0) (0 + 0 + 0 + 0 + 0) 56 #[.val (.ref a), .val (.int 2), .val (.int c2)] [(.int r_1610)]
      refine Go.ifc (pc1 := 61) (pc2 := 59) d6_56 (by decide) (by decide) rfl (fun (c_1611 : r_1610.toInt = 0) => ?_) (fun (c_1611 : r_1610.toInt ≠ 0) => ?_)
      · have k0 : own_k c2 = 0 := Decidable.not_not.mp (own_b0 ir_1610 c_1611)
        refine Go.iinc (pc' := 64) (w := (3 : Int32)) (Ls' := #[.val (.ref a), .val (.int 3), .val (.int c2)]) d6_61 rfl rfl rfl rfl ?_
        refine Go.goto (pc' := 2) d6_64 (by decide) (by decide) ?_
        exact J3 c2 (hJ.trans (own_tx_0 k0))
      · have k0 : own_k c2 ≠ 0 := own_b1 ir_1610 hr_1610 c_1611
        refine Go.iconst (pc' := 60) (v := (0 : Int32)) d6_59 rfl rfl ?_
        exact Go.retN (t := .boolean) d6_60 rfl (by simp) rfl ⟨_, rfl, rfl, by decide, own_f (fun t => own_tx_l (own_k2 k1 k0) (hJ.mp t))⟩ (by decide) (by decide)
    · have k1 : own_k c2 = 1 := own_b1 ir_1608 hr_1608 c_1609
      refine Go.iloadN (pc' := 24) d6_23 rfl rfl ?_
      refine Go.iconst (pc' := 25) (v := (1 : Int32)) d6_24 rfl rfl ?_
      refine Go.iadd (pc' := 26) d6_25 rfl ?_
      show Go _ _ _ _ _ _ _ _ _ _ _ _ h0 (0 + 0 + 0 + 0) (0 + 0 + 0 + 0) 26 #[.val (.ref a), .val (.int 2), .val (.int c2)] [(.int 3)]
      refine Go.aloadN (pc' := 27) d6_26 rfl rfl rfl ?_
      refine Go.callV (pc' := 30) (argsL := []) (rest := [(.int 3)]) (W := 1) (own_w hw 34 rfl) (own_w hw 35 rfl) (own_w hw 37 rfl) (own_w hw 36 rfl) (own_w hw 8 rfl) (own_w hw 38 rfl) (by decide) hE (m_ln0 l Z a0 hw a o [.int b0, .int b1, .int b2, .int b3] (4 : Int32) cs h0 n0 z0 hO hSCS hcs hE hFV hFC hA rfl) d6_27 rfl pd15 rfl rfl (Nat.le_of_eq rfl) (by decide) (by decide) (by decide) (by decide) rfl ?_
      rintro _ _ ⟨r, rfl, rfl, hr⟩
      obtain rfl : r = (4 : Int32) := Int32.toInt_inj.mp (by rw [hr]; decide)
      show Go _ _ _ _ _ _ _ _ _ _ _ _ h0 (0 + 0 + 0 + 0 + 0) (0 + 0 + 0 + 0 + 0) 30 #[.val (.ref a), .val (.int 2), .val (.int c2)] [(.int 4), (.int 3)]
      refine Go.icmp (pc1 := 52) (pc2 := 33) d6_30 (by decide) (by decide) rfl (fun (c_1612 : (4 : Int) ≤ (3 : Int)) => ?_) (fun (c_1612 : (3 : Int) < (4 : Int)) => ?_)
      · exact absurd c_1612 (by decide)
      refine Go.aloadN (pc' := 34) d6_33 rfl rfl rfl ?_
      refine Go.iloadN (pc' := 35) d6_34 rfl rfl ?_
      refine Go.iconst (pc' := 36) (v := (1 : Int32)) d6_35 rfl rfl ?_
      refine Go.iadd (pc' := 37) d6_36 rfl ?_
      show Go _ _ _ _ _ _ _ _ _ _ _ _ h0 (0 + 0 + 0 + 0 + 0) (0 + 0 + 0 + 0 + 0) 37 #[.val (.ref a), .val (.int 2), .val (.int c2)] [(.int 3), (.ref a)]
      refine Go.callV (pc' := 40) (argsL := [(.int 3)]) (rest := []) (W := 0) (own_w hw 63 rfl) (own_w hw 64 rfl) (own_w hw 66 rfl) (own_w hw 65 rfl) (own_w hw 8 rfl) (own_w hw 67 rfl) (by decide) hE (m_ca0 l Z a0 hw a o [.int b0, .int b1, .int b2, .int b3] (3 : Int32) (4 : Int32) b3 3 cs fm h0 n0 z0 hO hSCS hSAD hSHB hSLB hSFM hcs hfm hE hFV hFC hA rfl rfl (by decide) rfl) d6_37 rfl pd16 rfl rfl (Nat.le_of_eq rfl) (by decide) (by decide) (by decide) (by decide) rfl ?_
      rintro _ _ ⟨r, rfl, rfl, hr⟩
      obtain rfl : c3 = r := Int32.toInt_inj.mp (by rw [hr]; exact e3.symm)
      show Go _ _ _ _ _ _ _ _ _ _ _ _ h0 (0 + 0 + 0 + 0 + 0 + 0) (0 + 0 + 0 + 0 + 0 + 0) 40 #[.val (.ref a), .val (.int 2), .val (.int c2)] [(.int c3)]
      refine Go.callS (pc' := 43) (argsL := [(.int c3)]) (rest := []) (W := 0) (own_w hw 126 rfl) (own_w hw 127 rfl) (own_w hw 87 rfl) (own_w hw 128 rfl) (by decide) (m_jl l Z a0 hw c3 h0 n0 z0) d6_40 rfl pd8 rfl rfl (Nat.le_of_eq rfl) (by decide) (by decide) (by decide) (by decide) rfl ?_
      rintro _ _ ⟨r_1613, rfl, rfl, hr_1613, ir_1613⟩
      show Go _ _ _ _ _ _ _ _ _ _ _ _ h0 (0 + 0 + 0 + 0 + 0 + 0 + 0) (0 + 0 + 0 + 0 + 0 + 0 + 0) 43 #[.val (.ref a), .val (.int 2), .val (.int c2)] [(.int r_1613)]
      refine Go.ifc (pc1 := 52) (pc2 := 46) d6_43 (by decide) (by decide) rfl (fun (c_1614 : r_1613.toInt = 0) => ?_) (fun (c_1614 : r_1613.toInt ≠ 0) => ?_)
      · have k2 : ¬ own_k c3 = 2 := own_b0 ir_1613 c_1614
        refine Go.iloadN (pc' := 53) d6_52 rfl rfl ?_
        refine Go.callS (pc' := 56) (argsL := [(.int c2)]) (rest := []) (W := 0) (own_w hw 90 rfl) (own_w hw 91 rfl) (own_w hw 87 rfl) (own_w hw 92 rfl) (by decide) (m_js l Z a0 hw c2 h0 n0 z0) d6_53 rfl pd8 rfl rfl (Nat.le_of_eq rfl) (by decide) (by decide) (by decide) (by decide) rfl ?_
        rintro _ _ ⟨r_1615, rfl, rfl, hr_1615, ir_1615⟩
        show Go _ _ _ _ _ _ _ _ _ _ _ _ h0 (0 + 0 + 0 + 0 + 0 + 0 + 0 + 0) (0 + 0 + 0 + 0 + 0 + 0 + 0 + 0) 56 #[.val (.ref a), .val (.int 2), .val (.int c2)] [(.int r_1615)]
        refine Go.ifc (pc1 := 61) (pc2 := 59) d6_56 (by decide) (by decide) rfl (fun (c_1616 : r_1615.toInt = 0) => ?_) (fun (c_1616 : r_1615.toInt ≠ 0) => ?_)
        · exact absurd k1 (by have q := own_b0 ir_1615 c_1616; omega)
        refine Go.iconst (pc' := 60) (v := (0 : Int32)) d6_59 rfl rfl ?_
        exact Go.retN (t := .boolean) d6_60 rfl (by simp) rfl ⟨_, rfl, rfl, by decide, own_f (fun t => own_tx_hn k1 k2 (hJ.mp t))⟩ (by decide) (by decide)
      · have k2 : own_k c3 = 2 := own_b1 ir_1613 hr_1613 c_1614
        refine Go.iinc (pc' := 49) (w := (3 : Int32)) (Ls' := #[.val (.ref a), .val (.int 3), .val (.int c2)]) d6_46 rfl rfl rfl rfl ?_
        refine Go.goto (pc' := 61) d6_49 (by decide) (by decide) ?_
        refine Go.iinc (pc' := 64) (w := (4 : Int32)) (Ls' := #[.val (.ref a), .val (.int 4), .val (.int c2)]) d6_61 rfl rfl rfl rfl ?_
        refine Go.goto (pc' := 2) d6_64 (by decide) (by decide) ?_
        exact J4 c2 (hJ.trans (own_tx_hl k1 k2))
  have J1 : ∀ cc : Int32, ((own_tx [c0, c1, c2, c3]) ↔ (own_tx [c1, c2, c3])) → (Go .n l ({ frames := 5, cells := 0, slots := 0, locals := 75 } : Room) Z (⟨"com/example/consentry/consentry/io/Unicode", "isText", "(Ljava/lang/String;)Z"⟩ : MethodName) prog_29_method_2_code 3 (some .boolean) n0 0 0 (fun v h => ∃ r : Int32, v = some (.int r) ∧ h0 = h ∧ (r.toInt = 0 ∨ r.toInt = 1) ∧ (r.toInt = 1 ↔ (own_tx [c0, c1, c2, c3])))) h0 0 0 2 #[.val (.ref a), .val (.int 1), .val (.int cc)] [] := by
    intro cc hJ
    refine Go.iloadN (pc' := 3) d6_2 rfl rfl ?_
    refine Go.aloadN (pc' := 4) d6_3 rfl rfl rfl ?_
    refine Go.callV (pc' := 7) (argsL := []) (rest := [(.int 1)]) (W := 1) (own_w hw 34 rfl) (own_w hw 35 rfl) (own_w hw 37 rfl) (own_w hw 36 rfl) (own_w hw 8 rfl) (own_w hw 38 rfl) (by decide) hE (m_ln0 l Z a0 hw a o [.int b0, .int b1, .int b2, .int b3] (4 : Int32) cs h0 n0 z0 hO hSCS hcs hE hFV hFC hA rfl) d6_4 rfl pd15 rfl rfl (Nat.le_of_eq rfl) (by decide) (by decide) (by decide) (by decide) rfl ?_
    rintro _ _ ⟨r, rfl, rfl, hr⟩
    obtain rfl : r = (4 : Int32) := Int32.toInt_inj.mp (by rw [hr]; decide)
    show Go _ _ _ _ _ _ _ _ _ _ _ _ h0 (0 + 0) (0 + 0) 7 #[.val (.ref a), .val (.int 1), .val (.int cc)] [(.int 4), (.int 1)]
    refine Go.icmp (pc1 := 67) (pc2 := 10) d6_7 (by decide) (by decide) rfl (fun (c_1617 : (4 : Int) ≤ (1 : Int)) => ?_) (fun (c_1617 : (1 : Int) < (4 : Int)) => ?_)
    · exact absurd c_1617 (by decide)
    refine Go.aloadN (pc' := 11) d6_10 rfl rfl rfl ?_
    refine Go.iloadN (pc' := 12) d6_11 rfl rfl ?_
    refine Go.callV (pc' := 15) (argsL := [(.int 1)]) (rest := []) (W := 0) (own_w hw 63 rfl) (own_w hw 64 rfl) (own_w hw 66 rfl) (own_w hw 65 rfl) (own_w hw 8 rfl) (own_w hw 67 rfl) (by decide) hE (m_ca0 l Z a0 hw a o [.int b0, .int b1, .int b2, .int b3] (1 : Int32) (4 : Int32) b1 1 cs fm h0 n0 z0 hO hSCS hSAD hSHB hSLB hSFM hcs hfm hE hFV hFC hA rfl rfl (by decide) rfl) d6_12 rfl pd16 rfl rfl (Nat.le_of_eq rfl) (by decide) (by decide) (by decide) (by decide) rfl ?_
    rintro _ _ ⟨r, rfl, rfl, hr⟩
    obtain rfl : c1 = r := Int32.toInt_inj.mp (by rw [hr]; exact e1.symm)
    show Go _ _ _ _ _ _ _ _ _ _ _ _ h0 (0 + 0 + 0) (0 + 0 + 0) 15 #[.val (.ref a), .val (.int 1), .val (.int cc)] [(.int c1)]
    refine Go.istoreN (pc' := 16) (Ls' := #[.val (.ref a), .val (.int 1), .val (.int c1)]) d6_15 rfl rfl ?_
    refine Go.iloadN (pc' := 17) d6_16 rfl rfl ?_
    refine Go.callS (pc' := 20) (argsL := [(.int c1)]) (rest := []) (W := 0) (own_w hw 85 rfl) (own_w hw 86 rfl) (own_w hw 87 rfl) (own_w hw 88 rfl) (by decide) (m_jh l Z a0 hw c1 h0 n0 z0) d6_17 rfl pd8 rfl rfl (Nat.le_of_eq rfl) (by decide) (by decide) (by decide) (by decide) rfl ?_
    rintro _ _ ⟨r_1618, rfl, rfl, hr_1618, ir_1618⟩
    show Go _ _ _ _ _ _ _ _ _ _ _ _ h0 (0 + 0 + 0 + 0) (0 + 0 + 0 + 0) 20 #[.val (.ref a), .val (.int 1), .val (.int c1)] [(.int r_1618)]
    refine Go.ifc (pc1 := 52) (pc2 := 23) d6_20 (by decide) (by decide) rfl (fun (c_1619 : r_1618.toInt = 0) => ?_) (fun (c_1619 : r_1618.toInt ≠ 0) => ?_)
    · have k1 : ¬ own_k c1 = 1 := own_b0 ir_1618 c_1619
      refine Go.iloadN (pc' := 53) d6_52 rfl rfl ?_
      refine Go.callS (pc' := 56) (argsL := [(.int c1)]) (rest := []) (W := 0) (own_w hw 90 rfl) (own_w hw 91 rfl) (own_w hw 87 rfl) (own_w hw 92 rfl) (by decide) (m_js l Z a0 hw c1 h0 n0 z0) d6_53 rfl pd8 rfl rfl (Nat.le_of_eq rfl) (by decide) (by decide) (by decide) (by decide) rfl ?_
      rintro _ _ ⟨r_1620, rfl, rfl, hr_1620, ir_1620⟩
      show Go _ _ _ _ _ _ _ _ _ _ _ _ h0 (0 + 0 + 0 + 0 + 0) (0 + 0 + 0 + 0 + 0) 56 #[.val (.ref a), .val (.int 1), .val (.int c1)] [(.int r_1620)]
      refine Go.ifc (pc1 := 61) (pc2 := 59) d6_56 (by decide) (by decide) rfl (fun (c_1621 : r_1620.toInt = 0) => ?_) (fun (c_1621 : r_1620.toInt ≠ 0) => ?_)
      · have k0 : own_k c1 = 0 := Decidable.not_not.mp (own_b0 ir_1620 c_1621)
        refine Go.iinc (pc' := 64) (w := (2 : Int32)) (Ls' := #[.val (.ref a), .val (.int 2), .val (.int c1)]) d6_61 rfl rfl rfl rfl ?_
        refine Go.goto (pc' := 2) d6_64 (by decide) (by decide) ?_
        exact J2 c1 (hJ.trans (own_tx_0 k0))
      · have k0 : own_k c1 ≠ 0 := own_b1 ir_1620 hr_1620 c_1621
        refine Go.iconst (pc' := 60) (v := (0 : Int32)) d6_59 rfl rfl ?_
        exact Go.retN (t := .boolean) d6_60 rfl (by simp) rfl ⟨_, rfl, rfl, by decide, own_f (fun t => own_tx_l (own_k2 k1 k0) (hJ.mp t))⟩ (by decide) (by decide)
    · have k1 : own_k c1 = 1 := own_b1 ir_1618 hr_1618 c_1619
      refine Go.iloadN (pc' := 24) d6_23 rfl rfl ?_
      refine Go.iconst (pc' := 25) (v := (1 : Int32)) d6_24 rfl rfl ?_
      refine Go.iadd (pc' := 26) d6_25 rfl ?_
      show Go _ _ _ _ _ _ _ _ _ _ _ _ h0 (0 + 0 + 0 + 0) (0 + 0 + 0 + 0) 26 #[.val (.ref a), .val (.int 1), .val (.int c1)] [(.int 2)]
      refine Go.aloadN (pc' := 27) d6_26 rfl rfl rfl ?_
      refine Go.callV (pc' := 30) (argsL := []) (rest := [(.int 2)]) (W := 1) (own_w hw 34 rfl) (own_w hw 35 rfl) (own_w hw 37 rfl) (own_w hw 36 rfl) (own_w hw 8 rfl) (own_w hw 38 rfl) (by decide) hE (m_ln0 l Z a0 hw a o [.int b0, .int b1, .int b2, .int b3] (4 : Int32) cs h0 n0 z0 hO hSCS hcs hE hFV hFC hA rfl) d6_27 rfl pd15 rfl rfl (Nat.le_of_eq rfl) (by decide) (by decide) (by decide) (by decide) rfl ?_
      rintro _ _ ⟨r, rfl, rfl, hr⟩
      obtain rfl : r = (4 : Int32) := Int32.toInt_inj.mp (by rw [hr]; decide)
      show Go _ _ _ _ _ _ _ _ _ _ _ _ h0 (0 + 0 + 0 + 0 + 0) (0 + 0 + 0 + 0 + 0) 30 #[.val (.ref a), .val (.int 1), .val (.int c1)] [(.int 4), (.int 2)]
      refine Go.icmp (pc1 := 52) (pc2 := 33) d6_30 (by decide) (by decide) rfl (fun (c_1622 : (4 : Int) ≤ (2 : Int)) => ?_) (fun (c_1622 : (2 : Int) < (4 : Int)) => ?_)
      · exact absurd c_1622 (by decide)
      refine Go.aloadN (pc' := 34) d6_33 rfl rfl rfl ?_
      refine Go.iloadN (pc' := 35) d6_34 rfl rfl ?_
      refine Go.iconst (pc' := 36) (v := (1 : Int32)) d6_35 rfl rfl ?_
      refine Go.iadd (pc' := 37) d6_36 rfl ?_
      show Go _ _ _ _ _ _ _ _ _ _ _ _ h0 (0 + 0 + 0 + 0 + 0) (0 + 0 + 0 + 0 + 0) 37 #[.val (.ref a), .val (.int 1), .val (.int c1)] [(.int 2), (.ref a)]
      refine Go.callV (pc' := 40) (argsL := [(.int 2)]) (rest := []) (W := 0) (own_w hw 63 rfl) (own_w hw 64 rfl) (own_w hw 66 rfl) (own_w hw 65 rfl) (own_w hw 8 rfl) (own_w hw 67 rfl) (by decide) hE (m_ca0 l Z a0 hw a o [.int b0, .int b1, .int b2, .int b3] (2 : Int32) (4 : Int32) b2 2 cs fm h0 n0 z0 hO hSCS hSAD hSHB hSLB hSFM hcs hfm hE hFV hFC hA rfl rfl (by decide) rfl) d6_37 rfl pd16 rfl rfl (Nat.le_of_eq rfl) (by decide) (by decide) (by decide) (by decide) rfl ?_
      rintro _ _ ⟨r, rfl, rfl, hr⟩
      obtain rfl : c2 = r := Int32.toInt_inj.mp (by rw [hr]; exact e2.symm)
      show Go _ _ _ _ _ _ _ _ _ _ _ _ h0 (0 + 0 + 0 + 0 + 0 + 0) (0 + 0 + 0 + 0 + 0 + 0) 40 #[.val (.ref a), .val (.int 1), .val (.int c1)] [(.int c2)]
      refine Go.callS (pc' := 43) (argsL := [(.int c2)]) (rest := []) (W := 0) (own_w hw 126 rfl) (own_w hw 127 rfl) (own_w hw 87 rfl) (own_w hw 128 rfl) (by decide) (m_jl l Z a0 hw c2 h0 n0 z0) d6_40 rfl pd8 rfl rfl (Nat.le_of_eq rfl) (by decide) (by decide) (by decide) (by decide) rfl ?_
      rintro _ _ ⟨r_1623, rfl, rfl, hr_1623, ir_1623⟩
      show Go _ _ _ _ _ _ _ _ _ _ _ _ h0 (0 + 0 + 0 + 0 + 0 + 0 + 0) (0 + 0 + 0 + 0 + 0 + 0 + 0) 43 #[.val (.ref a), .val (.int 1), .val (.int c1)] [(.int r_1623)]
      refine Go.ifc (pc1 := 52) (pc2 := 46) d6_43 (by decide) (by decide) rfl (fun (c_1624 : r_1623.toInt = 0) => ?_) (fun (c_1624 : r_1623.toInt ≠ 0) => ?_)
      · have k2 : ¬ own_k c2 = 2 := own_b0 ir_1623 c_1624
        refine Go.iloadN (pc' := 53) d6_52 rfl rfl ?_
        refine Go.callS (pc' := 56) (argsL := [(.int c1)]) (rest := []) (W := 0) (own_w hw 90 rfl) (own_w hw 91 rfl) (own_w hw 87 rfl) (own_w hw 92 rfl) (by decide) (m_js l Z a0 hw c1 h0 n0 z0) d6_53 rfl pd8 rfl rfl (Nat.le_of_eq rfl) (by decide) (by decide) (by decide) (by decide) rfl ?_
        rintro _ _ ⟨r_1625, rfl, rfl, hr_1625, ir_1625⟩
        show Go _ _ _ _ _ _ _ _ _ _ _ _ h0 (0 + 0 + 0 + 0 + 0 + 0 + 0 + 0) (0 + 0 + 0 + 0 + 0 + 0 + 0 + 0) 56 #[.val (.ref a), .val (.int 1), .val (.int c1)] [(.int r_1625)]
        refine Go.ifc (pc1 := 61) (pc2 := 59) d6_56 (by decide) (by decide) rfl (fun (c_1626 : r_1625.toInt = 0) => ?_) (fun (c_1626 : r_1625.toInt ≠ 0) => ?_)
        · exact absurd k1 (by have q := own_b0 ir_1625 c_1626; omega)
        refine Go.iconst (pc' := 60) (v := (0 : Int32)) d6_59 rfl rfl ?_
        exact Go.retN (t := .boolean) d6_60 rfl (by simp) rfl ⟨_, rfl, rfl, by decide, own_f (fun t => own_tx_hn k1 k2 (hJ.mp t))⟩ (by decide) (by decide)
      · have k2 : own_k c2 = 2 := own_b1 ir_1623 hr_1623 c_1624
        refine Go.iinc (pc' := 49) (w := (2 : Int32)) (Ls' := #[.val (.ref a), .val (.int 2), .val (.int c1)]) d6_46 rfl rfl rfl rfl ?_
        refine Go.goto (pc' := 61) d6_49 (by decide) (by decide) ?_
        refine Go.iinc (pc' := 64) (w := (3 : Int32)) (Ls' := #[.val (.ref a), .val (.int 3), .val (.int c1)]) d6_61 rfl rfl rfl rfl ?_
        refine Go.goto (pc' := 2) d6_64 (by decide) (by decide) ?_
        exact J3 c1 (hJ.trans (own_tx_hl k1 k2))
  have hJ : (own_tx [c0, c1, c2, c3]) ↔ (own_tx [c0, c1, c2, c3]) := Iff.rfl
  refine Go.iloadN (pc' := 3) d6_2 rfl rfl ?_
  refine Go.aloadN (pc' := 4) d6_3 rfl rfl rfl ?_
  refine Go.callV (pc' := 7) (argsL := []) (rest := [(.int 0)]) (W := 1) (own_w hw 34 rfl) (own_w hw 35 rfl) (own_w hw 37 rfl) (own_w hw 36 rfl) (own_w hw 8 rfl) (own_w hw 38 rfl) (by decide) hE (m_ln0 l Z a0 hw a o [.int b0, .int b1, .int b2, .int b3] (4 : Int32) cs h0 n0 z0 hO hSCS hcs hE hFV hFC hA rfl) d6_4 rfl pd15 rfl rfl (Nat.le_of_eq rfl) (by decide) (by decide) (by decide) (by decide) rfl ?_
  rintro _ _ ⟨r, rfl, rfl, hr⟩
  obtain rfl : r = (4 : Int32) := Int32.toInt_inj.mp (by rw [hr]; decide)
  show Go _ _ _ _ _ _ _ _ _ _ _ _ h0 (0 + 0) (0 + 0) 7 #[.val (.ref a), .val (.int 0), .unset] [(.int 4), (.int 0)]
  refine Go.icmp (pc1 := 67) (pc2 := 10) d6_7 (by decide) (by decide) rfl (fun (c_1627 : (4 : Int) ≤ (0 : Int)) => ?_) (fun (c_1627 : (0 : Int) < (4 : Int)) => ?_)
  · exact absurd c_1627 (by decide)
  refine Go.aloadN (pc' := 11) d6_10 rfl rfl rfl ?_
  refine Go.iloadN (pc' := 12) d6_11 rfl rfl ?_
  refine Go.callV (pc' := 15) (argsL := [(.int 0)]) (rest := []) (W := 0) (own_w hw 63 rfl) (own_w hw 64 rfl) (own_w hw 66 rfl) (own_w hw 65 rfl) (own_w hw 8 rfl) (own_w hw 67 rfl) (by decide) hE (m_ca0 l Z a0 hw a o [.int b0, .int b1, .int b2, .int b3] (0 : Int32) (4 : Int32) b0 0 cs fm h0 n0 z0 hO hSCS hSAD hSHB hSLB hSFM hcs hfm hE hFV hFC hA rfl rfl (by decide) rfl) d6_12 rfl pd16 rfl rfl (Nat.le_of_eq rfl) (by decide) (by decide) (by decide) (by decide) rfl ?_
  rintro _ _ ⟨r, rfl, rfl, hr⟩
  obtain rfl : c0 = r := Int32.toInt_inj.mp (by rw [hr]; exact e0.symm)
  show Go _ _ _ _ _ _ _ _ _ _ _ _ h0 (0 + 0 + 0) (0 + 0 + 0) 15 #[.val (.ref a), .val (.int 0), .unset] [(.int c0)]
  refine Go.istoreN (pc' := 16) (Ls' := #[.val (.ref a), .val (.int 0), .val (.int c0)]) d6_15 rfl rfl ?_
  refine Go.iloadN (pc' := 17) d6_16 rfl rfl ?_
  refine Go.callS (pc' := 20) (argsL := [(.int c0)]) (rest := []) (W := 0) (own_w hw 85 rfl) (own_w hw 86 rfl) (own_w hw 87 rfl) (own_w hw 88 rfl) (by decide) (m_jh l Z a0 hw c0 h0 n0 z0) d6_17 rfl pd8 rfl rfl (Nat.le_of_eq rfl) (by decide) (by decide) (by decide) (by decide) rfl ?_
  rintro _ _ ⟨r_1628, rfl, rfl, hr_1628, ir_1628⟩
  show Go _ _ _ _ _ _ _ _ _ _ _ _ h0 (0 + 0 + 0 + 0) (0 + 0 + 0 + 0) 20 #[.val (.ref a), .val (.int 0), .val (.int c0)] [(.int r_1628)]
  refine Go.ifc (pc1 := 52) (pc2 := 23) d6_20 (by decide) (by decide) rfl (fun (c_1629 : r_1628.toInt = 0) => ?_) (fun (c_1629 : r_1628.toInt ≠ 0) => ?_)
  · have k1 : ¬ own_k c0 = 1 := own_b0 ir_1628 c_1629
    refine Go.iloadN (pc' := 53) d6_52 rfl rfl ?_
    refine Go.callS (pc' := 56) (argsL := [(.int c0)]) (rest := []) (W := 0) (own_w hw 90 rfl) (own_w hw 91 rfl) (own_w hw 87 rfl) (own_w hw 92 rfl) (by decide) (m_js l Z a0 hw c0 h0 n0 z0) d6_53 rfl pd8 rfl rfl (Nat.le_of_eq rfl) (by decide) (by decide) (by decide) (by decide) rfl ?_
    rintro _ _ ⟨r_1630, rfl, rfl, hr_1630, ir_1630⟩
    show Go _ _ _ _ _ _ _ _ _ _ _ _ h0 (0 + 0 + 0 + 0 + 0) (0 + 0 + 0 + 0 + 0) 56 #[.val (.ref a), .val (.int 0), .val (.int c0)] [(.int r_1630)]
    refine Go.ifc (pc1 := 61) (pc2 := 59) d6_56 (by decide) (by decide) rfl (fun (c_1631 : r_1630.toInt = 0) => ?_) (fun (c_1631 : r_1630.toInt ≠ 0) => ?_)
    · have k0 : own_k c0 = 0 := Decidable.not_not.mp (own_b0 ir_1630 c_1631)
      refine Go.iinc (pc' := 64) (w := (1 : Int32)) (Ls' := #[.val (.ref a), .val (.int 1), .val (.int c0)]) d6_61 rfl rfl rfl rfl ?_
      refine Go.goto (pc' := 2) d6_64 (by decide) (by decide) ?_
      exact J1 c0 (hJ.trans (own_tx_0 k0))
    · have k0 : own_k c0 ≠ 0 := own_b1 ir_1630 hr_1630 c_1631
      refine Go.iconst (pc' := 60) (v := (0 : Int32)) d6_59 rfl rfl ?_
      exact Go.retN (t := .boolean) d6_60 rfl (by simp) rfl ⟨_, rfl, rfl, by decide, own_f (fun t => own_tx_l (own_k2 k1 k0) (hJ.mp t))⟩ (by decide) (by decide)
  · have k1 : own_k c0 = 1 := own_b1 ir_1628 hr_1628 c_1629
    refine Go.iloadN (pc' := 24) d6_23 rfl rfl ?_
    refine Go.iconst (pc' := 25) (v := (1 : Int32)) d6_24 rfl rfl ?_
    refine Go.iadd (pc' := 26) d6_25 rfl ?_
    show Go _ _ _ _ _ _ _ _ _ _ _ _ h0 (0 + 0 + 0 + 0) (0 + 0 + 0 + 0) 26 #[.val (.ref a), .val (.int 0), .val (.int c0)] [(.int 1)]
    refine Go.aloadN (pc' := 27) d6_26 rfl rfl rfl ?_
    refine Go.callV (pc' := 30) (argsL := []) (rest := [(.int 1)]) (W := 1) (own_w hw 34 rfl) (own_w hw 35 rfl) (own_w hw 37 rfl) (own_w hw 36 rfl) (own_w hw 8 rfl) (own_w hw 38 rfl) (by decide) hE (m_ln0 l Z a0 hw a o [.int b0, .int b1, .int b2, .int b3] (4 : Int32) cs h0 n0 z0 hO hSCS hcs hE hFV hFC hA rfl) d6_27 rfl pd15 rfl rfl (Nat.le_of_eq rfl) (by decide) (by decide) (by decide) (by decide) rfl ?_
    rintro _ _ ⟨r, rfl, rfl, hr⟩
    obtain rfl : r = (4 : Int32) := Int32.toInt_inj.mp (by rw [hr]; decide)
    show Go _ _ _ _ _ _ _ _ _ _ _ _ h0 (0 + 0 + 0 + 0 + 0) (0 + 0 + 0 + 0 + 0) 30 #[.val (.ref a), .val (.int 0), .val (.int c0)] [(.int 4), (.int 1)]
    refine Go.icmp (pc1 := 52) (pc2 := 33) d6_30 (by decide) (by decide) rfl (fun (c_1632 : (4 : Int) ≤ (1 : Int)) => ?_) (fun (c_1632 : (1 : Int) < (4 : Int)) => ?_)
    · exact absurd c_1632 (by decide)
    refine Go.aloadN (pc' := 34) d6_33 rfl rfl rfl ?_
    refine Go.iloadN (pc' := 35) d6_34 rfl rfl ?_
    refine Go.iconst (pc' := 36) (v := (1 : Int32)) d6_35 rfl rfl ?_
    refine Go.iadd (pc' := 37) d6_36 rfl ?_
    show Go _ _ _ _ _ _ _ _ _ _ _ _ h0 (0 + 0 + 0 + 0 + 0) (0 + 0 + 0 + 0 + 0) 37 #[.val (.ref a), .val (.int 0), .val (.int c0)] [(.int 1), (.ref a)]
    refine Go.callV (pc' := 40) (argsL := [(.int 1)]) (rest := []) (W := 0) (own_w hw 63 rfl) (own_w hw 64 rfl) (own_w hw 66 rfl) (own_w hw 65 rfl) (own_w hw 8 rfl) (own_w hw 67 rfl) (by decide) hE (m_ca0 l Z a0 hw a o [.int b0, .int b1, .int b2, .int b3] (1 : Int32) (4 : Int32) b1 1 cs fm h0 n0 z0 hO hSCS hSAD hSHB hSLB hSFM hcs hfm hE hFV hFC hA rfl rfl (by decide) rfl) d6_37 rfl pd16 rfl rfl (Nat.le_of_eq rfl) (by decide) (by decide) (by decide) (by decide) rfl ?_
    rintro _ _ ⟨r, rfl, rfl, hr⟩
    obtain rfl : c1 = r := Int32.toInt_inj.mp (by rw [hr]; exact e1.symm)
    show Go _ _ _ _ _ _ _ _ _ _ _ _ h0 (0 + 0 + 0 + 0 + 0 + 0) (0 + 0 + 0 + 0 + 0 + 0) 40 #[.val (.ref a), .val (.int 0), .val (.int c0)] [(.int c1)]
    refine Go.callS (pc' := 43) (argsL := [(.int c1)]) (rest := []) (W := 0) (own_w hw 126 rfl) (own_w hw 127 rfl) (own_w hw 87 rfl) (own_w hw 128 rfl) (by decide) (m_jl l Z a0 hw c1 h0 n0 z0) d6_40 rfl pd8 rfl rfl (Nat.le_of_eq rfl) (by decide) (by decide) (by decide) (by decide) rfl ?_
    rintro _ _ ⟨r_1633, rfl, rfl, hr_1633, ir_1633⟩
    show Go _ _ _ _ _ _ _ _ _ _ _ _ h0 (0 + 0 + 0 + 0 + 0 + 0 + 0) (0 + 0 + 0 + 0 + 0 + 0 + 0) 43 #[.val (.ref a), .val (.int 0), .val (.int c0)] [(.int r_1633)]
    refine Go.ifc (pc1 := 52) (pc2 := 46) d6_43 (by decide) (by decide) rfl (fun (c_1634 : r_1633.toInt = 0) => ?_) (fun (c_1634 : r_1633.toInt ≠ 0) => ?_)
    · have k2 : ¬ own_k c1 = 2 := own_b0 ir_1633 c_1634
      refine Go.iloadN (pc' := 53) d6_52 rfl rfl ?_
      refine Go.callS (pc' := 56) (argsL := [(.int c0)]) (rest := []) (W := 0) (own_w hw 90 rfl) (own_w hw 91 rfl) (own_w hw 87 rfl) (own_w hw 92 rfl) (by decide) (m_js l Z a0 hw c0 h0 n0 z0) d6_53 rfl pd8 rfl rfl (Nat.le_of_eq rfl) (by decide) (by decide) (by decide) (by decide) rfl ?_
      rintro _ _ ⟨r_1635, rfl, rfl, hr_1635, ir_1635⟩
      show Go _ _ _ _ _ _ _ _ _ _ _ _ h0 (0 + 0 + 0 + 0 + 0 + 0 + 0 + 0) (0 + 0 + 0 + 0 + 0 + 0 + 0 + 0) 56 #[.val (.ref a), .val (.int 0), .val (.int c0)] [(.int r_1635)]
      refine Go.ifc (pc1 := 61) (pc2 := 59) d6_56 (by decide) (by decide) rfl (fun (c_1636 : r_1635.toInt = 0) => ?_) (fun (c_1636 : r_1635.toInt ≠ 0) => ?_)
      · exact absurd k1 (by have q := own_b0 ir_1635 c_1636; omega)
      refine Go.iconst (pc' := 60) (v := (0 : Int32)) d6_59 rfl rfl ?_
      exact Go.retN (t := .boolean) d6_60 rfl (by simp) rfl ⟨_, rfl, rfl, by decide, own_f (fun t => own_tx_hn k1 k2 (hJ.mp t))⟩ (by decide) (by decide)
    · have k2 : own_k c1 = 2 := own_b1 ir_1633 hr_1633 c_1634
      refine Go.iinc (pc' := 49) (w := (1 : Int32)) (Ls' := #[.val (.ref a), .val (.int 1), .val (.int c0)]) d6_46 rfl rfl rfl rfl ?_
      refine Go.goto (pc' := 61) d6_49 (by decide) (by decide) ?_
      refine Go.iinc (pc' := 64) (w := (2 : Int32)) (Ls' := #[.val (.ref a), .val (.int 2), .val (.int c0)]) d6_61 rfl rfl rfl rfl ?_
      refine Go.goto (pc' := 2) d6_64 (by decide) (by decide) ?_
      exact J2 c0 (hJ.trans (own_tx_hl k1 k2))
set_option maxRecDepth 65536 in
set_option maxHeartbeats 40000000 in
theorem m_tx4_1 (l : Launch) (Z : State) (a0 : Array Value) (hw : ∀ d ∈ tables_1, d.before a0 Z = true) (a o : Addr) (l0 g0 l1 g1 l2 g2 l3 g3 c0 c1 c2 c3 : Int32) (cs : Int32) (fm : Value) (h0 : Heap) (n0 : Nat) (z0 : n0 ≤ h0.size) (hO : Old Z n0 h0) (hSCS : Sta Z Z.heap "java/lang/String" "COMPACT_STRINGS" "Z" (.int cs)) (hSAD : Sta Z Z.heap "java/lang/StringUTF16" "$assertionsDisabled" "Z" (.int 1)) (hSHB : Sta Z Z.heap "java/lang/StringUTF16" "HI_BYTE_SHIFT" "I" (.int 0)) (hSLB : Sta Z Z.heap "java/lang/StringUTF16" "LO_BYTE_SHIFT" "I" (.int 8)) (hSFM : Sta Z Z.heap "jdk/internal/util/Preconditions" "SIOOBE_FORMATTER" "Ljava/util/function/BiFunction;" fm) (hcs : cs.toInt ≠ 0) (hfm : fm.isRef = true) (hE : Exa Z h0 a "java/lang/String") (hFV : Fld Z h0 a "java/lang/String" "value" "[B" (.ref o)) (hFC : Fld Z h0 a "java/lang/String" "coder" "B" (.int 1)) (hA : Ary Z h0 o .byte [.int l0, .int g0, .int l1, .int g1, .int l2, .int g2, .int l3, .int g3]) (e0 : l0.toInt % 256 + 256 * (g0.toInt % 256) = c0.toInt) (e1 : l1.toInt % 256 + 256 * (g1.toInt % 256) = c1.toInt) (e2 : l2.toInt % 256 + 256 * (g2.toInt % 256) = c2.toInt) (e3 : l3.toInt % 256 + 256 * (g3.toInt % 256) = c3.toInt) : Mt .n l Z (⟨"com/example/consentry/consentry/io/Unicode", "isText", "(Ljava/lang/String;)Z"⟩ : MethodName) prog_29_method_2_code 3 (some .boolean) ({ frames := 5, cells := 0, slots := 0, locals := 75 } : Room) n0 (fun v h => ∃ r : Int32, v = some (.int r) ∧ h0 = h ∧ (r.toInt = 0 ∨ r.toInt = 1) ∧ (r.toInt = 1 ↔ (own_tx [c0, c1, c2, c3]))) h0 #[(.ref a)] := by
  refine Mt.go (Ls := #[.val (.ref a), .unset, .unset]) (plainFor_of_name pn1) (fun m => by first | (simp [entryFrame, mkF, argsToLocals, Value.category]; done) | rfl) ?_
  show Go _ _ _ _ _ _ _ _ _ _ _ _ h0 0 0 0 #[.val (.ref a), .unset, .unset] []
  have hTCS := Sta.ext hO.2 hSCS
  have hTAD := Sta.ext hO.2 hSAD
  have hTHB := Sta.ext hO.2 hSHB
  have hTLB := Sta.ext hO.2 hSLB
  have hTFM := Sta.ext hO.2 hSFM
  have n_1637 : a ≠ o := by obtain ⟨_, Ag, -⟩ := hA; exact ne_arr hE (own_w hw 7 rfl) Ag
  refine Go.iconst (pc' := 1) (v := (0 : Int32)) d6_0 rfl rfl ?_
  refine Go.istoreN (pc' := 2) (Ls' := #[.val (.ref a), .val (.int 0), .unset]) d6_1 rfl rfl ?_
  have J4 : ∀ cc : Int32, ((own_tx [c0, c1, c2, c3]) ↔ (own_tx [])) → (Go .n l ({ frames := 5, cells := 0, slots := 0, locals := 75 } : Room) Z (⟨"com/example/consentry/consentry/io/Unicode", "isText", "(Ljava/lang/String;)Z"⟩ : MethodName) prog_29_method_2_code 3 (some .boolean) n0 0 0 (fun v h => ∃ r : Int32, v = some (.int r) ∧ h0 = h ∧ (r.toInt = 0 ∨ r.toInt = 1) ∧ (r.toInt = 1 ↔ (own_tx [c0, c1, c2, c3])))) h0 0 0 2 #[.val (.ref a), .val (.int 4), .val (.int cc)] [] := by
    intro cc hJ
    refine Go.iloadN (pc' := 3) d6_2 rfl rfl ?_
    refine Go.aloadN (pc' := 4) d6_3 rfl rfl rfl ?_
    refine Go.callV (pc' := 7) (argsL := []) (rest := [(.int 4)]) (W := 1) (own_w hw 34 rfl) (own_w hw 35 rfl) (own_w hw 37 rfl) (own_w hw 36 rfl) (own_w hw 8 rfl) (own_w hw 38 rfl) (by decide) hE (m_ln1 l Z a0 hw a o [.int l0, .int g0, .int l1, .int g1, .int l2, .int g2, .int l3, .int g3] (8 : Int32) cs h0 n0 z0 hO hSCS hcs hE hFV hFC hA rfl) d6_4 rfl pd15 rfl rfl (Nat.le_of_eq rfl) (by decide) (by decide) (by decide) (by decide) rfl ?_
    rintro _ _ ⟨r, rfl, rfl, hr⟩
    obtain rfl : r = (4 : Int32) := Int32.toInt_inj.mp (by rw [hr]; decide)
    show Go _ _ _ _ _ _ _ _ _ _ _ _ h0 (0 + 0) (0 + 0) 7 #[.val (.ref a), .val (.int 4), .val (.int cc)] [(.int 4), (.int 4)]
    refine Go.icmp (pc1 := 67) (pc2 := 10) d6_7 (by decide) (by decide) rfl (fun (c_1638 : (4 : Int) ≤ (4 : Int)) => ?_) (fun (c_1638 : (4 : Int) < (4 : Int)) => ?_)
    rotate_left
    · exact absurd c_1638 (by decide)
    refine Go.iconst (pc' := 68) (v := (1 : Int32)) d6_67 rfl rfl ?_
    exact Go.retN (t := .boolean) d6_68 rfl (by simp) rfl ⟨_, rfl, rfl, by decide, ⟨fun _ => hJ.mpr trivial, fun _ => rfl⟩⟩ (by decide) (by decide)
  have J3 : ∀ cc : Int32, ((own_tx [c0, c1, c2, c3]) ↔ (own_tx [c3])) → (Go .n l ({ frames := 5, cells := 0, slots := 0, locals := 75 } : Room) Z (⟨"com/example/consentry/consentry/io/Unicode", "isText", "(Ljava/lang/String;)Z"⟩ : MethodName) prog_29_method_2_code 3 (some .boolean) n0 0 0 (fun v h => ∃ r : Int32, v = some (.int r) ∧ h0 = h ∧ (r.toInt = 0 ∨ r.toInt = 1) ∧ (r.toInt = 1 ↔ (own_tx [c0, c1, c2, c3])))) h0 0 0 2 #[.val (.ref a), .val (.int 3), .val (.int cc)] [] := by
    intro cc hJ
    refine Go.iloadN (pc' := 3) d6_2 rfl rfl ?_
    refine Go.aloadN (pc' := 4) d6_3 rfl rfl rfl ?_
    refine Go.callV (pc' := 7) (argsL := []) (rest := [(.int 3)]) (W := 1) (own_w hw 34 rfl) (own_w hw 35 rfl) (own_w hw 37 rfl) (own_w hw 36 rfl) (own_w hw 8 rfl) (own_w hw 38 rfl) (by decide) hE (m_ln1 l Z a0 hw a o [.int l0, .int g0, .int l1, .int g1, .int l2, .int g2, .int l3, .int g3] (8 : Int32) cs h0 n0 z0 hO hSCS hcs hE hFV hFC hA rfl) d6_4 rfl pd15 rfl rfl (Nat.le_of_eq rfl) (by decide) (by decide) (by decide) (by decide) rfl ?_
    rintro _ _ ⟨r, rfl, rfl, hr⟩
    obtain rfl : r = (4 : Int32) := Int32.toInt_inj.mp (by rw [hr]; decide)
    show Go _ _ _ _ _ _ _ _ _ _ _ _ h0 (0 + 0) (0 + 0) 7 #[.val (.ref a), .val (.int 3), .val (.int cc)] [(.int 4), (.int 3)]
    refine Go.icmp (pc1 := 67) (pc2 := 10) d6_7 (by decide) (by decide) rfl (fun (c_1639 : (4 : Int) ≤ (3 : Int)) => ?_) (fun (c_1639 : (3 : Int) < (4 : Int)) => ?_)
    · exact absurd c_1639 (by decide)
    refine Go.aloadN (pc' := 11) d6_10 rfl rfl rfl ?_
    refine Go.iloadN (pc' := 12) d6_11 rfl rfl ?_
    refine Go.callV (pc' := 15) (argsL := [(.int 3)]) (rest := []) (W := 0) (own_w hw 63 rfl) (own_w hw 64 rfl) (own_w hw 66 rfl) (own_w hw 65 rfl) (own_w hw 8 rfl) (own_w hw 67 rfl) (by decide) hE (m_ca1 l Z a0 hw a o [.int l0, .int g0, .int l1, .int g1, .int l2, .int g2, .int l3, .int g3] (3 : Int32) (8 : Int32) l3 g3 3 cs fm h0 n0 z0 hO hSCS hSAD hSHB hSLB hSFM hcs hfm hE hFV hFC hA rfl rfl (by decide) (by decide) rfl rfl) d6_12 rfl pd16 rfl rfl (Nat.le_of_eq rfl) (by decide) (by decide) (by decide) (by decide) rfl ?_
    rintro _ _ ⟨r, rfl, rfl, hr⟩
    obtain rfl : c3 = r := Int32.toInt_inj.mp (by rw [hr]; exact e3.symm)
    show Go _ _ _ _ _ _ _ _ _ _ _ _ h0 (0 + 0 + 0) (0 + 0 + 0) 15 #[.val (.ref a), .val (.int 3), .val (.int cc)] [(.int c3)]
    refine Go.istoreN (pc' := 16) (Ls' := #[.val (.ref a), .val (.int 3), .val (.int c3)]) d6_15 rfl rfl ?_
    refine Go.iloadN (pc' := 17) d6_16 rfl rfl ?_
    refine Go.callS (pc' := 20) (argsL := [(.int c3)]) (rest := []) (W := 0) (own_w hw 85 rfl) (own_w hw 86 rfl) (own_w hw 87 rfl) (own_w hw 88 rfl) (by decide) (m_jh l Z a0 hw c3 h0 n0 z0) d6_17 rfl pd8 rfl rfl (Nat.le_of_eq rfl) (by decide) (by decide) (by decide) (by decide) rfl ?_
    rintro _ _ ⟨r_1640, rfl, rfl, hr_1640, ir_1640⟩
    show Go _ _ _ _ _ _ _ _ _ _ _ _ h0 (0 + 0 + 0 + 0) (0 + 0 + 0 + 0) 20 #[.val (.ref a), .val (.int 3), .val (.int c3)] [(.int r_1640)]
    refine Go.ifc (pc1 := 52) (pc2 := 23) d6_20 (by decide) (by decide) rfl (fun (c_1641 : r_1640.toInt = 0) => ?_) (fun (c_1641 : r_1640.toInt ≠ 0) => ?_)
    · have k1 : ¬ own_k c3 = 1 := own_b0 ir_1640 c_1641
      refine Go.iloadN (pc' := 53) d6_52 rfl rfl ?_
      refine Go.callS (pc' := 56) (argsL := [(.int c3)]) (rest := []) (W := 0) (own_w hw 90 rfl) (own_w hw 91 rfl) (own_w hw 87 rfl) (own_w hw 92 rfl) (by decide) (m_js l Z a0 hw c3 h0 n0 z0) d6_53 rfl pd8 rfl rfl (Nat.le_of_eq rfl) (by decide) (by decide) (by decide) (by decide) rfl ?_
      rintro _ _ ⟨r_1642, rfl, rfl, hr_1642, ir_1642⟩
      show Go _ _ _ _ _ _ _ _ _ _ _ _ h0 (0 + 0 + 0 + 0 + 0) (0 + 0 + 0 + 0 + 0) 56 #[.val (.ref a), .val (.int 3), .val (.int c3)] [(.int r_1642)]
      refine Go.ifc (pc1 := 61) (pc2 := 59) d6_56 (by decide) (by decide) rfl (fun (c_1643 : r_1642.toInt = 0) => ?_) (fun (c_1643 : r_1642.toInt ≠ 0) => ?_)
      · have k0 : own_k c3 = 0 := Decidable.not_not.mp (own_b0 ir_1642 c_1643)
        refine Go.iinc (pc' := 64) (w := (4 : Int32)) (Ls' := #[.val (.ref a), .val (.int 4), .val (.int c3)]) d6_61 rfl rfl rfl rfl ?_
        refine Go.goto (pc' := 2) d6_64 (by decide) (by decide) ?_
        exact J4 c3 (hJ.trans (own_tx_0 k0))
      · have k0 : own_k c3 ≠ 0 := own_b1 ir_1642 hr_1642 c_1643
        refine Go.iconst (pc' := 60) (v := (0 : Int32)) d6_59 rfl rfl ?_
        exact Go.retN (t := .boolean) d6_60 rfl (by simp) rfl ⟨_, rfl, rfl, by decide, own_f (fun t => own_tx_l (own_k2 k1 k0) (hJ.mp t))⟩ (by decide) (by decide)
    · have k1 : own_k c3 = 1 := own_b1 ir_1640 hr_1640 c_1641
      refine Go.iloadN (pc' := 24) d6_23 rfl rfl ?_
      refine Go.iconst (pc' := 25) (v := (1 : Int32)) d6_24 rfl rfl ?_
      refine Go.iadd (pc' := 26) d6_25 rfl ?_
      show Go _ _ _ _ _ _ _ _ _ _ _ _ h0 (0 + 0 + 0 + 0) (0 + 0 + 0 + 0) 26 #[.val (.ref a), .val (.int 3), .val (.int c3)] [(.int 4)]
      refine Go.aloadN (pc' := 27) d6_26 rfl rfl rfl ?_
      refine Go.callV (pc' := 30) (argsL := []) (rest := [(.int 4)]) (W := 1) (own_w hw 34 rfl) (own_w hw 35 rfl) (own_w hw 37 rfl) (own_w hw 36 rfl) (own_w hw 8 rfl) (own_w hw 38 rfl) (by decide) hE (m_ln1 l Z a0 hw a o [.int l0, .int g0, .int l1, .int g1, .int l2, .int g2, .int l3, .int g3] (8 : Int32) cs h0 n0 z0 hO hSCS hcs hE hFV hFC hA rfl) d6_27 rfl pd15 rfl rfl (Nat.le_of_eq rfl) (by decide) (by decide) (by decide) (by decide) rfl ?_
      rintro _ _ ⟨r, rfl, rfl, hr⟩
      obtain rfl : r = (4 : Int32) := Int32.toInt_inj.mp (by rw [hr]; decide)
      show Go _ _ _ _ _ _ _ _ _ _ _ _ h0 (0 + 0 + 0 + 0 + 0) (0 + 0 + 0 + 0 + 0) 30 #[.val (.ref a), .val (.int 3), .val (.int c3)] [(.int 4), (.int 4)]
      refine Go.icmp (pc1 := 52) (pc2 := 33) d6_30 (by decide) (by decide) rfl (fun (c_1644 : (4 : Int) ≤ (4 : Int)) => ?_) (fun (c_1644 : (4 : Int) < (4 : Int)) => ?_)
      rotate_left
      · exact absurd c_1644 (by decide)
      refine Go.iloadN (pc' := 53) d6_52 rfl rfl ?_
      refine Go.callS (pc' := 56) (argsL := [(.int c3)]) (rest := []) (W := 0) (own_w hw 90 rfl) (own_w hw 91 rfl) (own_w hw 87 rfl) (own_w hw 92 rfl) (by decide) (m_js l Z a0 hw c3 h0 n0 z0) d6_53 rfl pd8 rfl rfl (Nat.le_of_eq rfl) (by decide) (by decide) (by decide) (by decide) rfl ?_
      rintro _ _ ⟨r_1645, rfl, rfl, hr_1645, ir_1645⟩
      show Go _ _ _ _ _ _ _ _ _ _ _ _ h0 (0 + 0 + 0 + 0 + 0 + 0) (0 + 0 + 0 + 0 + 0 + 0) 56 #[.val (.ref a), .val (.int 3), .val (.int c3)] [(.int r_1645)]
      refine Go.ifc (pc1 := 61) (pc2 := 59) d6_56 (by decide) (by decide) rfl (fun (c_1646 : r_1645.toInt = 0) => ?_) (fun (c_1646 : r_1645.toInt ≠ 0) => ?_)
      · exact absurd k1 (by have q := own_b0 ir_1645 c_1646; omega)
      refine Go.iconst (pc' := 60) (v := (0 : Int32)) d6_59 rfl rfl ?_
      exact Go.retN (t := .boolean) d6_60 rfl (by simp) rfl ⟨_, rfl, rfl, by decide, own_f (fun t => own_tx_h1 k1 (hJ.mp t))⟩ (by decide) (by decide)
  have J2 : ∀ cc : Int32, ((own_tx [c0, c1, c2, c3]) ↔ (own_tx [c2, c3])) → (Go .n l ({ frames := 5, cells := 0, slots := 0, locals := 75 } : Room) Z (⟨"com/example/consentry/consentry/io/Unicode", "isText", "(Ljava/lang/String;)Z"⟩ : MethodName) prog_29_method_2_code 3 (some .boolean) n0 0 0 (fun v h => ∃ r : Int32, v = some (.int r) ∧ h0 = h ∧ (r.toInt = 0 ∨ r.toInt = 1) ∧ (r.toInt = 1 ↔ (own_tx [c0, c1, c2, c3])))) h0 0 0 2 #[.val (.ref a), .val (.int 2), .val (.int cc)] [] := by
    intro cc hJ
    refine Go.iloadN (pc' := 3) d6_2 rfl rfl ?_
    refine Go.aloadN (pc' := 4) d6_3 rfl rfl rfl ?_
    refine Go.callV (pc' := 7) (argsL := []) (rest := [(.int 2)]) (W := 1) (own_w hw 34 rfl) (own_w hw 35 rfl) (own_w hw 37 rfl) (own_w hw 36 rfl) (own_w hw 8 rfl) (own_w hw 38 rfl) (by decide) hE (m_ln1 l Z a0 hw a o [.int l0, .int g0, .int l1, .int g1, .int l2, .int g2, .int l3, .int g3] (8 : Int32) cs h0 n0 z0 hO hSCS hcs hE hFV hFC hA rfl) d6_4 rfl pd15 rfl rfl (Nat.le_of_eq rfl) (by decide) (by decide) (by decide) (by decide) rfl ?_
    rintro _ _ ⟨r, rfl, rfl, hr⟩
    obtain rfl : r = (4 : Int32) := Int32.toInt_inj.mp (by rw [hr]; decide)
    show Go _ _ _ _ _ _ _ _ _ _ _ _ h0 (0 + 0) (0 + 0) 7 #[.val (.ref a), .val (.int 2), .val (.int cc)] [(.int 4), (.int 2)]
    refine Go.icmp (pc1 := 67) (pc2 := 10) d6_7 (by decide) (by decide) rfl (fun (c_1647 : (4 : Int) ≤ (2 : Int)) => ?_) (fun (c_1647 : (2 : Int) < (4 : Int)) => ?_)
    · exact absurd c_1647 (by decide)
    refine Go.aloadN (pc' := 11) d6_10 rfl rfl rfl ?_
    refine Go.iloadN (pc' := 12) d6_11 rfl rfl ?_
    refine Go.callV (pc' := 15) (argsL := [(.int 2)]) (rest := []) (W := 0) (own_w hw 63 rfl) (own_w hw 64 rfl) (own_w hw 66 rfl) (own_w hw 65 rfl) (own_w hw 8 rfl) (own_w hw 67 rfl) (by decide) hE (m_ca1 l Z a0 hw a o [.int l0, .int g0, .int l1, .int g1, .int l2, .int g2, .int l3, .int g3] (2 : Int32) (8 : Int32) l2 g2 2 cs fm h0 n0 z0 hO hSCS hSAD hSHB hSLB hSFM hcs hfm hE hFV hFC hA rfl rfl (by decide) (by decide) rfl rfl) d6_12 rfl pd16 rfl rfl (Nat.le_of_eq rfl) (by decide) (by decide) (by decide) (by decide) rfl ?_
    rintro _ _ ⟨r, rfl, rfl, hr⟩
    obtain rfl : c2 = r := Int32.toInt_inj.mp (by rw [hr]; exact e2.symm)
    show Go _ _ _ _ _ _ _ _ _ _ _ _ h0 (0 + 0 + 0) (0 + 0 + 0) 15 #[.val (.ref a), .val (.int 2), .val (.int cc)] [(.int c2)]
    refine Go.istoreN (pc' := 16) (Ls' := #[.val (.ref a), .val (.int 2), .val (.int c2)]) d6_15 rfl rfl ?_
    refine Go.iloadN (pc' := 17) d6_16 rfl rfl ?_
    refine Go.callS (pc' := 20) (argsL := [(.int c2)]) (rest := []) (W := 0) (own_w hw 85 rfl) (own_w hw 86 rfl) (own_w hw 87 rfl) (own_w hw 88 rfl) (by decide) (m_jh l Z a0 hw c2 h0 n0 z0) d6_17 rfl pd8 rfl rfl (Nat.le_of_eq rfl) (by decide) (by decide) (by decide) (by decide) rfl ?_
    rintro _ _ ⟨r_1648, rfl, rfl, hr_1648, ir_1648⟩
    show Go _ _ _ _ _ _ _ _ _ _ _ _ h0 (0 + 0 + 0 + 0) (0 + 0 + 0 + 0) 20 #[.val (.ref a), .val (.int 2), .val (.int c2)] [(.int r_1648)]
    refine Go.ifc (pc1 := 52) (pc2 := 23) d6_20 (by decide) (by decide) rfl (fun (c_1649 : r_1648.toInt = 0) => ?_) (fun (c_1649 : r_1648.toInt ≠ 0) => ?_)
    · have k1 : ¬ own_k c2 = 1 := own_b0 ir_1648 c_1649
      refine Go.iloadN (pc' := 53) d6_52 rfl rfl ?_
      refine Go.callS (pc' := 56) (argsL := [(.int c2)]) (rest := []) (W := 0) (own_w hw 90 rfl) (own_w hw 91 rfl) (own_w hw 87 rfl) (own_w hw 92 rfl) (by decide) (m_js l Z a0 hw c2 h0 n0 z0) d6_53 rfl pd8 rfl rfl (Nat.le_of_eq rfl) (by decide) (by decide) (by decide) (by decide) rfl ?_
      rintro _ _ ⟨r_1650, rfl, rfl, hr_1650, ir_1650⟩
      show Go _ _ _ _ _ _ _ _ _ _ _ _ h0 (0 + 0 + 0 + 0 + 0) (0 + 0 + 0 + 0 + 0) 56 #[.val (.ref a), .val (.int 2), .val (.int c2)] [(.int r_1650)]
      refine Go.ifc (pc1 := 61) (pc2 := 59) d6_56 (by decide) (by decide) rfl (fun (c_1651 : r_1650.toInt = 0) => ?_) (fun (c_1651 : r_1650.toInt ≠ 0) => ?_)
      · have k0 : own_k c2 = 0 := Decidable.not_not.mp (own_b0 ir_1650 c_1651)
        refine Go.iinc (pc' := 64) (w := (3 : Int32)) (Ls' := #[.val (.ref a), .val (.int 3), .val (.int c2)]) d6_61 rfl rfl rfl rfl ?_
        refine Go.goto (pc' := 2) d6_64 (by decide) (by decide) ?_
        exact J3 c2 (hJ.trans (own_tx_0 k0))
      · have k0 : own_k c2 ≠ 0 := own_b1 ir_1650 hr_1650 c_1651
        refine Go.iconst (pc' := 60) (v := (0 : Int32)) d6_59 rfl rfl ?_
        exact Go.retN (t := .boolean) d6_60 rfl (by simp) rfl ⟨_, rfl, rfl, by decide, own_f (fun t => own_tx_l (own_k2 k1 k0) (hJ.mp t))⟩ (by decide) (by decide)
    · have k1 : own_k c2 = 1 := own_b1 ir_1648 hr_1648 c_1649
      refine Go.iloadN (pc' := 24) d6_23 rfl rfl ?_
      refine Go.iconst (pc' := 25) (v := (1 : Int32)) d6_24 rfl rfl ?_
      refine Go.iadd (pc' := 26) d6_25 rfl ?_
      show Go _ _ _ _ _ _ _ _ _ _ _ _ h0 (0 + 0 + 0 + 0) (0 + 0 + 0 + 0) 26 #[.val (.ref a), .val (.int 2), .val (.int c2)] [(.int 3)]
      refine Go.aloadN (pc' := 27) d6_26 rfl rfl rfl ?_
      refine Go.callV (pc' := 30) (argsL := []) (rest := [(.int 3)]) (W := 1) (own_w hw 34 rfl) (own_w hw 35 rfl) (own_w hw 37 rfl) (own_w hw 36 rfl) (own_w hw 8 rfl) (own_w hw 38 rfl) (by decide) hE (m_ln1 l Z a0 hw a o [.int l0, .int g0, .int l1, .int g1, .int l2, .int g2, .int l3, .int g3] (8 : Int32) cs h0 n0 z0 hO hSCS hcs hE hFV hFC hA rfl) d6_27 rfl pd15 rfl rfl (Nat.le_of_eq rfl) (by decide) (by decide) (by decide) (by decide) rfl ?_
      rintro _ _ ⟨r, rfl, rfl, hr⟩
      obtain rfl : r = (4 : Int32) := Int32.toInt_inj.mp (by rw [hr]; decide)
      show Go _ _ _ _ _ _ _ _ _ _ _ _ h0 (0 + 0 + 0 + 0 + 0) (0 + 0 + 0 + 0 + 0) 30 #[.val (.ref a), .val (.int 2), .val (.int c2)] [(.int 4), (.int 3)]
      refine Go.icmp (pc1 := 52) (pc2 := 33) d6_30 (by decide) (by decide) rfl (fun (c_1652 : (4 : Int) ≤ (3 : Int)) => ?_) (fun (c_1652 : (3 : Int) < (4 : Int)) => ?_)
      · exact absurd c_1652 (by decide)
      refine Go.aloadN (pc' := 34) d6_33 rfl rfl rfl ?_
      refine Go.iloadN (pc' := 35) d6_34 rfl rfl ?_
      refine Go.iconst (pc' := 36) (v := (1 : Int32)) d6_35 rfl rfl ?_
      refine Go.iadd (pc' := 37) d6_36 rfl ?_
      show Go _ _ _ _ _ _ _ _ _ _ _ _ h0 (0 + 0 + 0 + 0 + 0) (0 + 0 + 0 + 0 + 0) 37 #[.val (.ref a), .val (.int 2), .val (.int c2)] [(.int 3), (.ref a)]
      refine Go.callV (pc' := 40) (argsL := [(.int 3)]) (rest := []) (W := 0) (own_w hw 63 rfl) (own_w hw 64 rfl) (own_w hw 66 rfl) (own_w hw 65 rfl) (own_w hw 8 rfl) (own_w hw 67 rfl) (by decide) hE (m_ca1 l Z a0 hw a o [.int l0, .int g0, .int l1, .int g1, .int l2, .int g2, .int l3, .int g3] (3 : Int32) (8 : Int32) l3 g3 3 cs fm h0 n0 z0 hO hSCS hSAD hSHB hSLB hSFM hcs hfm hE hFV hFC hA rfl rfl (by decide) (by decide) rfl rfl) d6_37 rfl pd16 rfl rfl (Nat.le_of_eq rfl) (by decide) (by decide) (by decide) (by decide) rfl ?_
      rintro _ _ ⟨r, rfl, rfl, hr⟩
      obtain rfl : c3 = r := Int32.toInt_inj.mp (by rw [hr]; exact e3.symm)
      show Go _ _ _ _ _ _ _ _ _ _ _ _ h0 (0 + 0 + 0 + 0 + 0 + 0) (0 + 0 + 0 + 0 + 0 + 0) 40 #[.val (.ref a), .val (.int 2), .val (.int c2)] [(.int c3)]
      refine Go.callS (pc' := 43) (argsL := [(.int c3)]) (rest := []) (W := 0) (own_w hw 126 rfl) (own_w hw 127 rfl) (own_w hw 87 rfl) (own_w hw 128 rfl) (by decide) (m_jl l Z a0 hw c3 h0 n0 z0) d6_40 rfl pd8 rfl rfl (Nat.le_of_eq rfl) (by decide) (by decide) (by decide) (by decide) rfl ?_
      rintro _ _ ⟨r_1653, rfl, rfl, hr_1653, ir_1653⟩
      show Go _ _ _ _ _ _ _ _ _ _ _ _ h0 (0 + 0 + 0 + 0 + 0 + 0 + 0) (0 + 0 + 0 + 0 + 0 + 0 + 0) 43 #[.val (.ref a), .val (.int 2), .val (.int c2)] [(.int r_1653)]
      refine Go.ifc (pc1 := 52) (pc2 := 46) d6_43 (by decide) (by decide) rfl (fun (c_1654 : r_1653.toInt = 0) => ?_) (fun (c_1654 : r_1653.toInt ≠ 0) => ?_)
      · have k2 : ¬ own_k c3 = 2 := own_b0 ir_1653 c_1654
        refine Go.iloadN (pc' := 53) d6_52 rfl rfl ?_
        refine Go.callS (pc' := 56) (argsL := [(.int c2)]) (rest := []) (W := 0) (own_w hw 90 rfl) (own_w hw 91 rfl) (own_w hw 87 rfl) (own_w hw 92 rfl) (by decide) (m_js l Z a0 hw c2 h0 n0 z0) d6_53 rfl pd8 rfl rfl (Nat.le_of_eq rfl) (by decide) (by decide) (by decide) (by decide) rfl ?_
        rintro _ _ ⟨r_1655, rfl, rfl, hr_1655, ir_1655⟩
        show Go _ _ _ _ _ _ _ _ _ _ _ _ h0 (0 + 0 + 0 + 0 + 0 + 0 + 0 + 0) (0 + 0 + 0 + 0 + 0 + 0 + 0 + 0) 56 #[.val (.ref a), .val (.int 2), .val (.int c2)] [(.int r_1655)]
        refine Go.ifc (pc1 := 61) (pc2 := 59) d6_56 (by decide) (by decide) rfl (fun (c_1656 : r_1655.toInt = 0) => ?_) (fun (c_1656 : r_1655.toInt ≠ 0) => ?_)
        · exact absurd k1 (by have q := own_b0 ir_1655 c_1656; omega)
        refine Go.iconst (pc' := 60) (v := (0 : Int32)) d6_59 rfl rfl ?_
        exact Go.retN (t := .boolean) d6_60 rfl (by simp) rfl ⟨_, rfl, rfl, by decide, own_f (fun t => own_tx_hn k1 k2 (hJ.mp t))⟩ (by decide) (by decide)
      · have k2 : own_k c3 = 2 := own_b1 ir_1653 hr_1653 c_1654
        refine Go.iinc (pc' := 49) (w := (3 : Int32)) (Ls' := #[.val (.ref a), .val (.int 3), .val (.int c2)]) d6_46 rfl rfl rfl rfl ?_
        refine Go.goto (pc' := 61) d6_49 (by decide) (by decide) ?_
        refine Go.iinc (pc' := 64) (w := (4 : Int32)) (Ls' := #[.val (.ref a), .val (.int 4), .val (.int c2)]) d6_61 rfl rfl rfl rfl ?_
        refine Go.goto (pc' := 2) d6_64 (by decide) (by decide) ?_
        exact J4 c2 (hJ.trans (own_tx_hl k1 k2))
  have J1 : ∀ cc : Int32, ((own_tx [c0, c1, c2, c3]) ↔ (own_tx [c1, c2, c3])) → (Go .n l ({ frames := 5, cells := 0, slots := 0, locals := 75 } : Room) Z (⟨"com/example/consentry/consentry/io/Unicode", "isText", "(Ljava/lang/String;)Z"⟩ : MethodName) prog_29_method_2_code 3 (some .boolean) n0 0 0 (fun v h => ∃ r : Int32, v = some (.int r) ∧ h0 = h ∧ (r.toInt = 0 ∨ r.toInt = 1) ∧ (r.toInt = 1 ↔ (own_tx [c0, c1, c2, c3])))) h0 0 0 2 #[.val (.ref a), .val (.int 1), .val (.int cc)] [] := by
    intro cc hJ
    refine Go.iloadN (pc' := 3) d6_2 rfl rfl ?_
    refine Go.aloadN (pc' := 4) d6_3 rfl rfl rfl ?_
    refine Go.callV (pc' := 7) (argsL := []) (rest := [(.int 1)]) (W := 1) (own_w hw 34 rfl) (own_w hw 35 rfl) (own_w hw 37 rfl) (own_w hw 36 rfl) (own_w hw 8 rfl) (own_w hw 38 rfl) (by decide) hE (m_ln1 l Z a0 hw a o [.int l0, .int g0, .int l1, .int g1, .int l2, .int g2, .int l3, .int g3] (8 : Int32) cs h0 n0 z0 hO hSCS hcs hE hFV hFC hA rfl) d6_4 rfl pd15 rfl rfl (Nat.le_of_eq rfl) (by decide) (by decide) (by decide) (by decide) rfl ?_
    rintro _ _ ⟨r, rfl, rfl, hr⟩
    obtain rfl : r = (4 : Int32) := Int32.toInt_inj.mp (by rw [hr]; decide)
    show Go _ _ _ _ _ _ _ _ _ _ _ _ h0 (0 + 0) (0 + 0) 7 #[.val (.ref a), .val (.int 1), .val (.int cc)] [(.int 4), (.int 1)]
    refine Go.icmp (pc1 := 67) (pc2 := 10) d6_7 (by decide) (by decide) rfl (fun (c_1657 : (4 : Int) ≤ (1 : Int)) => ?_) (fun (c_1657 : (1 : Int) < (4 : Int)) => ?_)
    · exact absurd c_1657 (by decide)
    refine Go.aloadN (pc' := 11) d6_10 rfl rfl rfl ?_
    refine Go.iloadN (pc' := 12) d6_11 rfl rfl ?_
    refine Go.callV (pc' := 15) (argsL := [(.int 1)]) (rest := []) (W := 0) (own_w hw 63 rfl) (own_w hw 64 rfl) (own_w hw 66 rfl) (own_w hw 65 rfl) (own_w hw 8 rfl) (own_w hw 67 rfl) (by decide) hE (m_ca1 l Z a0 hw a o [.int l0, .int g0, .int l1, .int g1, .int l2, .int g2, .int l3, .int g3] (1 : Int32) (8 : Int32) l1 g1 1 cs fm h0 n0 z0 hO hSCS hSAD hSHB hSLB hSFM hcs hfm hE hFV hFC hA rfl rfl (by decide) (by decide) rfl rfl) d6_12 rfl pd16 rfl rfl (Nat.le_of_eq rfl) (by decide) (by decide) (by decide) (by decide) rfl ?_
    rintro _ _ ⟨r, rfl, rfl, hr⟩
    obtain rfl : c1 = r := Int32.toInt_inj.mp (by rw [hr]; exact e1.symm)
    show Go _ _ _ _ _ _ _ _ _ _ _ _ h0 (0 + 0 + 0) (0 + 0 + 0) 15 #[.val (.ref a), .val (.int 1), .val (.int cc)] [(.int c1)]
    refine Go.istoreN (pc' := 16) (Ls' := #[.val (.ref a), .val (.int 1), .val (.int c1)]) d6_15 rfl rfl ?_
    refine Go.iloadN (pc' := 17) d6_16 rfl rfl ?_
    refine Go.callS (pc' := 20) (argsL := [(.int c1)]) (rest := []) (W := 0) (own_w hw 85 rfl) (own_w hw 86 rfl) (own_w hw 87 rfl) (own_w hw 88 rfl) (by decide) (m_jh l Z a0 hw c1 h0 n0 z0) d6_17 rfl pd8 rfl rfl (Nat.le_of_eq rfl) (by decide) (by decide) (by decide) (by decide) rfl ?_
    rintro _ _ ⟨r_1658, rfl, rfl, hr_1658, ir_1658⟩
    show Go _ _ _ _ _ _ _ _ _ _ _ _ h0 (0 + 0 + 0 + 0) (0 + 0 + 0 + 0) 20 #[.val (.ref a), .val (.int 1), .val (.int c1)] [(.int r_1658)]
    refine Go.ifc (pc1 := 52) (pc2 := 23) d6_20 (by decide) (by decide) rfl (fun (c_1659 : r_1658.toInt = 0) => ?_) (fun (c_1659 : r_1658.toInt ≠ 0) => ?_)
    · have k1 : ¬ own_k c1 = 1 := own_b0 ir_1658 c_1659
      refine Go.iloadN (pc' := 53) d6_52 rfl rfl ?_
      refine Go.callS (pc' := 56) (argsL := [(.int c1)]) (rest := []) (W := 0) (own_w hw 90 rfl) (own_w hw 91 rfl) (own_w hw 87 rfl) (own_w hw 92 rfl) (by decide) (m_js l Z a0 hw c1 h0 n0 z0) d6_53 rfl pd8 rfl rfl (Nat.le_of_eq rfl) (by decide) (by decide) (by decide) (by decide) rfl ?_
      rintro _ _ ⟨r_1660, rfl, rfl, hr_1660, ir_1660⟩
      show Go _ _ _ _ _ _ _ _ _ _ _ _ h0 (0 + 0 + 0 + 0 + 0) (0 + 0 + 0 + 0 + 0) 56 #[.val (.ref a), .val (.int 1), .val (.int c1)] [(.int r_1660)]
      refine Go.ifc (pc1 := 61) (pc2 := 59) d6_56 (by decide) (by decide) rfl (fun (c_1661 : r_1660.toInt = 0) => ?_) (fun (c_1661 : r_1660.toInt ≠ 0) => ?_)
      · have k0 : own_k c1 = 0 := Decidable.not_not.mp (own_b0 ir_1660 c_1661)
        refine Go.iinc (pc' := 64) (w := (2 : Int32)) (Ls' := #[.val (.ref a), .val (.int 2), .val (.int c1)]) d6_61 rfl rfl rfl rfl ?_
        refine Go.goto (pc' := 2) d6_64 (by decide) (by decide) ?_
        exact J2 c1 (hJ.trans (own_tx_0 k0))
      · have k0 : own_k c1 ≠ 0 := own_b1 ir_1660 hr_1660 c_1661
        refine Go.iconst (pc' := 60) (v := (0 : Int32)) d6_59 rfl rfl ?_
        exact Go.retN (t := .boolean) d6_60 rfl (by simp) rfl ⟨_, rfl, rfl, by decide, own_f (fun t => own_tx_l (own_k2 k1 k0) (hJ.mp t))⟩ (by decide) (by decide)
    · have k1 : own_k c1 = 1 := own_b1 ir_1658 hr_1658 c_1659
      refine Go.iloadN (pc' := 24) d6_23 rfl rfl ?_
      refine Go.iconst (pc' := 25) (v := (1 : Int32)) d6_24 rfl rfl ?_
      refine Go.iadd (pc' := 26) d6_25 rfl ?_
      show Go _ _ _ _ _ _ _ _ _ _ _ _ h0 (0 + 0 + 0 + 0) (0 + 0 + 0 + 0) 26 #[.val (.ref a), .val (.int 1), .val (.int c1)] [(.int 2)]
      refine Go.aloadN (pc' := 27) d6_26 rfl rfl rfl ?_
      refine Go.callV (pc' := 30) (argsL := []) (rest := [(.int 2)]) (W := 1) (own_w hw 34 rfl) (own_w hw 35 rfl) (own_w hw 37 rfl) (own_w hw 36 rfl) (own_w hw 8 rfl) (own_w hw 38 rfl) (by decide) hE (m_ln1 l Z a0 hw a o [.int l0, .int g0, .int l1, .int g1, .int l2, .int g2, .int l3, .int g3] (8 : Int32) cs h0 n0 z0 hO hSCS hcs hE hFV hFC hA rfl) d6_27 rfl pd15 rfl rfl (Nat.le_of_eq rfl) (by decide) (by decide) (by decide) (by decide) rfl ?_
      rintro _ _ ⟨r, rfl, rfl, hr⟩
      obtain rfl : r = (4 : Int32) := Int32.toInt_inj.mp (by rw [hr]; decide)
      show Go _ _ _ _ _ _ _ _ _ _ _ _ h0 (0 + 0 + 0 + 0 + 0) (0 + 0 + 0 + 0 + 0) 30 #[.val (.ref a), .val (.int 1), .val (.int c1)] [(.int 4), (.int 2)]
      refine Go.icmp (pc1 := 52) (pc2 := 33) d6_30 (by decide) (by decide) rfl (fun (c_1662 : (4 : Int) ≤ (2 : Int)) => ?_) (fun (c_1662 : (2 : Int) < (4 : Int)) => ?_)
      · exact absurd c_1662 (by decide)
      refine Go.aloadN (pc' := 34) d6_33 rfl rfl rfl ?_
      refine Go.iloadN (pc' := 35) d6_34 rfl rfl ?_
      refine Go.iconst (pc' := 36) (v := (1 : Int32)) d6_35 rfl rfl ?_
      refine Go.iadd (pc' := 37) d6_36 rfl ?_
      show Go _ _ _ _ _ _ _ _ _ _ _ _ h0 (0 + 0 + 0 + 0 + 0) (0 + 0 + 0 + 0 + 0) 37 #[.val (.ref a), .val (.int 1), .val (.int c1)] [(.int 2), (.ref a)]
      refine Go.callV (pc' := 40) (argsL := [(.int 2)]) (rest := []) (W := 0) (own_w hw 63 rfl) (own_w hw 64 rfl) (own_w hw 66 rfl) (own_w hw 65 rfl) (own_w hw 8 rfl) (own_w hw 67 rfl) (by decide) hE (m_ca1 l Z a0 hw a o [.int l0, .int g0, .int l1, .int g1, .int l2, .int g2, .int l3, .int g3] (2 : Int32) (8 : Int32) l2 g2 2 cs fm h0 n0 z0 hO hSCS hSAD hSHB hSLB hSFM hcs hfm hE hFV hFC hA rfl rfl (by decide) (by decide) rfl rfl) d6_37 rfl pd16 rfl rfl (Nat.le_of_eq rfl) (by decide) (by decide) (by decide) (by decide) rfl ?_
      rintro _ _ ⟨r, rfl, rfl, hr⟩
      obtain rfl : c2 = r := Int32.toInt_inj.mp (by rw [hr]; exact e2.symm)
      show Go _ _ _ _ _ _ _ _ _ _ _ _ h0 (0 + 0 + 0 + 0 + 0 + 0) (0 + 0 + 0 + 0 + 0 + 0) 40 #[.val (.ref a), .val (.int 1), .val (.int c1)] [(.int c2)]
      refine Go.callS (pc' := 43) (argsL := [(.int c2)]) (rest := []) (W := 0) (own_w hw 126 rfl) (own_w hw 127 rfl) (own_w hw 87 rfl) (own_w hw 128 rfl) (by decide) (m_jl l Z a0 hw c2 h0 n0 z0) d6_40 rfl pd8 rfl rfl (Nat.le_of_eq rfl) (by decide) (by decide) (by decide) (by decide) rfl ?_
      rintro _ _ ⟨r_1663, rfl, rfl, hr_1663, ir_1663⟩
      show Go _ _ _ _ _ _ _ _ _ _ _ _ h0 (0 + 0 + 0 + 0 + 0 + 0 + 0) (0 + 0 + 0 + 0 + 0 + 0 + 0) 43 #[.val (.ref a), .val (.int 1), .val (.int c1)] [(.int r_1663)]
      refine Go.ifc (pc1 := 52) (pc2 := 46) d6_43 (by decide) (by decide) rfl (fun (c_1664 : r_1663.toInt = 0) => ?_) (fun (c_1664 : r_1663.toInt ≠ 0) => ?_)
      · have k2 : ¬ own_k c2 = 2 := own_b0 ir_1663 c_1664
        refine Go.iloadN (pc' := 53) d6_52 rfl rfl ?_
        refine Go.callS (pc' := 56) (argsL := [(.int c1)]) (rest := []) (W := 0) (own_w hw 90 rfl) (own_w hw 91 rfl) (own_w hw 87 rfl) (own_w hw 92 rfl) (by decide) (m_js l Z a0 hw c1 h0 n0 z0) d6_53 rfl pd8 rfl rfl (Nat.le_of_eq rfl) (by decide) (by decide) (by decide) (by decide) rfl ?_
        rintro _ _ ⟨r_1665, rfl, rfl, hr_1665, ir_1665⟩
        show Go _ _ _ _ _ _ _ _ _ _ _ _ h0 (0 + 0 + 0 + 0 + 0 + 0 + 0 + 0) (0 + 0 + 0 + 0 + 0 + 0 + 0 + 0) 56 #[.val (.ref a), .val (.int 1), .val (.int c1)] [(.int r_1665)]
        refine Go.ifc (pc1 := 61) (pc2 := 59) d6_56 (by decide) (by decide) rfl (fun (c_1666 : r_1665.toInt = 0) => ?_) (fun (c_1666 : r_1665.toInt ≠ 0) => ?_)
        · exact absurd k1 (by have q := own_b0 ir_1665 c_1666; omega)
        refine Go.iconst (pc' := 60) (v := (0 : Int32)) d6_59 rfl rfl ?_
        exact Go.retN (t := .boolean) d6_60 rfl (by simp) rfl ⟨_, rfl, rfl, by decide, own_f (fun t => own_tx_hn k1 k2 (hJ.mp t))⟩ (by decide) (by decide)
      · have k2 : own_k c2 = 2 := own_b1 ir_1663 hr_1663 c_1664
        refine Go.iinc (pc' := 49) (w := (2 : Int32)) (Ls' := #[.val (.ref a), .val (.int 2), .val (.int c1)]) d6_46 rfl rfl rfl rfl ?_
        refine Go.goto (pc' := 61) d6_49 (by decide) (by decide) ?_
        refine Go.iinc (pc' := 64) (w := (3 : Int32)) (Ls' := #[.val (.ref a), .val (.int 3), .val (.int c1)]) d6_61 rfl rfl rfl rfl ?_
        refine Go.goto (pc' := 2) d6_64 (by decide) (by decide) ?_
        exact J3 c1 (hJ.trans (own_tx_hl k1 k2))
  have hJ : (own_tx [c0, c1, c2, c3]) ↔ (own_tx [c0, c1, c2, c3]) := Iff.rfl
  refine Go.iloadN (pc' := 3) d6_2 rfl rfl ?_
  refine Go.aloadN (pc' := 4) d6_3 rfl rfl rfl ?_
  refine Go.callV (pc' := 7) (argsL := []) (rest := [(.int 0)]) (W := 1) (own_w hw 34 rfl) (own_w hw 35 rfl) (own_w hw 37 rfl) (own_w hw 36 rfl) (own_w hw 8 rfl) (own_w hw 38 rfl) (by decide) hE (m_ln1 l Z a0 hw a o [.int l0, .int g0, .int l1, .int g1, .int l2, .int g2, .int l3, .int g3] (8 : Int32) cs h0 n0 z0 hO hSCS hcs hE hFV hFC hA rfl) d6_4 rfl pd15 rfl rfl (Nat.le_of_eq rfl) (by decide) (by decide) (by decide) (by decide) rfl ?_
  rintro _ _ ⟨r, rfl, rfl, hr⟩
  obtain rfl : r = (4 : Int32) := Int32.toInt_inj.mp (by rw [hr]; decide)
  show Go _ _ _ _ _ _ _ _ _ _ _ _ h0 (0 + 0) (0 + 0) 7 #[.val (.ref a), .val (.int 0), .unset] [(.int 4), (.int 0)]
  refine Go.icmp (pc1 := 67) (pc2 := 10) d6_7 (by decide) (by decide) rfl (fun (c_1667 : (4 : Int) ≤ (0 : Int)) => ?_) (fun (c_1667 : (0 : Int) < (4 : Int)) => ?_)
  · exact absurd c_1667 (by decide)
  refine Go.aloadN (pc' := 11) d6_10 rfl rfl rfl ?_
  refine Go.iloadN (pc' := 12) d6_11 rfl rfl ?_
  refine Go.callV (pc' := 15) (argsL := [(.int 0)]) (rest := []) (W := 0) (own_w hw 63 rfl) (own_w hw 64 rfl) (own_w hw 66 rfl) (own_w hw 65 rfl) (own_w hw 8 rfl) (own_w hw 67 rfl) (by decide) hE (m_ca1 l Z a0 hw a o [.int l0, .int g0, .int l1, .int g1, .int l2, .int g2, .int l3, .int g3] (0 : Int32) (8 : Int32) l0 g0 0 cs fm h0 n0 z0 hO hSCS hSAD hSHB hSLB hSFM hcs hfm hE hFV hFC hA rfl rfl (by decide) (by decide) rfl rfl) d6_12 rfl pd16 rfl rfl (Nat.le_of_eq rfl) (by decide) (by decide) (by decide) (by decide) rfl ?_
  rintro _ _ ⟨r, rfl, rfl, hr⟩
  obtain rfl : c0 = r := Int32.toInt_inj.mp (by rw [hr]; exact e0.symm)
  show Go _ _ _ _ _ _ _ _ _ _ _ _ h0 (0 + 0 + 0) (0 + 0 + 0) 15 #[.val (.ref a), .val (.int 0), .unset] [(.int c0)]
  refine Go.istoreN (pc' := 16) (Ls' := #[.val (.ref a), .val (.int 0), .val (.int c0)]) d6_15 rfl rfl ?_
  refine Go.iloadN (pc' := 17) d6_16 rfl rfl ?_
  refine Go.callS (pc' := 20) (argsL := [(.int c0)]) (rest := []) (W := 0) (own_w hw 85 rfl) (own_w hw 86 rfl) (own_w hw 87 rfl) (own_w hw 88 rfl) (by decide) (m_jh l Z a0 hw c0 h0 n0 z0) d6_17 rfl pd8 rfl rfl (Nat.le_of_eq rfl) (by decide) (by decide) (by decide) (by decide) rfl ?_
  rintro _ _ ⟨r_1668, rfl, rfl, hr_1668, ir_1668⟩
  show Go _ _ _ _ _ _ _ _ _ _ _ _ h0 (0 + 0 + 0 + 0) (0 + 0 + 0 + 0) 20 #[.val (.ref a), .val (.int 0), .val (.int c0)] [(.int r_1668)]
  refine Go.ifc (pc1 := 52) (pc2 := 23) d6_20 (by decide) (by decide) rfl (fun (c_1669 : r_1668.toInt = 0) => ?_) (fun (c_1669 : r_1668.toInt ≠ 0) => ?_)
  · have k1 : ¬ own_k c0 = 1 := own_b0 ir_1668 c_1669
    refine Go.iloadN (pc' := 53) d6_52 rfl rfl ?_
    refine Go.callS (pc' := 56) (argsL := [(.int c0)]) (rest := []) (W := 0) (own_w hw 90 rfl) (own_w hw 91 rfl) (own_w hw 87 rfl) (own_w hw 92 rfl) (by decide) (m_js l Z a0 hw c0 h0 n0 z0) d6_53 rfl pd8 rfl rfl (Nat.le_of_eq rfl) (by decide) (by decide) (by decide) (by decide) rfl ?_
    rintro _ _ ⟨r_1670, rfl, rfl, hr_1670, ir_1670⟩
    show Go _ _ _ _ _ _ _ _ _ _ _ _ h0 (0 + 0 + 0 + 0 + 0) (0 + 0 + 0 + 0 + 0) 56 #[.val (.ref a), .val (.int 0), .val (.int c0)] [(.int r_1670)]
    refine Go.ifc (pc1 := 61) (pc2 := 59) d6_56 (by decide) (by decide) rfl (fun (c_1671 : r_1670.toInt = 0) => ?_) (fun (c_1671 : r_1670.toInt ≠ 0) => ?_)
    · have k0 : own_k c0 = 0 := Decidable.not_not.mp (own_b0 ir_1670 c_1671)
      refine Go.iinc (pc' := 64) (w := (1 : Int32)) (Ls' := #[.val (.ref a), .val (.int 1), .val (.int c0)]) d6_61 rfl rfl rfl rfl ?_
      refine Go.goto (pc' := 2) d6_64 (by decide) (by decide) ?_
      exact J1 c0 (hJ.trans (own_tx_0 k0))
    · have k0 : own_k c0 ≠ 0 := own_b1 ir_1670 hr_1670 c_1671
      refine Go.iconst (pc' := 60) (v := (0 : Int32)) d6_59 rfl rfl ?_
      exact Go.retN (t := .boolean) d6_60 rfl (by simp) rfl ⟨_, rfl, rfl, by decide, own_f (fun t => own_tx_l (own_k2 k1 k0) (hJ.mp t))⟩ (by decide) (by decide)
  · have k1 : own_k c0 = 1 := own_b1 ir_1668 hr_1668 c_1669
    refine Go.iloadN (pc' := 24) d6_23 rfl rfl ?_
    refine Go.iconst (pc' := 25) (v := (1 : Int32)) d6_24 rfl rfl ?_
    refine Go.iadd (pc' := 26) d6_25 rfl ?_
    show Go _ _ _ _ _ _ _ _ _ _ _ _ h0 (0 + 0 + 0 + 0) (0 + 0 + 0 + 0) 26 #[.val (.ref a), .val (.int 0), .val (.int c0)] [(.int 1)]
    refine Go.aloadN (pc' := 27) d6_26 rfl rfl rfl ?_
    refine Go.callV (pc' := 30) (argsL := []) (rest := [(.int 1)]) (W := 1) (own_w hw 34 rfl) (own_w hw 35 rfl) (own_w hw 37 rfl) (own_w hw 36 rfl) (own_w hw 8 rfl) (own_w hw 38 rfl) (by decide) hE (m_ln1 l Z a0 hw a o [.int l0, .int g0, .int l1, .int g1, .int l2, .int g2, .int l3, .int g3] (8 : Int32) cs h0 n0 z0 hO hSCS hcs hE hFV hFC hA rfl) d6_27 rfl pd15 rfl rfl (Nat.le_of_eq rfl) (by decide) (by decide) (by decide) (by decide) rfl ?_
    rintro _ _ ⟨r, rfl, rfl, hr⟩
    obtain rfl : r = (4 : Int32) := Int32.toInt_inj.mp (by rw [hr]; decide)
    show Go _ _ _ _ _ _ _ _ _ _ _ _ h0 (0 + 0 + 0 + 0 + 0) (0 + 0 + 0 + 0 + 0) 30 #[.val (.ref a), .val (.int 0), .val (.int c0)] [(.int 4), (.int 1)]
    refine Go.icmp (pc1 := 52) (pc2 := 33) d6_30 (by decide) (by decide) rfl (fun (c_1672 : (4 : Int) ≤ (1 : Int)) => ?_) (fun (c_1672 : (1 : Int) < (4 : Int)) => ?_)
    · exact absurd c_1672 (by decide)
    refine Go.aloadN (pc' := 34) d6_33 rfl rfl rfl ?_
    refine Go.iloadN (pc' := 35) d6_34 rfl rfl ?_
    refine Go.iconst (pc' := 36) (v := (1 : Int32)) d6_35 rfl rfl ?_
    refine Go.iadd (pc' := 37) d6_36 rfl ?_
    show Go _ _ _ _ _ _ _ _ _ _ _ _ h0 (0 + 0 + 0 + 0 + 0) (0 + 0 + 0 + 0 + 0) 37 #[.val (.ref a), .val (.int 0), .val (.int c0)] [(.int 1), (.ref a)]
    refine Go.callV (pc' := 40) (argsL := [(.int 1)]) (rest := []) (W := 0) (own_w hw 63 rfl) (own_w hw 64 rfl) (own_w hw 66 rfl) (own_w hw 65 rfl) (own_w hw 8 rfl) (own_w hw 67 rfl) (by decide) hE (m_ca1 l Z a0 hw a o [.int l0, .int g0, .int l1, .int g1, .int l2, .int g2, .int l3, .int g3] (1 : Int32) (8 : Int32) l1 g1 1 cs fm h0 n0 z0 hO hSCS hSAD hSHB hSLB hSFM hcs hfm hE hFV hFC hA rfl rfl (by decide) (by decide) rfl rfl) d6_37 rfl pd16 rfl rfl (Nat.le_of_eq rfl) (by decide) (by decide) (by decide) (by decide) rfl ?_
    rintro _ _ ⟨r, rfl, rfl, hr⟩
    obtain rfl : c1 = r := Int32.toInt_inj.mp (by rw [hr]; exact e1.symm)
    show Go _ _ _ _ _ _ _ _ _ _ _ _ h0 (0 + 0 + 0 + 0 + 0 + 0) (0 + 0 + 0 + 0 + 0 + 0) 40 #[.val (.ref a), .val (.int 0), .val (.int c0)] [(.int c1)]
    refine Go.callS (pc' := 43) (argsL := [(.int c1)]) (rest := []) (W := 0) (own_w hw 126 rfl) (own_w hw 127 rfl) (own_w hw 87 rfl) (own_w hw 128 rfl) (by decide) (m_jl l Z a0 hw c1 h0 n0 z0) d6_40 rfl pd8 rfl rfl (Nat.le_of_eq rfl) (by decide) (by decide) (by decide) (by decide) rfl ?_
    rintro _ _ ⟨r_1673, rfl, rfl, hr_1673, ir_1673⟩
    show Go _ _ _ _ _ _ _ _ _ _ _ _ h0 (0 + 0 + 0 + 0 + 0 + 0 + 0) (0 + 0 + 0 + 0 + 0 + 0 + 0) 43 #[.val (.ref a), .val (.int 0), .val (.int c0)] [(.int r_1673)]
    refine Go.ifc (pc1 := 52) (pc2 := 46) d6_43 (by decide) (by decide) rfl (fun (c_1674 : r_1673.toInt = 0) => ?_) (fun (c_1674 : r_1673.toInt ≠ 0) => ?_)
    · have k2 : ¬ own_k c1 = 2 := own_b0 ir_1673 c_1674
      refine Go.iloadN (pc' := 53) d6_52 rfl rfl ?_
      refine Go.callS (pc' := 56) (argsL := [(.int c0)]) (rest := []) (W := 0) (own_w hw 90 rfl) (own_w hw 91 rfl) (own_w hw 87 rfl) (own_w hw 92 rfl) (by decide) (m_js l Z a0 hw c0 h0 n0 z0) d6_53 rfl pd8 rfl rfl (Nat.le_of_eq rfl) (by decide) (by decide) (by decide) (by decide) rfl ?_
      rintro _ _ ⟨r_1675, rfl, rfl, hr_1675, ir_1675⟩
      show Go _ _ _ _ _ _ _ _ _ _ _ _ h0 (0 + 0 + 0 + 0 + 0 + 0 + 0 + 0) (0 + 0 + 0 + 0 + 0 + 0 + 0 + 0) 56 #[.val (.ref a), .val (.int 0), .val (.int c0)] [(.int r_1675)]
      refine Go.ifc (pc1 := 61) (pc2 := 59) d6_56 (by decide) (by decide) rfl (fun (c_1676 : r_1675.toInt = 0) => ?_) (fun (c_1676 : r_1675.toInt ≠ 0) => ?_)
      · exact absurd k1 (by have q := own_b0 ir_1675 c_1676; omega)
      refine Go.iconst (pc' := 60) (v := (0 : Int32)) d6_59 rfl rfl ?_
      exact Go.retN (t := .boolean) d6_60 rfl (by simp) rfl ⟨_, rfl, rfl, by decide, own_f (fun t => own_tx_hn k1 k2 (hJ.mp t))⟩ (by decide) (by decide)
    · have k2 : own_k c1 = 2 := own_b1 ir_1673 hr_1673 c_1674
      refine Go.iinc (pc' := 49) (w := (1 : Int32)) (Ls' := #[.val (.ref a), .val (.int 1), .val (.int c0)]) d6_46 rfl rfl rfl rfl ?_
      refine Go.goto (pc' := 61) d6_49 (by decide) (by decide) ?_
      refine Go.iinc (pc' := 64) (w := (2 : Int32)) (Ls' := #[.val (.ref a), .val (.int 2), .val (.int c0)]) d6_61 rfl rfl rfl rfl ?_
      refine Go.goto (pc' := 2) d6_64 (by decide) (by decide) ?_
      exact J2 c0 (hJ.trans (own_tx_hl k1 k2))
set_option maxRecDepth 65536 in
set_option maxHeartbeats 40000000 in
theorem rm1 (l : Launch) (Z : State) (a0 : Array Value) (hw : ∀ d ∈ tables_1, d.before a0 Z = true) (ws : List Jvm.Cond) (y0 y1 y2 y3 y4 : Int32) (cs : Int32) (fm : Value) (h0 : Heap) (n0 : Nat) (z0 : n0 ≤ h0.size) (hO : Old Z n0 h0) (hSCS : Sta Z Z.heap "java/lang/String" "COMPACT_STRINGS" "Z" (.int cs)) (hSAD : Sta Z Z.heap "java/lang/StringUTF16" "$assertionsDisabled" "Z" (.int 1)) (hSHB : Sta Z Z.heap "java/lang/StringUTF16" "HI_BYTE_SHIFT" "I" (.int 0)) (hSLB : Sta Z Z.heap "java/lang/StringUTF16" "LO_BYTE_SHIFT" "I" (.int 8)) (hSFM : Sta Z Z.heap "jdk/internal/util/Preconditions" "SIOOBE_FORMATTER" "Ljava/util/function/BiFunction;" fm) (hcs : cs.toInt ≠ 0) (hfm : fm.isRef = true) (hH : Jvm.Lit.constHeld Z "java/lang/String" 7) (hcw : Jvm.Lit.compactW.before a0 Z = true) : MetFree l x (head1 (Jvm.Cond.code x code maxLocals ret :: ws) room_1) (fun a U => a = #[(.int y0), (.int y1), (.int y2), (.int y3), (.int y4)] ∧ Z.Warmed39 U.vm ∧ U.heap = h0 ∧ IB Z U.vm []) (fun _ _ _ _ _ => True) (fun _ U o U' => ∃ v L, o = .returned v ∧ (((fun v h => v = some (.int 1)) v U'.heap ∧ h0.size ≤ U'.heap.size) ∧ Fr n0 L) ∧ ReturnedEndW U o U' L 24 1152 ∧ IB Z U'.vm [""]) := by
  refine met_goH (y := x) (Q := fun v h => v = some (.int 1)) (n1 := n0) (Ls := #[.val (.int y0), .val (.int y1), .val (.int y2), .val (.int y3), .val (.int y4), .unset, .unset, .unset, .unset, .unset, .unset, .unset, .unset]) (plainFor_of_name pn0) (fun m => by first | (simp [entryFrame, mkF, argsToLocals, Value.category, maxLocals]; done) | rfl) (fun _ q => nomatch q) (Nat.le_refl _) ?_
  show Go _ _ _ _ _ _ _ _ _ _ _ _ h0 0 0 0 #[.val (.int y0), .val (.int y1), .val (.int y2), .val (.int y3), .val (.int y4), .unset, .unset, .unset, .unset, .unset, .unset, .unset, .unset] []
  have hTCS := Sta.ext hO.2 hSCS
  have hTAD := Sta.ext hO.2 hSAD
  have hTHB := Sta.ext hO.2 hSHB
  have hTLB := Sta.ext hO.2 hSLB
  have hTFM := Sta.ext hO.2 hSFM
  refine Go.iloadN (pc' := 1) at_0 rfl rfl ?_
  refine Go.ldcI (pc' := 3) (own_w hw 0 rfl) at_1 rfl ?_
  refine Go.iand (pc' := 4) at_3 rfl ?_
  refine Go.iconst (pc' := 5) (v := (5 : Int32)) at_4 rfl rfl ?_
  refine Go.irem (pc' := 6) at_5 (by decide) rfl ?_
  generalize ek_1677 : (y0 &&& (2147483647 : Int32)) % (5 : Int32) = k_1677
  have k_1678 : k_1677.toInt = 0 ∨ k_1677.toInt = 1 ∨ k_1677.toInt = 2 ∨ k_1677.toInt = 3 ∨ k_1677.toInt = 4 := by
    rw [← ek_1677]
    have : (2147483647 : Int32).toInt = 2147483647 := by decide
    have := c_mask y0 (2147483647 : Int32) 31 (by decide) (by decide)
    have := rng32 (y0 &&& (2147483647 : Int32))
    have := rng32 y0
    have : (5 : Int32).toInt = 5 := by decide
    have := c_irem (y0 &&& (2147483647 : Int32)) (5 : Int32) 5 (by decide)
    have := rng32 ((y0 &&& (2147483647 : Int32)) % (5 : Int32))
    omega
  refine Go.istore (pc' := 8) (Ls' := #[.val (.int y0), .val (.int y1), .val (.int y2), .val (.int y3), .val (.int y4), .val (.int k_1677), .unset, .unset, .unset, .unset, .unset, .unset, .unset]) at_6 rfl rfl ?_
  refine Go.iloadN (pc' := 9) at_8 rfl rfl ?_
  refine Go.callS (pc' := 12) (argsL := [(.int y1)]) (rest := []) (W := 0) (own_w hw 1 rfl) (own_w hw 2 rfl) (own_w hw 3 rfl) (own_w hw 4 rfl) (by decide) (m_draw l Z a0 hw y1 h0 n0 z0) at_9 rfl pd16 rfl rfl (Nat.le_of_eq rfl) (by decide) (by decide) (by decide) (by decide) rfl ?_
  rintro _ _ ⟨c0, rfl, rfl, hc0⟩
  have nc0 : nar .char c0 = c0 := own_nc hc0
  show Go _ _ _ _ _ _ _ _ _ _ _ _ h0 (0 + 0) (0 + 0) 12 #[.val (.int y0), .val (.int y1), .val (.int y2), .val (.int y3), .val (.int y4), .val (.int k_1677), .unset, .unset, .unset, .unset, .unset, .unset, .unset] [(.int c0)]
  refine Go.istore (pc' := 14) (Ls' := #[.val (.int y0), .val (.int y1), .val (.int y2), .val (.int y3), .val (.int y4), .val (.int k_1677), .val (.int c0), .unset, .unset, .unset, .unset, .unset, .unset]) at_12 rfl rfl ?_
  refine Go.iloadN (pc' := 15) at_14 rfl rfl ?_
  refine Go.callS (pc' := 18) (argsL := [(.int y2)]) (rest := []) (W := 0) (own_w hw 1 rfl) (own_w hw 2 rfl) (own_w hw 3 rfl) (own_w hw 4 rfl) (by decide) (m_draw l Z a0 hw y2 h0 n0 z0) at_15 rfl pd16 rfl rfl (Nat.le_of_eq rfl) (by decide) (by decide) (by decide) (by decide) rfl ?_
  rintro _ _ ⟨c1, rfl, rfl, hc1⟩
  have nc1 : nar .char c1 = c1 := own_nc hc1
  show Go _ _ _ _ _ _ _ _ _ _ _ _ h0 (0 + 0 + 0) (0 + 0 + 0) 18 #[.val (.int y0), .val (.int y1), .val (.int y2), .val (.int y3), .val (.int y4), .val (.int k_1677), .val (.int c0), .unset, .unset, .unset, .unset, .unset, .unset] [(.int c1)]
  refine Go.istore (pc' := 20) (Ls' := #[.val (.int y0), .val (.int y1), .val (.int y2), .val (.int y3), .val (.int y4), .val (.int k_1677), .val (.int c0), .val (.int c1), .unset, .unset, .unset, .unset, .unset]) at_18 rfl rfl ?_
  refine Go.iloadN (pc' := 21) at_20 rfl rfl ?_
  refine Go.callS (pc' := 24) (argsL := [(.int y3)]) (rest := []) (W := 0) (own_w hw 1 rfl) (own_w hw 2 rfl) (own_w hw 3 rfl) (own_w hw 4 rfl) (by decide) (m_draw l Z a0 hw y3 h0 n0 z0) at_21 rfl pd16 rfl rfl (Nat.le_of_eq rfl) (by decide) (by decide) (by decide) (by decide) rfl ?_
  rintro _ _ ⟨c2, rfl, rfl, hc2⟩
  have nc2 : nar .char c2 = c2 := own_nc hc2
  show Go _ _ _ _ _ _ _ _ _ _ _ _ h0 (0 + 0 + 0 + 0) (0 + 0 + 0 + 0) 24 #[.val (.int y0), .val (.int y1), .val (.int y2), .val (.int y3), .val (.int y4), .val (.int k_1677), .val (.int c0), .val (.int c1), .unset, .unset, .unset, .unset, .unset] [(.int c2)]
  refine Go.istore (pc' := 26) (Ls' := #[.val (.int y0), .val (.int y1), .val (.int y2), .val (.int y3), .val (.int y4), .val (.int k_1677), .val (.int c0), .val (.int c1), .val (.int c2), .unset, .unset, .unset, .unset]) at_24 rfl rfl ?_
  refine Go.iload (pc' := 28) at_26 rfl rfl ?_
  refine Go.callS (pc' := 31) (argsL := [(.int y4)]) (rest := []) (W := 0) (own_w hw 1 rfl) (own_w hw 2 rfl) (own_w hw 3 rfl) (own_w hw 4 rfl) (by decide) (m_draw l Z a0 hw y4 h0 n0 z0) at_28 rfl pd16 rfl rfl (Nat.le_of_eq rfl) (by decide) (by decide) (by decide) (by decide) rfl ?_
  rintro _ _ ⟨c3, rfl, rfl, hc3⟩
  have nc3 : nar .char c3 = c3 := own_nc hc3
  show Go _ _ _ _ _ _ _ _ _ _ _ _ h0 (0 + 0 + 0 + 0 + 0) (0 + 0 + 0 + 0 + 0) 31 #[.val (.int y0), .val (.int y1), .val (.int y2), .val (.int y3), .val (.int y4), .val (.int k_1677), .val (.int c0), .val (.int c1), .val (.int c2), .unset, .unset, .unset, .unset] [(.int c3)]
  refine Go.istore (pc' := 33) (Ls' := #[.val (.int y0), .val (.int y1), .val (.int y2), .val (.int y3), .val (.int y4), .val (.int k_1677), .val (.int c0), .val (.int c1), .val (.int c2), .val (.int c3), .unset, .unset, .unset]) at_31 rfl rfl ?_
  clear ek_1677
  rcases k_1678 with k_1678 | k_1678 | k_1678 | k_1678 | k_1678
  · obtain rfl : k_1677 = (0 : Int32) := Int32.toInt_inj.mp k_1678
    refine Go.iload (pc' := 35) at_33 rfl rfl ?_
    refine Go.newA (pc' := 37) (k := 0) (ty := .char) (cap := 0) (own_w hw 5 rfl) rfl rfl (by decide) (by decide) at_35 (by decide) (by decide) rfl ?_
    intro h_1679 a_1680 q_1681 E_1682 A_1683
    have g_1685 : n0 ≤ a_1680 := q_1681 ▸ z0
    have z_1691 : n0 ≤ h_1679.size := Nat.le_trans z0 E_1682.1
    have O_1692 : Old Z n0 h_1679 := hO.ext E_1682
    have f_1686 := Sta.ext O_1692.2 hSCS
    have f_1687 := Sta.ext O_1692.2 hSAD
    have f_1688 := Sta.ext O_1692.2 hSHB
    have f_1689 := Sta.ext O_1692.2 hSLB
    have f_1690 := Sta.ext O_1692.2 hSFM
    have t_1693 : a_1680 < h_1679.size := A_1683.lt
    change Ary Z h_1679 a_1680 .char [] at A_1683
    refine Go.astore (pc' := 39) (Ls' := #[.val (.int y0), .val (.int y1), .val (.int y2), .val (.int y3), .val (.int y4), .val (.int 0), .val (.int c0), .val (.int c1), .val (.int c2), .val (.int c3), .val (.ref a_1680), .unset, .unset]) at_37 rfl rfl rfl ?_
    refine Go.iload (pc' := 41) at_39 rfl rfl ?_
    refine Go.ifc (pc1 := 50) (pc2 := 44) at_41 (by decide) (by decide) rfl (fun (c_1694 : (0 : Int) ≤ 0) => ?_) (fun (c_1694 : 0 < (0 : Int)) => ?_)
    rotate_left
    · exact absurd c_1694 (by decide)
    refine Go.iload (pc' := 52) at_50 rfl rfl ?_
    refine Go.iconst (pc' := 53) (v := (1 : Int32)) at_52 rfl rfl ?_
    refine Go.icmp (pc1 := 62) (pc2 := 56) at_53 (by decide) (by decide) rfl (fun (c_1695 : (0 : Int) ≤ (1 : Int)) => ?_) (fun (c_1695 : (1 : Int) < (0 : Int)) => ?_)
    rotate_left
    · exact absurd c_1695 (by decide)
    refine Go.iload (pc' := 64) at_62 rfl rfl ?_
    refine Go.iconst (pc' := 65) (v := (2 : Int32)) at_64 rfl rfl ?_
    refine Go.icmp (pc1 := 74) (pc2 := 68) at_65 (by decide) (by decide) rfl (fun (c_1696 : (0 : Int) ≤ (2 : Int)) => ?_) (fun (c_1696 : (2 : Int) < (0 : Int)) => ?_)
    rotate_left
    · exact absurd c_1696 (by decide)
    refine Go.iload (pc' := 76) at_74 rfl rfl ?_
    refine Go.iconst (pc' := 77) (v := (3 : Int32)) at_76 rfl rfl ?_
    refine Go.icmp (pc1 := 86) (pc2 := 80) at_77 (by decide) (by decide) rfl (fun (c_1697 : (0 : Int) ≤ (3 : Int)) => ?_) (fun (c_1697 : (3 : Int) < (0 : Int)) => ?_)
    rotate_left
    · exact absurd c_1697 (by decide)
    refine Go.newO (pc' := 89) (own_w hw 6 rfl) (own_w hw 7 rfl) (own_w hw 8 rfl) at_86 (by decide) (by decide) rfl ?_
    intro h_1698 a_1699 q_1700 E_1701 A_1702 D_1703
    have n_1704 : a_1680 ≠ a_1699 := Nat.ne_of_lt (q_1700 ▸ t_1693)
    have g_1705 : n0 ≤ a_1699 := q_1700 ▸ z_1691
    have f_1711 : Ary Z h_1698 a_1680 .char [] := A_1683.sm (Sm.ext E_1701)
    have t_1712 : a_1680 < h_1698.size := Nat.lt_of_lt_of_le t_1693 E_1701.1
    have z_1713 : n0 ≤ h_1698.size := Nat.le_trans z_1691 E_1701.1
    have O_1714 : Old Z n0 h_1698 := O_1692.ext E_1701
    have f_1706 := Sta.ext O_1714.2 hSCS
    have f_1707 := Sta.ext O_1714.2 hSAD
    have f_1708 := Sta.ext O_1714.2 hSHB
    have f_1709 := Sta.ext O_1714.2 hSLB
    have f_1710 := Sta.ext O_1714.2 hSFM
    have t_1715 : a_1699 < h_1698.size := A_1702.lt
    have f_1716 : Fld Z h_1698 a_1699 "java/lang/String" "value" "[B" .null := D_1703 (Or.inr (own_w hw 21 rfl)) (ty := (.array .byte)) (by decide)
    have f_1717 : Fld Z h_1698 a_1699 "java/lang/String" "coder" "B" (.int 0) := D_1703 (Or.inr (own_w hw 22 rfl)) (ty := .byte) (by decide)
    refine Go.dup (pc' := 90) at_89 rfl rfl ?_
    refine Go.aload (pc' := 92) at_90 rfl rfl rfl ?_
    refine Go.callNI (pc' := 95) (argsL := [(.ref a_1680)]) (rest := [(.ref a_1699)]) (W := 1) rfl (own_w hw 9 rfl) (own_w hw 10 rfl) (own_w hw 8 rfl) (own_w hw 11 rfl) (by decide) (m_s1_0 l Z a0 hw a_1699 a_1680 h_1698 n0 z_1713 O_1714 hH hcw A_1702 f_1716 f_1717 g_1705 f_1711) (fun _ k => k) (ibE (fun _ q => q)) at_92 rfl pd17 rfl rfl (Nat.le_of_eq rfl) (by decide) (by decide) (by decide) (by decide) rfl ?_
    rintro _ h_1718 ⟨rfl, o, K_1719, f1, f2, A⟩
    have f_1720 : Ary Z h_1718 a_1680 .char [] := f_1711.sm (Sm.keep K_1719 (ninS n_1704 nin0))
    have f_1726 : Exa Z h_1718 a_1699 "java/lang/String" := A_1702.keep K_1719
    have t_1729 : a_1680 < h_1718.size := Nat.lt_of_lt_of_le t_1712 K_1719.1
    have t_1730 : a_1699 < h_1718.size := Nat.lt_of_lt_of_le t_1715 K_1719.1
    have z_1731 : n0 ≤ h_1718.size := Nat.le_trans z_1713 K_1719.1
    have O_1732 : Old Z n0 h_1718 := O_1714.keep K_1719 (allS g_1705 all0)
    have f_1721 := Sta.ext O_1732.2 hSCS
    have f_1722 := Sta.ext O_1732.2 hSAD
    have f_1723 := Sta.ext O_1732.2 hSHB
    have f_1724 := Sta.ext O_1732.2 hSLB
    have f_1725 := Sta.ext O_1732.2 hSFM
    have n_1733 : a_1699 ≠ o := by obtain ⟨_, Ag, -⟩ := A; exact ne_arr f_1726 (own_w hw 7 rfl) Ag
    show Go _ _ _ _ _ _ _ _ _ _ _ _ h_1718 (0 + 0 + 0 + 0 + 0 + 1 + 1 + 2) (0 + 0 + 0 + 0 + 0 + 0 + 4 + 4) 95 #[.val (.int y0), .val (.int y1), .val (.int y2), .val (.int y3), .val (.int y4), .val (.int 0), .val (.int c0), .val (.int c1), .val (.int c2), .val (.int c3), .val (.ref a_1680), .unset, .unset] [(.ref a_1699)]
    refine Go.astore (pc' := 97) (Ls' := #[.val (.int y0), .val (.int y1), .val (.int y2), .val (.int y3), .val (.int y4), .val (.int 0), .val (.int c0), .val (.int c1), .val (.int c2), .val (.int c3), .val (.ref a_1680), .val (.ref a_1699), .unset]) at_95 rfl rfl rfl ?_
    refine Go.iload (pc' := 99) at_97 rfl rfl ?_
    refine Go.ifc (pc1 := 106) (pc2 := 102) at_99 (by decide) (by decide) rfl (fun (c_1734 : (0 : Int) ≤ 0) => ?_) (fun (c_1734 : 0 < (0 : Int)) => ?_)
    rotate_left
    · exact absurd c_1734 (by decide)
    refine Go.iconst (pc' := 107) (v := (0 : Int32)) at_106 rfl rfl ?_
    refine Go.iconst (pc' := 108) (v := (0 : Int32)) at_107 rfl rfl ?_
    refine Go.iload (pc' := 110) at_108 rfl rfl ?_
    refine Go.iload (pc' := 112) at_110 rfl rfl ?_
    refine Go.iload (pc' := 114) at_112 rfl rfl ?_
    refine Go.iconst (pc' := 115) (v := (1 : Int32)) at_114 rfl rfl ?_
    refine Go.icmp (pc1 := 122) (pc2 := 118) at_115 (by decide) (by decide) rfl (fun (c_1735 : (0 : Int) ≤ (1 : Int)) => ?_) (fun (c_1735 : (1 : Int) < (0 : Int)) => ?_)
    rotate_left
    · exact absurd c_1735 (by decide)
    refine Go.iconst (pc' := 123) (v := (0 : Int32)) at_122 rfl rfl ?_
    refine Go.iload (pc' := 125) at_123 rfl rfl ?_
    refine Go.callS (pc' := 128) (argsL := [(.int 0), (.int 0), (.int c0), (.int c0), (.int 0), (.int c1)]) (rest := []) (W := 0) (own_w hw 27 rfl) (own_w hw 28 rfl) (own_w hw 3 rfl) (own_w hw 29 rfl) (by decide) (m_ok l Z a0 hw (0 : Int32) (0 : Int32) c0 c0 (0 : Int32) c1 h_1718 n0 z_1731) at_125 rfl pd18 rfl rfl (Nat.le_of_eq rfl) (by decide) (by decide) (by decide) (by decide) rfl ?_
    rintro _ _ ⟨r0, rfl, rfl, hr0, ir0⟩
    show Go _ _ _ _ _ _ _ _ _ _ _ _ h_1718 (0 + 0 + 0 + 0 + 0 + 1 + 1 + 2 + 0) (0 + 0 + 0 + 0 + 0 + 0 + 4 + 4 + 0) 128 #[.val (.int y0), .val (.int y1), .val (.int y2), .val (.int y3), .val (.int y4), .val (.int 0), .val (.int c0), .val (.int c1), .val (.int c2), .val (.int c3), .val (.ref a_1680), .val (.ref a_1699), .unset] [(.int r0)]
    refine Go.ifc (pc1 := 230) (pc2 := 131) at_128 (by decide) (by decide) rfl (fun (t0 : r0.toInt = 0) => ?_) (fun (t0 : r0.toInt ≠ 0) => ?_)
    · refine Go.iconst (pc' := 231) (v := (0 : Int32)) at_230 rfl rfl ?_
      refine Go.istore (pc' := 233) (Ls' := #[.val (.int y0), .val (.int y1), .val (.int y2), .val (.int y3), .val (.int y4), .val (.int 0), .val (.int c0), .val (.int c1), .val (.int c2), .val (.int c3), .val (.ref a_1680), .val (.ref a_1699), .val (.int 0)]) at_231 rfl rfl ?_
      refine Go.aload (pc' := 235) at_233 rfl rfl rfl ?_
      refine Go.callS (pc' := 238) (argsL := [(.ref a_1699)]) (rest := []) (W := 0) (own_w hw 30 rfl) (own_w hw 31 rfl) (own_w hw 32 rfl) (own_w hw 33 rfl) (by decide) (m_tx0_0 l Z a0 hw a_1699 o   cs fm h_1718 n0 z_1731 O_1732 hSCS hSAD hSHB hSLB hSFM hcs hfm f_1726 f1 f2 A ) at_235 rfl pd19 rfl rfl (Nat.le_of_eq rfl) (by decide) (by decide) (by decide) (by decide) rfl ?_
      rintro _ _ ⟨rt, rfl, rfl, hrt, irt⟩
      show Go _ _ _ _ _ _ _ _ _ _ _ _ h_1718 (0 + 0 + 0 + 0 + 0 + 1 + 1 + 2 + 0 + 0) (0 + 0 + 0 + 0 + 0 + 0 + 4 + 4 + 0 + 0) 238 #[.val (.int y0), .val (.int y1), .val (.int y2), .val (.int y3), .val (.int y4), .val (.int 0), .val (.int c0), .val (.int c1), .val (.int c2), .val (.int c3), .val (.ref a_1680), .val (.ref a_1699), .val (.int 0)] [(.int rt)]
      have ht : rt.toInt = 0 := hrt.resolve_right (fun t => own_b0 ir0 t0 ((own_l0 c0 c1 c2 c3).mp (irt.mp t)).1)
      refine Go.iload (pc' := 240) at_238 rfl rfl ?_
      refine Go.icmp (pc1 := 247) (pc2 := 243) at_240 (by decide) (by decide) rfl (fun (c_1736 : rt.toInt ≠ (0 : Int)) => ?_) (fun (c_1736 : rt.toInt = (0 : Int)) => ?_)
      · exact absurd ht c_1736
      refine Go.iconst (pc' := 244) (v := (1 : Int32)) at_243 rfl rfl ?_
      refine Go.goto (pc' := 248) at_244 (by decide) (by decide) ?_
      exact Go.retN (t := .boolean) at_248 rfl (by simp) rfl rfl (by decide) (by decide)
    · refine Go.iload (pc' := 133) at_131 rfl rfl ?_
      refine Go.iconst (pc' := 134) (v := (1 : Int32)) at_133 rfl rfl ?_
      refine Go.icmp (pc1 := 141) (pc2 := 137) at_134 (by decide) (by decide) rfl (fun (c_1737 : (0 : Int) ≤ (1 : Int)) => ?_) (fun (c_1737 : (1 : Int) < (0 : Int)) => ?_)
      rotate_left
      · exact absurd c_1737 (by decide)
      refine Go.iconst (pc' := 142) (v := (0 : Int32)) at_141 rfl rfl ?_
      refine Go.iconst (pc' := 143) (v := (1 : Int32)) at_142 rfl rfl ?_
      refine Go.iload (pc' := 145) at_143 rfl rfl ?_
      refine Go.iload (pc' := 147) at_145 rfl rfl ?_
      refine Go.iload (pc' := 149) at_147 rfl rfl ?_
      refine Go.iconst (pc' := 150) (v := (2 : Int32)) at_149 rfl rfl ?_
      refine Go.icmp (pc1 := 157) (pc2 := 153) at_150 (by decide) (by decide) rfl (fun (c_1738 : (0 : Int) ≤ (2 : Int)) => ?_) (fun (c_1738 : (2 : Int) < (0 : Int)) => ?_)
      rotate_left
      · exact absurd c_1738 (by decide)
      refine Go.iconst (pc' := 158) (v := (0 : Int32)) at_157 rfl rfl ?_
      refine Go.iload (pc' := 160) at_158 rfl rfl ?_
      refine Go.callS (pc' := 163) (argsL := [(.int 0), (.int 1), (.int c0), (.int c1), (.int 0), (.int c2)]) (rest := []) (W := 0) (own_w hw 27 rfl) (own_w hw 28 rfl) (own_w hw 3 rfl) (own_w hw 29 rfl) (by decide) (m_ok l Z a0 hw (0 : Int32) (1 : Int32) c0 c1 (0 : Int32) c2 h_1718 n0 z_1731) at_160 rfl pd18 rfl rfl (Nat.le_of_eq rfl) (by decide) (by decide) (by decide) (by decide) rfl ?_
      rintro _ _ ⟨r1, rfl, rfl, hr1, ir1⟩
      show Go _ _ _ _ _ _ _ _ _ _ _ _ h_1718 (0 + 0 + 0 + 0 + 0 + 1 + 1 + 2 + 0 + 0) (0 + 0 + 0 + 0 + 0 + 0 + 4 + 4 + 0 + 0) 163 #[.val (.int y0), .val (.int y1), .val (.int y2), .val (.int y3), .val (.int y4), .val (.int 0), .val (.int c0), .val (.int c1), .val (.int c2), .val (.int c3), .val (.ref a_1680), .val (.ref a_1699), .unset] [(.int r1)]
      refine Go.ifc (pc1 := 230) (pc2 := 166) at_163 (by decide) (by decide) rfl (fun (t1 : r1.toInt = 0) => ?_) (fun (t1 : r1.toInt ≠ 0) => ?_)
      · refine Go.iconst (pc' := 231) (v := (0 : Int32)) at_230 rfl rfl ?_
        refine Go.istore (pc' := 233) (Ls' := #[.val (.int y0), .val (.int y1), .val (.int y2), .val (.int y3), .val (.int y4), .val (.int 0), .val (.int c0), .val (.int c1), .val (.int c2), .val (.int c3), .val (.ref a_1680), .val (.ref a_1699), .val (.int 0)]) at_231 rfl rfl ?_
        refine Go.aload (pc' := 235) at_233 rfl rfl rfl ?_
        refine Go.callS (pc' := 238) (argsL := [(.ref a_1699)]) (rest := []) (W := 0) (own_w hw 30 rfl) (own_w hw 31 rfl) (own_w hw 32 rfl) (own_w hw 33 rfl) (by decide) (m_tx0_0 l Z a0 hw a_1699 o   cs fm h_1718 n0 z_1731 O_1732 hSCS hSAD hSHB hSLB hSFM hcs hfm f_1726 f1 f2 A ) at_235 rfl pd19 rfl rfl (Nat.le_of_eq rfl) (by decide) (by decide) (by decide) (by decide) rfl ?_
        rintro _ _ ⟨rt, rfl, rfl, hrt, irt⟩
        show Go _ _ _ _ _ _ _ _ _ _ _ _ h_1718 (0 + 0 + 0 + 0 + 0 + 1 + 1 + 2 + 0 + 0 + 0) (0 + 0 + 0 + 0 + 0 + 0 + 4 + 4 + 0 + 0 + 0) 238 #[.val (.int y0), .val (.int y1), .val (.int y2), .val (.int y3), .val (.int y4), .val (.int 0), .val (.int c0), .val (.int c1), .val (.int c2), .val (.int c3), .val (.ref a_1680), .val (.ref a_1699), .val (.int 0)] [(.int rt)]
        have ht : rt.toInt = 0 := hrt.resolve_right (fun t => own_b0 ir1 t1 ((own_l0 c0 c1 c2 c3).mp (irt.mp t)).2.1)
        refine Go.iload (pc' := 240) at_238 rfl rfl ?_
        refine Go.icmp (pc1 := 247) (pc2 := 243) at_240 (by decide) (by decide) rfl (fun (c_1739 : rt.toInt ≠ (0 : Int)) => ?_) (fun (c_1739 : rt.toInt = (0 : Int)) => ?_)
        · exact absurd ht c_1739
        refine Go.iconst (pc' := 244) (v := (1 : Int32)) at_243 rfl rfl ?_
        refine Go.goto (pc' := 248) at_244 (by decide) (by decide) ?_
        exact Go.retN (t := .boolean) at_248 rfl (by simp) rfl rfl (by decide) (by decide)
      · refine Go.iload (pc' := 168) at_166 rfl rfl ?_
        refine Go.iconst (pc' := 169) (v := (2 : Int32)) at_168 rfl rfl ?_
        refine Go.icmp (pc1 := 176) (pc2 := 172) at_169 (by decide) (by decide) rfl (fun (c_1740 : (0 : Int) ≤ (2 : Int)) => ?_) (fun (c_1740 : (2 : Int) < (0 : Int)) => ?_)
        rotate_left
        · exact absurd c_1740 (by decide)
        refine Go.iconst (pc' := 177) (v := (0 : Int32)) at_176 rfl rfl ?_
        refine Go.iconst (pc' := 178) (v := (1 : Int32)) at_177 rfl rfl ?_
        refine Go.iload (pc' := 180) at_178 rfl rfl ?_
        refine Go.iload (pc' := 182) at_180 rfl rfl ?_
        refine Go.iload (pc' := 184) at_182 rfl rfl ?_
        refine Go.iconst (pc' := 185) (v := (3 : Int32)) at_184 rfl rfl ?_
        refine Go.icmp (pc1 := 192) (pc2 := 188) at_185 (by decide) (by decide) rfl (fun (c_1741 : (0 : Int) ≤ (3 : Int)) => ?_) (fun (c_1741 : (3 : Int) < (0 : Int)) => ?_)
        rotate_left
        · exact absurd c_1741 (by decide)
        refine Go.iconst (pc' := 193) (v := (0 : Int32)) at_192 rfl rfl ?_
        refine Go.iload (pc' := 195) at_193 rfl rfl ?_
        refine Go.callS (pc' := 198) (argsL := [(.int 0), (.int 1), (.int c1), (.int c2), (.int 0), (.int c3)]) (rest := []) (W := 0) (own_w hw 27 rfl) (own_w hw 28 rfl) (own_w hw 3 rfl) (own_w hw 29 rfl) (by decide) (m_ok l Z a0 hw (0 : Int32) (1 : Int32) c1 c2 (0 : Int32) c3 h_1718 n0 z_1731) at_195 rfl pd18 rfl rfl (Nat.le_of_eq rfl) (by decide) (by decide) (by decide) (by decide) rfl ?_
        rintro _ _ ⟨r2, rfl, rfl, hr2, ir2⟩
        show Go _ _ _ _ _ _ _ _ _ _ _ _ h_1718 (0 + 0 + 0 + 0 + 0 + 1 + 1 + 2 + 0 + 0 + 0) (0 + 0 + 0 + 0 + 0 + 0 + 4 + 4 + 0 + 0 + 0) 198 #[.val (.int y0), .val (.int y1), .val (.int y2), .val (.int y3), .val (.int y4), .val (.int 0), .val (.int c0), .val (.int c1), .val (.int c2), .val (.int c3), .val (.ref a_1680), .val (.ref a_1699), .unset] [(.int r2)]
        refine Go.ifc (pc1 := 230) (pc2 := 201) at_198 (by decide) (by decide) rfl (fun (t2 : r2.toInt = 0) => ?_) (fun (t2 : r2.toInt ≠ 0) => ?_)
        · refine Go.iconst (pc' := 231) (v := (0 : Int32)) at_230 rfl rfl ?_
          refine Go.istore (pc' := 233) (Ls' := #[.val (.int y0), .val (.int y1), .val (.int y2), .val (.int y3), .val (.int y4), .val (.int 0), .val (.int c0), .val (.int c1), .val (.int c2), .val (.int c3), .val (.ref a_1680), .val (.ref a_1699), .val (.int 0)]) at_231 rfl rfl ?_
          refine Go.aload (pc' := 235) at_233 rfl rfl rfl ?_
          refine Go.callS (pc' := 238) (argsL := [(.ref a_1699)]) (rest := []) (W := 0) (own_w hw 30 rfl) (own_w hw 31 rfl) (own_w hw 32 rfl) (own_w hw 33 rfl) (by decide) (m_tx0_0 l Z a0 hw a_1699 o   cs fm h_1718 n0 z_1731 O_1732 hSCS hSAD hSHB hSLB hSFM hcs hfm f_1726 f1 f2 A ) at_235 rfl pd19 rfl rfl (Nat.le_of_eq rfl) (by decide) (by decide) (by decide) (by decide) rfl ?_
          rintro _ _ ⟨rt, rfl, rfl, hrt, irt⟩
          show Go _ _ _ _ _ _ _ _ _ _ _ _ h_1718 (0 + 0 + 0 + 0 + 0 + 1 + 1 + 2 + 0 + 0 + 0 + 0) (0 + 0 + 0 + 0 + 0 + 0 + 4 + 4 + 0 + 0 + 0 + 0) 238 #[.val (.int y0), .val (.int y1), .val (.int y2), .val (.int y3), .val (.int y4), .val (.int 0), .val (.int c0), .val (.int c1), .val (.int c2), .val (.int c3), .val (.ref a_1680), .val (.ref a_1699), .val (.int 0)] [(.int rt)]
          have ht : rt.toInt = 0 := hrt.resolve_right (fun t => own_b0 ir2 t2 ((own_l0 c0 c1 c2 c3).mp (irt.mp t)).2.2.1)
          refine Go.iload (pc' := 240) at_238 rfl rfl ?_
          refine Go.icmp (pc1 := 247) (pc2 := 243) at_240 (by decide) (by decide) rfl (fun (c_1742 : rt.toInt ≠ (0 : Int)) => ?_) (fun (c_1742 : rt.toInt = (0 : Int)) => ?_)
          · exact absurd ht c_1742
          refine Go.iconst (pc' := 244) (v := (1 : Int32)) at_243 rfl rfl ?_
          refine Go.goto (pc' := 248) at_244 (by decide) (by decide) ?_
          exact Go.retN (t := .boolean) at_248 rfl (by simp) rfl rfl (by decide) (by decide)
        · refine Go.iload (pc' := 203) at_201 rfl rfl ?_
          refine Go.iconst (pc' := 204) (v := (3 : Int32)) at_203 rfl rfl ?_
          refine Go.icmp (pc1 := 211) (pc2 := 207) at_204 (by decide) (by decide) rfl (fun (c_1743 : (0 : Int) ≤ (3 : Int)) => ?_) (fun (c_1743 : (3 : Int) < (0 : Int)) => ?_)
          rotate_left
          · exact absurd c_1743 (by decide)
          refine Go.iconst (pc' := 212) (v := (0 : Int32)) at_211 rfl rfl ?_
          refine Go.iconst (pc' := 213) (v := (1 : Int32)) at_212 rfl rfl ?_
          refine Go.iload (pc' := 215) at_213 rfl rfl ?_
          refine Go.iload (pc' := 217) at_215 rfl rfl ?_
          refine Go.iconst (pc' := 218) (v := (0 : Int32)) at_217 rfl rfl ?_
          refine Go.iload (pc' := 220) at_218 rfl rfl ?_
          refine Go.callS (pc' := 223) (argsL := [(.int 0), (.int 1), (.int c2), (.int c3), (.int 0), (.int c3)]) (rest := []) (W := 0) (own_w hw 27 rfl) (own_w hw 28 rfl) (own_w hw 3 rfl) (own_w hw 29 rfl) (by decide) (m_ok l Z a0 hw (0 : Int32) (1 : Int32) c2 c3 (0 : Int32) c3 h_1718 n0 z_1731) at_220 rfl pd18 rfl rfl (Nat.le_of_eq rfl) (by decide) (by decide) (by decide) (by decide) rfl ?_
          rintro _ _ ⟨r3, rfl, rfl, hr3, ir3⟩
          show Go _ _ _ _ _ _ _ _ _ _ _ _ h_1718 (0 + 0 + 0 + 0 + 0 + 1 + 1 + 2 + 0 + 0 + 0 + 0) (0 + 0 + 0 + 0 + 0 + 0 + 4 + 4 + 0 + 0 + 0 + 0) 223 #[.val (.int y0), .val (.int y1), .val (.int y2), .val (.int y3), .val (.int y4), .val (.int 0), .val (.int c0), .val (.int c1), .val (.int c2), .val (.int c3), .val (.ref a_1680), .val (.ref a_1699), .unset] [(.int r3)]
          refine Go.ifc (pc1 := 230) (pc2 := 226) at_223 (by decide) (by decide) rfl (fun (t3 : r3.toInt = 0) => ?_) (fun (t3 : r3.toInt ≠ 0) => ?_)
          · refine Go.iconst (pc' := 231) (v := (0 : Int32)) at_230 rfl rfl ?_
            refine Go.istore (pc' := 233) (Ls' := #[.val (.int y0), .val (.int y1), .val (.int y2), .val (.int y3), .val (.int y4), .val (.int 0), .val (.int c0), .val (.int c1), .val (.int c2), .val (.int c3), .val (.ref a_1680), .val (.ref a_1699), .val (.int 0)]) at_231 rfl rfl ?_
            refine Go.aload (pc' := 235) at_233 rfl rfl rfl ?_
            refine Go.callS (pc' := 238) (argsL := [(.ref a_1699)]) (rest := []) (W := 0) (own_w hw 30 rfl) (own_w hw 31 rfl) (own_w hw 32 rfl) (own_w hw 33 rfl) (by decide) (m_tx0_0 l Z a0 hw a_1699 o   cs fm h_1718 n0 z_1731 O_1732 hSCS hSAD hSHB hSLB hSFM hcs hfm f_1726 f1 f2 A ) at_235 rfl pd19 rfl rfl (Nat.le_of_eq rfl) (by decide) (by decide) (by decide) (by decide) rfl ?_
            rintro _ _ ⟨rt, rfl, rfl, hrt, irt⟩
            show Go _ _ _ _ _ _ _ _ _ _ _ _ h_1718 (0 + 0 + 0 + 0 + 0 + 1 + 1 + 2 + 0 + 0 + 0 + 0 + 0) (0 + 0 + 0 + 0 + 0 + 0 + 4 + 4 + 0 + 0 + 0 + 0 + 0) 238 #[.val (.int y0), .val (.int y1), .val (.int y2), .val (.int y3), .val (.int y4), .val (.int 0), .val (.int c0), .val (.int c1), .val (.int c2), .val (.int c3), .val (.ref a_1680), .val (.ref a_1699), .val (.int 0)] [(.int rt)]
            have ht : rt.toInt = 0 := hrt.resolve_right (fun t => own_b0 ir3 t3 ((own_l0 c0 c1 c2 c3).mp (irt.mp t)).2.2.2)
            refine Go.iload (pc' := 240) at_238 rfl rfl ?_
            refine Go.icmp (pc1 := 247) (pc2 := 243) at_240 (by decide) (by decide) rfl (fun (c_1744 : rt.toInt ≠ (0 : Int)) => ?_) (fun (c_1744 : rt.toInt = (0 : Int)) => ?_)
            · exact absurd ht c_1744
            refine Go.iconst (pc' := 244) (v := (1 : Int32)) at_243 rfl rfl ?_
            refine Go.goto (pc' := 248) at_244 (by decide) (by decide) ?_
            exact Go.retN (t := .boolean) at_248 rfl (by simp) rfl rfl (by decide) (by decide)
          · refine Go.iconst (pc' := 227) (v := (1 : Int32)) at_226 rfl rfl ?_
            refine Go.goto (pc' := 231) at_227 (by decide) (by decide) ?_
            refine Go.istore (pc' := 233) (Ls' := #[.val (.int y0), .val (.int y1), .val (.int y2), .val (.int y3), .val (.int y4), .val (.int 0), .val (.int c0), .val (.int c1), .val (.int c2), .val (.int c3), .val (.ref a_1680), .val (.ref a_1699), .val (.int 1)]) at_231 rfl rfl ?_
            refine Go.aload (pc' := 235) at_233 rfl rfl rfl ?_
            refine Go.callS (pc' := 238) (argsL := [(.ref a_1699)]) (rest := []) (W := 0) (own_w hw 30 rfl) (own_w hw 31 rfl) (own_w hw 32 rfl) (own_w hw 33 rfl) (by decide) (m_tx0_0 l Z a0 hw a_1699 o   cs fm h_1718 n0 z_1731 O_1732 hSCS hSAD hSHB hSLB hSFM hcs hfm f_1726 f1 f2 A ) at_235 rfl pd19 rfl rfl (Nat.le_of_eq rfl) (by decide) (by decide) (by decide) (by decide) rfl ?_
            rintro _ _ ⟨rt, rfl, rfl, hrt, irt⟩
            show Go _ _ _ _ _ _ _ _ _ _ _ _ h_1718 (0 + 0 + 0 + 0 + 0 + 1 + 1 + 2 + 0 + 0 + 0 + 0 + 0) (0 + 0 + 0 + 0 + 0 + 0 + 4 + 4 + 0 + 0 + 0 + 0 + 0) 238 #[.val (.int y0), .val (.int y1), .val (.int y2), .val (.int y3), .val (.int y4), .val (.int 0), .val (.int c0), .val (.int c1), .val (.int c2), .val (.int c3), .val (.ref a_1680), .val (.ref a_1699), .val (.int 1)] [(.int rt)]
            have ht : rt.toInt = 1 := irt.mpr ((own_l0 c0 c1 c2 c3).mpr ⟨own_b1 ir0 hr0 t0, own_b1 ir1 hr1 t1, own_b1 ir2 hr2 t2, own_b1 ir3 hr3 t3⟩)
            refine Go.iload (pc' := 240) at_238 rfl rfl ?_
            refine Go.icmp (pc1 := 247) (pc2 := 243) at_240 (by decide) (by decide) rfl (fun (c_1745 : rt.toInt ≠ (1 : Int)) => ?_) (fun (c_1745 : rt.toInt = (1 : Int)) => ?_)
            · exact absurd ht c_1745
            refine Go.iconst (pc' := 244) (v := (1 : Int32)) at_243 rfl rfl ?_
            refine Go.goto (pc' := 248) at_244 (by decide) (by decide) ?_
            exact Go.retN (t := .boolean) at_248 rfl (by simp) rfl rfl (by decide) (by decide)
  · obtain rfl : k_1677 = (1 : Int32) := Int32.toInt_inj.mp k_1678
    refine Go.iload (pc' := 35) at_33 rfl rfl ?_
    refine Go.newA (pc' := 37) (k := 1) (ty := .char) (cap := 1) (own_w hw 5 rfl) rfl rfl (by decide) (by decide) at_35 (by decide) (by decide) rfl ?_
    intro h_1746 a_1747 q_1748 E_1749 A_1750
    have g_1752 : n0 ≤ a_1747 := q_1748 ▸ z0
    have z_1758 : n0 ≤ h_1746.size := Nat.le_trans z0 E_1749.1
    have O_1759 : Old Z n0 h_1746 := hO.ext E_1749
    have f_1753 := Sta.ext O_1759.2 hSCS
    have f_1754 := Sta.ext O_1759.2 hSAD
    have f_1755 := Sta.ext O_1759.2 hSHB
    have f_1756 := Sta.ext O_1759.2 hSLB
    have f_1757 := Sta.ext O_1759.2 hSFM
    have t_1760 : a_1747 < h_1746.size := A_1750.lt
    change Ary Z h_1746 a_1747 .char [(.int 0)] at A_1750
    refine Go.astore (pc' := 39) (Ls' := #[.val (.int y0), .val (.int y1), .val (.int y2), .val (.int y3), .val (.int y4), .val (.int 1), .val (.int c0), .val (.int c1), .val (.int c2), .val (.int c3), .val (.ref a_1747), .unset, .unset]) at_37 rfl rfl rfl ?_
    refine Go.iload (pc' := 41) at_39 rfl rfl ?_
    refine Go.ifc (pc1 := 50) (pc2 := 44) at_41 (by decide) (by decide) rfl (fun (c_1761 : (1 : Int) ≤ 0) => ?_) (fun (c_1761 : 0 < (1 : Int)) => ?_)
    · exact absurd c_1761 (by decide)
    refine Go.aload (pc' := 46) at_44 rfl rfl rfl ?_
    refine Go.iconst (pc' := 47) (v := (0 : Int32)) at_46 rfl rfl ?_
    refine Go.iload (pc' := 49) at_47 rfl rfl ?_
    refine Go.stC (pc' := 50) (k := 0) A_1750 rfl (by show 0 < 1; decide) at_49 g_1752 rfl ?_
    intro h_1762 W_1763 A_1764
    rw [nc0] at W_1763 A_1764
    have t_1770 : a_1747 < h_1762.size := Nat.lt_of_lt_of_le t_1760 (Nat.le_of_eq W_1763.size.symm)
    have z_1771 : n0 ≤ h_1762.size := Nat.le_trans z_1758 (Nat.le_of_eq W_1763.size.symm)
    have O_1772 : Old Z n0 h_1762 := O_1759.wr W_1763 g_1752
    have f_1765 := Sta.ext O_1772.2 hSCS
    have f_1766 := Sta.ext O_1772.2 hSAD
    have f_1767 := Sta.ext O_1772.2 hSHB
    have f_1768 := Sta.ext O_1772.2 hSLB
    have f_1769 := Sta.ext O_1772.2 hSFM
    change Ary Z h_1762 a_1747 .char [(.int c0)] at A_1764
    refine Go.iload (pc' := 52) at_50 rfl rfl ?_
    refine Go.iconst (pc' := 53) (v := (1 : Int32)) at_52 rfl rfl ?_
    refine Go.icmp (pc1 := 62) (pc2 := 56) at_53 (by decide) (by decide) rfl (fun (c_1773 : (1 : Int) ≤ (1 : Int)) => ?_) (fun (c_1773 : (1 : Int) < (1 : Int)) => ?_)
    rotate_left
    · exact absurd c_1773 (by decide)
    refine Go.iload (pc' := 64) at_62 rfl rfl ?_
    refine Go.iconst (pc' := 65) (v := (2 : Int32)) at_64 rfl rfl ?_
    refine Go.icmp (pc1 := 74) (pc2 := 68) at_65 (by decide) (by decide) rfl (fun (c_1774 : (1 : Int) ≤ (2 : Int)) => ?_) (fun (c_1774 : (2 : Int) < (1 : Int)) => ?_)
    rotate_left
    · exact absurd c_1774 (by decide)
    refine Go.iload (pc' := 76) at_74 rfl rfl ?_
    refine Go.iconst (pc' := 77) (v := (3 : Int32)) at_76 rfl rfl ?_
    refine Go.icmp (pc1 := 86) (pc2 := 80) at_77 (by decide) (by decide) rfl (fun (c_1775 : (1 : Int) ≤ (3 : Int)) => ?_) (fun (c_1775 : (3 : Int) < (1 : Int)) => ?_)
    rotate_left
    · exact absurd c_1775 (by decide)
    refine Go.newO (pc' := 89) (own_w hw 6 rfl) (own_w hw 7 rfl) (own_w hw 8 rfl) at_86 (by decide) (by decide) rfl ?_
    intro h_1776 a_1777 q_1778 E_1779 A_1780 D_1781
    have n_1782 : a_1747 ≠ a_1777 := Nat.ne_of_lt (q_1778 ▸ t_1770)
    have g_1783 : n0 ≤ a_1777 := q_1778 ▸ z_1771
    have f_1789 : Ary Z h_1776 a_1747 .char [(.int c0)] := A_1764.sm (Sm.ext E_1779)
    have t_1790 : a_1747 < h_1776.size := Nat.lt_of_lt_of_le t_1770 E_1779.1
    have z_1791 : n0 ≤ h_1776.size := Nat.le_trans z_1771 E_1779.1
    have O_1792 : Old Z n0 h_1776 := O_1772.ext E_1779
    have f_1784 := Sta.ext O_1792.2 hSCS
    have f_1785 := Sta.ext O_1792.2 hSAD
    have f_1786 := Sta.ext O_1792.2 hSHB
    have f_1787 := Sta.ext O_1792.2 hSLB
    have f_1788 := Sta.ext O_1792.2 hSFM
    have t_1793 : a_1777 < h_1776.size := A_1780.lt
    have f_1794 : Fld Z h_1776 a_1777 "java/lang/String" "value" "[B" .null := D_1781 (Or.inr (own_w hw 21 rfl)) (ty := (.array .byte)) (by decide)
    have f_1795 : Fld Z h_1776 a_1777 "java/lang/String" "coder" "B" (.int 0) := D_1781 (Or.inr (own_w hw 22 rfl)) (ty := .byte) (by decide)
    refine Go.dup (pc' := 90) at_89 rfl rfl ?_
    refine Go.aload (pc' := 92) at_90 rfl rfl rfl ?_
    refine Go.callN (pc' := 95) (argsL := [(.ref a_1747)]) (rest := [(.ref a_1777)]) (W := 1) rfl (own_w hw 9 rfl) (own_w hw 10 rfl) (own_w hw 8 rfl) (own_w hw 11 rfl) (by decide) (m_s1_1 l Z a0 hw a_1777 a_1747 c0 cs h_1776 n0 z_1791 O_1792 hSCS hSAD hSHB hSLB hcs A_1780 f_1794 f_1795 g_1783 f_1789 hc0 ) at_92 rfl pd17 rfl rfl (Nat.le_of_eq rfl) (by decide) (by decide) (by decide) (by decide) rfl ?_
    rintro _ h_1796 ⟨rfl, K_1797, o, f1, lo, hs⟩
    have f_1798 : Ary Z h_1796 a_1747 .char [(.int c0)] := f_1789.sm (Sm.keep K_1797 (ninS n_1782 nin0))
    have f_1804 : Exa Z h_1796 a_1777 "java/lang/String" := A_1780.keep K_1797
    have t_1807 : a_1747 < h_1796.size := Nat.lt_of_lt_of_le t_1790 K_1797.1
    have t_1808 : a_1777 < h_1796.size := Nat.lt_of_lt_of_le t_1793 K_1797.1
    have z_1809 : n0 ≤ h_1796.size := Nat.le_trans z_1791 K_1797.1
    have O_1810 : Old Z n0 h_1796 := O_1792.keep K_1797 (allS g_1783 all0)
    have f_1799 := Sta.ext O_1810.2 hSCS
    have f_1800 := Sta.ext O_1810.2 hSAD
    have f_1801 := Sta.ext O_1810.2 hSHB
    have f_1802 := Sta.ext O_1810.2 hSLB
    have f_1803 := Sta.ext O_1810.2 hSFM
    show Go _ _ _ _ _ _ _ _ _ _ _ _ h_1796 (0 + 0 + 0 + 0 + 0 + 1 + 1 + 2) (0 + 0 + 0 + 0 + 0 + 1 + 4 + 3) 95 #[.val (.int y0), .val (.int y1), .val (.int y2), .val (.int y3), .val (.int y4), .val (.int 1), .val (.int c0), .val (.int c1), .val (.int c2), .val (.int c3), .val (.ref a_1747), .unset, .unset] [(.ref a_1777)]
    rcases hs with ⟨f2, b0, A, e0⟩ | ⟨f2, l0, g0, A, e0⟩
    · have n_1811 : a_1777 ≠ o := by obtain ⟨_, Ag, -⟩ := A; exact ne_arr f_1804 (own_w hw 7 rfl) Ag
      refine Go.astore (pc' := 97) (Ls' := #[.val (.int y0), .val (.int y1), .val (.int y2), .val (.int y3), .val (.int y4), .val (.int 1), .val (.int c0), .val (.int c1), .val (.int c2), .val (.int c3), .val (.ref a_1747), .val (.ref a_1777), .unset]) at_95 rfl rfl rfl ?_
      refine Go.iload (pc' := 99) at_97 rfl rfl ?_
      refine Go.ifc (pc1 := 106) (pc2 := 102) at_99 (by decide) (by decide) rfl (fun (c_1812 : (1 : Int) ≤ 0) => ?_) (fun (c_1812 : 0 < (1 : Int)) => ?_)
      · exact absurd c_1812 (by decide)
      refine Go.iconst (pc' := 103) (v := (1 : Int32)) at_102 rfl rfl ?_
      refine Go.goto (pc' := 107) at_103 (by decide) (by decide) ?_
      refine Go.iconst (pc' := 108) (v := (0 : Int32)) at_107 rfl rfl ?_
      refine Go.iload (pc' := 110) at_108 rfl rfl ?_
      refine Go.iload (pc' := 112) at_110 rfl rfl ?_
      refine Go.iload (pc' := 114) at_112 rfl rfl ?_
      refine Go.iconst (pc' := 115) (v := (1 : Int32)) at_114 rfl rfl ?_
      refine Go.icmp (pc1 := 122) (pc2 := 118) at_115 (by decide) (by decide) rfl (fun (c_1813 : (1 : Int) ≤ (1 : Int)) => ?_) (fun (c_1813 : (1 : Int) < (1 : Int)) => ?_)
      rotate_left
      · exact absurd c_1813 (by decide)
      refine Go.iconst (pc' := 123) (v := (0 : Int32)) at_122 rfl rfl ?_
      refine Go.iload (pc' := 125) at_123 rfl rfl ?_
      refine Go.callS (pc' := 128) (argsL := [(.int 1), (.int 0), (.int c0), (.int c0), (.int 0), (.int c1)]) (rest := []) (W := 0) (own_w hw 27 rfl) (own_w hw 28 rfl) (own_w hw 3 rfl) (own_w hw 29 rfl) (by decide) (m_ok l Z a0 hw (1 : Int32) (0 : Int32) c0 c0 (0 : Int32) c1 h_1796 n0 z_1809) at_125 rfl pd18 rfl rfl (Nat.le_of_eq rfl) (by decide) (by decide) (by decide) (by decide) rfl ?_
      rintro _ _ ⟨r0, rfl, rfl, hr0, ir0⟩
      show Go _ _ _ _ _ _ _ _ _ _ _ _ h_1796 (0 + 0 + 0 + 0 + 0 + 1 + 1 + 2 + 0) (0 + 0 + 0 + 0 + 0 + 1 + 4 + 3 + 0) 128 #[.val (.int y0), .val (.int y1), .val (.int y2), .val (.int y3), .val (.int y4), .val (.int 1), .val (.int c0), .val (.int c1), .val (.int c2), .val (.int c3), .val (.ref a_1747), .val (.ref a_1777), .unset] [(.int r0)]
      refine Go.ifc (pc1 := 230) (pc2 := 131) at_128 (by decide) (by decide) rfl (fun (t0 : r0.toInt = 0) => ?_) (fun (t0 : r0.toInt ≠ 0) => ?_)
      · refine Go.iconst (pc' := 231) (v := (0 : Int32)) at_230 rfl rfl ?_
        refine Go.istore (pc' := 233) (Ls' := #[.val (.int y0), .val (.int y1), .val (.int y2), .val (.int y3), .val (.int y4), .val (.int 1), .val (.int c0), .val (.int c1), .val (.int c2), .val (.int c3), .val (.ref a_1747), .val (.ref a_1777), .val (.int 0)]) at_231 rfl rfl ?_
        refine Go.aload (pc' := 235) at_233 rfl rfl rfl ?_
        refine Go.callS (pc' := 238) (argsL := [(.ref a_1777)]) (rest := []) (W := 0) (own_w hw 30 rfl) (own_w hw 31 rfl) (own_w hw 32 rfl) (own_w hw 33 rfl) (by decide) (m_tx1_0 l Z a0 hw a_1777 o b0 c0 cs fm h_1796 n0 z_1809 O_1810 hSCS hSAD hSHB hSLB hSFM hcs hfm f_1804 f1 f2 A e0) at_235 rfl pd19 rfl rfl (Nat.le_of_eq rfl) (by decide) (by decide) (by decide) (by decide) rfl ?_
        rintro _ _ ⟨rt, rfl, rfl, hrt, irt⟩
        show Go _ _ _ _ _ _ _ _ _ _ _ _ h_1796 (0 + 0 + 0 + 0 + 0 + 1 + 1 + 2 + 0 + 0) (0 + 0 + 0 + 0 + 0 + 1 + 4 + 3 + 0 + 0) 238 #[.val (.int y0), .val (.int y1), .val (.int y2), .val (.int y3), .val (.int y4), .val (.int 1), .val (.int c0), .val (.int c1), .val (.int c2), .val (.int c3), .val (.ref a_1747), .val (.ref a_1777), .val (.int 0)] [(.int rt)]
        have ht : rt.toInt = 0 := hrt.resolve_right (fun t => own_b0 ir0 t0 ((own_l1 c0 c1 c2 c3).mp (irt.mp t)).1)
        refine Go.iload (pc' := 240) at_238 rfl rfl ?_
        refine Go.icmp (pc1 := 247) (pc2 := 243) at_240 (by decide) (by decide) rfl (fun (c_1814 : rt.toInt ≠ (0 : Int)) => ?_) (fun (c_1814 : rt.toInt = (0 : Int)) => ?_)
        · exact absurd ht c_1814
        refine Go.iconst (pc' := 244) (v := (1 : Int32)) at_243 rfl rfl ?_
        refine Go.goto (pc' := 248) at_244 (by decide) (by decide) ?_
        exact Go.retN (t := .boolean) at_248 rfl (by simp) rfl rfl (by decide) (by decide)
      · refine Go.iload (pc' := 133) at_131 rfl rfl ?_
        refine Go.iconst (pc' := 134) (v := (1 : Int32)) at_133 rfl rfl ?_
        refine Go.icmp (pc1 := 141) (pc2 := 137) at_134 (by decide) (by decide) rfl (fun (c_1815 : (1 : Int) ≤ (1 : Int)) => ?_) (fun (c_1815 : (1 : Int) < (1 : Int)) => ?_)
        rotate_left
        · exact absurd c_1815 (by decide)
        refine Go.iconst (pc' := 142) (v := (0 : Int32)) at_141 rfl rfl ?_
        refine Go.iconst (pc' := 143) (v := (1 : Int32)) at_142 rfl rfl ?_
        refine Go.iload (pc' := 145) at_143 rfl rfl ?_
        refine Go.iload (pc' := 147) at_145 rfl rfl ?_
        refine Go.iload (pc' := 149) at_147 rfl rfl ?_
        refine Go.iconst (pc' := 150) (v := (2 : Int32)) at_149 rfl rfl ?_
        refine Go.icmp (pc1 := 157) (pc2 := 153) at_150 (by decide) (by decide) rfl (fun (c_1816 : (1 : Int) ≤ (2 : Int)) => ?_) (fun (c_1816 : (2 : Int) < (1 : Int)) => ?_)
        rotate_left
        · exact absurd c_1816 (by decide)
        refine Go.iconst (pc' := 158) (v := (0 : Int32)) at_157 rfl rfl ?_
        refine Go.iload (pc' := 160) at_158 rfl rfl ?_
        refine Go.callS (pc' := 163) (argsL := [(.int 0), (.int 1), (.int c0), (.int c1), (.int 0), (.int c2)]) (rest := []) (W := 0) (own_w hw 27 rfl) (own_w hw 28 rfl) (own_w hw 3 rfl) (own_w hw 29 rfl) (by decide) (m_ok l Z a0 hw (0 : Int32) (1 : Int32) c0 c1 (0 : Int32) c2 h_1796 n0 z_1809) at_160 rfl pd18 rfl rfl (Nat.le_of_eq rfl) (by decide) (by decide) (by decide) (by decide) rfl ?_
        rintro _ _ ⟨r1, rfl, rfl, hr1, ir1⟩
        show Go _ _ _ _ _ _ _ _ _ _ _ _ h_1796 (0 + 0 + 0 + 0 + 0 + 1 + 1 + 2 + 0 + 0) (0 + 0 + 0 + 0 + 0 + 1 + 4 + 3 + 0 + 0) 163 #[.val (.int y0), .val (.int y1), .val (.int y2), .val (.int y3), .val (.int y4), .val (.int 1), .val (.int c0), .val (.int c1), .val (.int c2), .val (.int c3), .val (.ref a_1747), .val (.ref a_1777), .unset] [(.int r1)]
        refine Go.ifc (pc1 := 230) (pc2 := 166) at_163 (by decide) (by decide) rfl (fun (t1 : r1.toInt = 0) => ?_) (fun (t1 : r1.toInt ≠ 0) => ?_)
        · refine Go.iconst (pc' := 231) (v := (0 : Int32)) at_230 rfl rfl ?_
          refine Go.istore (pc' := 233) (Ls' := #[.val (.int y0), .val (.int y1), .val (.int y2), .val (.int y3), .val (.int y4), .val (.int 1), .val (.int c0), .val (.int c1), .val (.int c2), .val (.int c3), .val (.ref a_1747), .val (.ref a_1777), .val (.int 0)]) at_231 rfl rfl ?_
          refine Go.aload (pc' := 235) at_233 rfl rfl rfl ?_
          refine Go.callS (pc' := 238) (argsL := [(.ref a_1777)]) (rest := []) (W := 0) (own_w hw 30 rfl) (own_w hw 31 rfl) (own_w hw 32 rfl) (own_w hw 33 rfl) (by decide) (m_tx1_0 l Z a0 hw a_1777 o b0 c0 cs fm h_1796 n0 z_1809 O_1810 hSCS hSAD hSHB hSLB hSFM hcs hfm f_1804 f1 f2 A e0) at_235 rfl pd19 rfl rfl (Nat.le_of_eq rfl) (by decide) (by decide) (by decide) (by decide) rfl ?_
          rintro _ _ ⟨rt, rfl, rfl, hrt, irt⟩
          show Go _ _ _ _ _ _ _ _ _ _ _ _ h_1796 (0 + 0 + 0 + 0 + 0 + 1 + 1 + 2 + 0 + 0 + 0) (0 + 0 + 0 + 0 + 0 + 1 + 4 + 3 + 0 + 0 + 0) 238 #[.val (.int y0), .val (.int y1), .val (.int y2), .val (.int y3), .val (.int y4), .val (.int 1), .val (.int c0), .val (.int c1), .val (.int c2), .val (.int c3), .val (.ref a_1747), .val (.ref a_1777), .val (.int 0)] [(.int rt)]
          have ht : rt.toInt = 0 := hrt.resolve_right (fun t => own_b0 ir1 t1 ((own_l1 c0 c1 c2 c3).mp (irt.mp t)).2.1)
          refine Go.iload (pc' := 240) at_238 rfl rfl ?_
          refine Go.icmp (pc1 := 247) (pc2 := 243) at_240 (by decide) (by decide) rfl (fun (c_1817 : rt.toInt ≠ (0 : Int)) => ?_) (fun (c_1817 : rt.toInt = (0 : Int)) => ?_)
          · exact absurd ht c_1817
          refine Go.iconst (pc' := 244) (v := (1 : Int32)) at_243 rfl rfl ?_
          refine Go.goto (pc' := 248) at_244 (by decide) (by decide) ?_
          exact Go.retN (t := .boolean) at_248 rfl (by simp) rfl rfl (by decide) (by decide)
        · refine Go.iload (pc' := 168) at_166 rfl rfl ?_
          refine Go.iconst (pc' := 169) (v := (2 : Int32)) at_168 rfl rfl ?_
          refine Go.icmp (pc1 := 176) (pc2 := 172) at_169 (by decide) (by decide) rfl (fun (c_1818 : (1 : Int) ≤ (2 : Int)) => ?_) (fun (c_1818 : (2 : Int) < (1 : Int)) => ?_)
          rotate_left
          · exact absurd c_1818 (by decide)
          refine Go.iconst (pc' := 177) (v := (0 : Int32)) at_176 rfl rfl ?_
          refine Go.iconst (pc' := 178) (v := (1 : Int32)) at_177 rfl rfl ?_
          refine Go.iload (pc' := 180) at_178 rfl rfl ?_
          refine Go.iload (pc' := 182) at_180 rfl rfl ?_
          refine Go.iload (pc' := 184) at_182 rfl rfl ?_
          refine Go.iconst (pc' := 185) (v := (3 : Int32)) at_184 rfl rfl ?_
          refine Go.icmp (pc1 := 192) (pc2 := 188) at_185 (by decide) (by decide) rfl (fun (c_1819 : (1 : Int) ≤ (3 : Int)) => ?_) (fun (c_1819 : (3 : Int) < (1 : Int)) => ?_)
          rotate_left
          · exact absurd c_1819 (by decide)
          refine Go.iconst (pc' := 193) (v := (0 : Int32)) at_192 rfl rfl ?_
          refine Go.iload (pc' := 195) at_193 rfl rfl ?_
          refine Go.callS (pc' := 198) (argsL := [(.int 0), (.int 1), (.int c1), (.int c2), (.int 0), (.int c3)]) (rest := []) (W := 0) (own_w hw 27 rfl) (own_w hw 28 rfl) (own_w hw 3 rfl) (own_w hw 29 rfl) (by decide) (m_ok l Z a0 hw (0 : Int32) (1 : Int32) c1 c2 (0 : Int32) c3 h_1796 n0 z_1809) at_195 rfl pd18 rfl rfl (Nat.le_of_eq rfl) (by decide) (by decide) (by decide) (by decide) rfl ?_
          rintro _ _ ⟨r2, rfl, rfl, hr2, ir2⟩
          show Go _ _ _ _ _ _ _ _ _ _ _ _ h_1796 (0 + 0 + 0 + 0 + 0 + 1 + 1 + 2 + 0 + 0 + 0) (0 + 0 + 0 + 0 + 0 + 1 + 4 + 3 + 0 + 0 + 0) 198 #[.val (.int y0), .val (.int y1), .val (.int y2), .val (.int y3), .val (.int y4), .val (.int 1), .val (.int c0), .val (.int c1), .val (.int c2), .val (.int c3), .val (.ref a_1747), .val (.ref a_1777), .unset] [(.int r2)]
          refine Go.ifc (pc1 := 230) (pc2 := 201) at_198 (by decide) (by decide) rfl (fun (t2 : r2.toInt = 0) => ?_) (fun (t2 : r2.toInt ≠ 0) => ?_)
          · refine Go.iconst (pc' := 231) (v := (0 : Int32)) at_230 rfl rfl ?_
            refine Go.istore (pc' := 233) (Ls' := #[.val (.int y0), .val (.int y1), .val (.int y2), .val (.int y3), .val (.int y4), .val (.int 1), .val (.int c0), .val (.int c1), .val (.int c2), .val (.int c3), .val (.ref a_1747), .val (.ref a_1777), .val (.int 0)]) at_231 rfl rfl ?_
            refine Go.aload (pc' := 235) at_233 rfl rfl rfl ?_
            refine Go.callS (pc' := 238) (argsL := [(.ref a_1777)]) (rest := []) (W := 0) (own_w hw 30 rfl) (own_w hw 31 rfl) (own_w hw 32 rfl) (own_w hw 33 rfl) (by decide) (m_tx1_0 l Z a0 hw a_1777 o b0 c0 cs fm h_1796 n0 z_1809 O_1810 hSCS hSAD hSHB hSLB hSFM hcs hfm f_1804 f1 f2 A e0) at_235 rfl pd19 rfl rfl (Nat.le_of_eq rfl) (by decide) (by decide) (by decide) (by decide) rfl ?_
            rintro _ _ ⟨rt, rfl, rfl, hrt, irt⟩
            show Go _ _ _ _ _ _ _ _ _ _ _ _ h_1796 (0 + 0 + 0 + 0 + 0 + 1 + 1 + 2 + 0 + 0 + 0 + 0) (0 + 0 + 0 + 0 + 0 + 1 + 4 + 3 + 0 + 0 + 0 + 0) 238 #[.val (.int y0), .val (.int y1), .val (.int y2), .val (.int y3), .val (.int y4), .val (.int 1), .val (.int c0), .val (.int c1), .val (.int c2), .val (.int c3), .val (.ref a_1747), .val (.ref a_1777), .val (.int 0)] [(.int rt)]
            have ht : rt.toInt = 0 := hrt.resolve_right (fun t => own_b0 ir2 t2 ((own_l1 c0 c1 c2 c3).mp (irt.mp t)).2.2.1)
            refine Go.iload (pc' := 240) at_238 rfl rfl ?_
            refine Go.icmp (pc1 := 247) (pc2 := 243) at_240 (by decide) (by decide) rfl (fun (c_1820 : rt.toInt ≠ (0 : Int)) => ?_) (fun (c_1820 : rt.toInt = (0 : Int)) => ?_)
            · exact absurd ht c_1820
            refine Go.iconst (pc' := 244) (v := (1 : Int32)) at_243 rfl rfl ?_
            refine Go.goto (pc' := 248) at_244 (by decide) (by decide) ?_
            exact Go.retN (t := .boolean) at_248 rfl (by simp) rfl rfl (by decide) (by decide)
          · refine Go.iload (pc' := 203) at_201 rfl rfl ?_
            refine Go.iconst (pc' := 204) (v := (3 : Int32)) at_203 rfl rfl ?_
            refine Go.icmp (pc1 := 211) (pc2 := 207) at_204 (by decide) (by decide) rfl (fun (c_1821 : (1 : Int) ≤ (3 : Int)) => ?_) (fun (c_1821 : (3 : Int) < (1 : Int)) => ?_)
            rotate_left
            · exact absurd c_1821 (by decide)
            refine Go.iconst (pc' := 212) (v := (0 : Int32)) at_211 rfl rfl ?_
            refine Go.iconst (pc' := 213) (v := (1 : Int32)) at_212 rfl rfl ?_
            refine Go.iload (pc' := 215) at_213 rfl rfl ?_
            refine Go.iload (pc' := 217) at_215 rfl rfl ?_
            refine Go.iconst (pc' := 218) (v := (0 : Int32)) at_217 rfl rfl ?_
            refine Go.iload (pc' := 220) at_218 rfl rfl ?_
            refine Go.callS (pc' := 223) (argsL := [(.int 0), (.int 1), (.int c2), (.int c3), (.int 0), (.int c3)]) (rest := []) (W := 0) (own_w hw 27 rfl) (own_w hw 28 rfl) (own_w hw 3 rfl) (own_w hw 29 rfl) (by decide) (m_ok l Z a0 hw (0 : Int32) (1 : Int32) c2 c3 (0 : Int32) c3 h_1796 n0 z_1809) at_220 rfl pd18 rfl rfl (Nat.le_of_eq rfl) (by decide) (by decide) (by decide) (by decide) rfl ?_
            rintro _ _ ⟨r3, rfl, rfl, hr3, ir3⟩
            show Go _ _ _ _ _ _ _ _ _ _ _ _ h_1796 (0 + 0 + 0 + 0 + 0 + 1 + 1 + 2 + 0 + 0 + 0 + 0) (0 + 0 + 0 + 0 + 0 + 1 + 4 + 3 + 0 + 0 + 0 + 0) 223 #[.val (.int y0), .val (.int y1), .val (.int y2), .val (.int y3), .val (.int y4), .val (.int 1), .val (.int c0), .val (.int c1), .val (.int c2), .val (.int c3), .val (.ref a_1747), .val (.ref a_1777), .unset] [(.int r3)]
            refine Go.ifc (pc1 := 230) (pc2 := 226) at_223 (by decide) (by decide) rfl (fun (t3 : r3.toInt = 0) => ?_) (fun (t3 : r3.toInt ≠ 0) => ?_)
            · refine Go.iconst (pc' := 231) (v := (0 : Int32)) at_230 rfl rfl ?_
              refine Go.istore (pc' := 233) (Ls' := #[.val (.int y0), .val (.int y1), .val (.int y2), .val (.int y3), .val (.int y4), .val (.int 1), .val (.int c0), .val (.int c1), .val (.int c2), .val (.int c3), .val (.ref a_1747), .val (.ref a_1777), .val (.int 0)]) at_231 rfl rfl ?_
              refine Go.aload (pc' := 235) at_233 rfl rfl rfl ?_
              refine Go.callS (pc' := 238) (argsL := [(.ref a_1777)]) (rest := []) (W := 0) (own_w hw 30 rfl) (own_w hw 31 rfl) (own_w hw 32 rfl) (own_w hw 33 rfl) (by decide) (m_tx1_0 l Z a0 hw a_1777 o b0 c0 cs fm h_1796 n0 z_1809 O_1810 hSCS hSAD hSHB hSLB hSFM hcs hfm f_1804 f1 f2 A e0) at_235 rfl pd19 rfl rfl (Nat.le_of_eq rfl) (by decide) (by decide) (by decide) (by decide) rfl ?_
              rintro _ _ ⟨rt, rfl, rfl, hrt, irt⟩
              show Go _ _ _ _ _ _ _ _ _ _ _ _ h_1796 (0 + 0 + 0 + 0 + 0 + 1 + 1 + 2 + 0 + 0 + 0 + 0 + 0) (0 + 0 + 0 + 0 + 0 + 1 + 4 + 3 + 0 + 0 + 0 + 0 + 0) 238 #[.val (.int y0), .val (.int y1), .val (.int y2), .val (.int y3), .val (.int y4), .val (.int 1), .val (.int c0), .val (.int c1), .val (.int c2), .val (.int c3), .val (.ref a_1747), .val (.ref a_1777), .val (.int 0)] [(.int rt)]
              have ht : rt.toInt = 0 := hrt.resolve_right (fun t => own_b0 ir3 t3 ((own_l1 c0 c1 c2 c3).mp (irt.mp t)).2.2.2)
              refine Go.iload (pc' := 240) at_238 rfl rfl ?_
              refine Go.icmp (pc1 := 247) (pc2 := 243) at_240 (by decide) (by decide) rfl (fun (c_1822 : rt.toInt ≠ (0 : Int)) => ?_) (fun (c_1822 : rt.toInt = (0 : Int)) => ?_)
              · exact absurd ht c_1822
              refine Go.iconst (pc' := 244) (v := (1 : Int32)) at_243 rfl rfl ?_
              refine Go.goto (pc' := 248) at_244 (by decide) (by decide) ?_
              exact Go.retN (t := .boolean) at_248 rfl (by simp) rfl rfl (by decide) (by decide)
            · refine Go.iconst (pc' := 227) (v := (1 : Int32)) at_226 rfl rfl ?_
              refine Go.goto (pc' := 231) at_227 (by decide) (by decide) ?_
              refine Go.istore (pc' := 233) (Ls' := #[.val (.int y0), .val (.int y1), .val (.int y2), .val (.int y3), .val (.int y4), .val (.int 1), .val (.int c0), .val (.int c1), .val (.int c2), .val (.int c3), .val (.ref a_1747), .val (.ref a_1777), .val (.int 1)]) at_231 rfl rfl ?_
              refine Go.aload (pc' := 235) at_233 rfl rfl rfl ?_
              refine Go.callS (pc' := 238) (argsL := [(.ref a_1777)]) (rest := []) (W := 0) (own_w hw 30 rfl) (own_w hw 31 rfl) (own_w hw 32 rfl) (own_w hw 33 rfl) (by decide) (m_tx1_0 l Z a0 hw a_1777 o b0 c0 cs fm h_1796 n0 z_1809 O_1810 hSCS hSAD hSHB hSLB hSFM hcs hfm f_1804 f1 f2 A e0) at_235 rfl pd19 rfl rfl (Nat.le_of_eq rfl) (by decide) (by decide) (by decide) (by decide) rfl ?_
              rintro _ _ ⟨rt, rfl, rfl, hrt, irt⟩
              show Go _ _ _ _ _ _ _ _ _ _ _ _ h_1796 (0 + 0 + 0 + 0 + 0 + 1 + 1 + 2 + 0 + 0 + 0 + 0 + 0) (0 + 0 + 0 + 0 + 0 + 1 + 4 + 3 + 0 + 0 + 0 + 0 + 0) 238 #[.val (.int y0), .val (.int y1), .val (.int y2), .val (.int y3), .val (.int y4), .val (.int 1), .val (.int c0), .val (.int c1), .val (.int c2), .val (.int c3), .val (.ref a_1747), .val (.ref a_1777), .val (.int 1)] [(.int rt)]
              have ht : rt.toInt = 1 := irt.mpr ((own_l1 c0 c1 c2 c3).mpr ⟨own_b1 ir0 hr0 t0, own_b1 ir1 hr1 t1, own_b1 ir2 hr2 t2, own_b1 ir3 hr3 t3⟩)
              refine Go.iload (pc' := 240) at_238 rfl rfl ?_
              refine Go.icmp (pc1 := 247) (pc2 := 243) at_240 (by decide) (by decide) rfl (fun (c_1823 : rt.toInt ≠ (1 : Int)) => ?_) (fun (c_1823 : rt.toInt = (1 : Int)) => ?_)
              · exact absurd ht c_1823
              refine Go.iconst (pc' := 244) (v := (1 : Int32)) at_243 rfl rfl ?_
              refine Go.goto (pc' := 248) at_244 (by decide) (by decide) ?_
              exact Go.retN (t := .boolean) at_248 rfl (by simp) rfl rfl (by decide) (by decide)
    · have n_1824 : a_1777 ≠ o := by obtain ⟨_, Ag, -⟩ := A; exact ne_arr f_1804 (own_w hw 7 rfl) Ag
      refine Go.astore (pc' := 97) (Ls' := #[.val (.int y0), .val (.int y1), .val (.int y2), .val (.int y3), .val (.int y4), .val (.int 1), .val (.int c0), .val (.int c1), .val (.int c2), .val (.int c3), .val (.ref a_1747), .val (.ref a_1777), .unset]) at_95 rfl rfl rfl ?_
      refine Go.iload (pc' := 99) at_97 rfl rfl ?_
      refine Go.ifc (pc1 := 106) (pc2 := 102) at_99 (by decide) (by decide) rfl (fun (c_1825 : (1 : Int) ≤ 0) => ?_) (fun (c_1825 : 0 < (1 : Int)) => ?_)
      · exact absurd c_1825 (by decide)
      refine Go.iconst (pc' := 103) (v := (1 : Int32)) at_102 rfl rfl ?_
      refine Go.goto (pc' := 107) at_103 (by decide) (by decide) ?_
      refine Go.iconst (pc' := 108) (v := (0 : Int32)) at_107 rfl rfl ?_
      refine Go.iload (pc' := 110) at_108 rfl rfl ?_
      refine Go.iload (pc' := 112) at_110 rfl rfl ?_
      refine Go.iload (pc' := 114) at_112 rfl rfl ?_
      refine Go.iconst (pc' := 115) (v := (1 : Int32)) at_114 rfl rfl ?_
      refine Go.icmp (pc1 := 122) (pc2 := 118) at_115 (by decide) (by decide) rfl (fun (c_1826 : (1 : Int) ≤ (1 : Int)) => ?_) (fun (c_1826 : (1 : Int) < (1 : Int)) => ?_)
      rotate_left
      · exact absurd c_1826 (by decide)
      refine Go.iconst (pc' := 123) (v := (0 : Int32)) at_122 rfl rfl ?_
      refine Go.iload (pc' := 125) at_123 rfl rfl ?_
      refine Go.callS (pc' := 128) (argsL := [(.int 1), (.int 0), (.int c0), (.int c0), (.int 0), (.int c1)]) (rest := []) (W := 0) (own_w hw 27 rfl) (own_w hw 28 rfl) (own_w hw 3 rfl) (own_w hw 29 rfl) (by decide) (m_ok l Z a0 hw (1 : Int32) (0 : Int32) c0 c0 (0 : Int32) c1 h_1796 n0 z_1809) at_125 rfl pd18 rfl rfl (Nat.le_of_eq rfl) (by decide) (by decide) (by decide) (by decide) rfl ?_
      rintro _ _ ⟨r0, rfl, rfl, hr0, ir0⟩
      show Go _ _ _ _ _ _ _ _ _ _ _ _ h_1796 (0 + 0 + 0 + 0 + 0 + 1 + 1 + 2 + 0) (0 + 0 + 0 + 0 + 0 + 1 + 4 + 3 + 0) 128 #[.val (.int y0), .val (.int y1), .val (.int y2), .val (.int y3), .val (.int y4), .val (.int 1), .val (.int c0), .val (.int c1), .val (.int c2), .val (.int c3), .val (.ref a_1747), .val (.ref a_1777), .unset] [(.int r0)]
      refine Go.ifc (pc1 := 230) (pc2 := 131) at_128 (by decide) (by decide) rfl (fun (t0 : r0.toInt = 0) => ?_) (fun (t0 : r0.toInt ≠ 0) => ?_)
      · refine Go.iconst (pc' := 231) (v := (0 : Int32)) at_230 rfl rfl ?_
        refine Go.istore (pc' := 233) (Ls' := #[.val (.int y0), .val (.int y1), .val (.int y2), .val (.int y3), .val (.int y4), .val (.int 1), .val (.int c0), .val (.int c1), .val (.int c2), .val (.int c3), .val (.ref a_1747), .val (.ref a_1777), .val (.int 0)]) at_231 rfl rfl ?_
        refine Go.aload (pc' := 235) at_233 rfl rfl rfl ?_
        refine Go.callS (pc' := 238) (argsL := [(.ref a_1777)]) (rest := []) (W := 0) (own_w hw 30 rfl) (own_w hw 31 rfl) (own_w hw 32 rfl) (own_w hw 33 rfl) (by decide) (m_tx1_1 l Z a0 hw a_1777 o l0 g0 c0 cs fm h_1796 n0 z_1809 O_1810 hSCS hSAD hSHB hSLB hSFM hcs hfm f_1804 f1 f2 A e0) at_235 rfl pd19 rfl rfl (Nat.le_of_eq rfl) (by decide) (by decide) (by decide) (by decide) rfl ?_
        rintro _ _ ⟨rt, rfl, rfl, hrt, irt⟩
        show Go _ _ _ _ _ _ _ _ _ _ _ _ h_1796 (0 + 0 + 0 + 0 + 0 + 1 + 1 + 2 + 0 + 0) (0 + 0 + 0 + 0 + 0 + 1 + 4 + 3 + 0 + 0) 238 #[.val (.int y0), .val (.int y1), .val (.int y2), .val (.int y3), .val (.int y4), .val (.int 1), .val (.int c0), .val (.int c1), .val (.int c2), .val (.int c3), .val (.ref a_1747), .val (.ref a_1777), .val (.int 0)] [(.int rt)]
        have ht : rt.toInt = 0 := hrt.resolve_right (fun t => own_b0 ir0 t0 ((own_l1 c0 c1 c2 c3).mp (irt.mp t)).1)
        refine Go.iload (pc' := 240) at_238 rfl rfl ?_
        refine Go.icmp (pc1 := 247) (pc2 := 243) at_240 (by decide) (by decide) rfl (fun (c_1827 : rt.toInt ≠ (0 : Int)) => ?_) (fun (c_1827 : rt.toInt = (0 : Int)) => ?_)
        · exact absurd ht c_1827
        refine Go.iconst (pc' := 244) (v := (1 : Int32)) at_243 rfl rfl ?_
        refine Go.goto (pc' := 248) at_244 (by decide) (by decide) ?_
        exact Go.retN (t := .boolean) at_248 rfl (by simp) rfl rfl (by decide) (by decide)
      · refine Go.iload (pc' := 133) at_131 rfl rfl ?_
        refine Go.iconst (pc' := 134) (v := (1 : Int32)) at_133 rfl rfl ?_
        refine Go.icmp (pc1 := 141) (pc2 := 137) at_134 (by decide) (by decide) rfl (fun (c_1828 : (1 : Int) ≤ (1 : Int)) => ?_) (fun (c_1828 : (1 : Int) < (1 : Int)) => ?_)
        rotate_left
        · exact absurd c_1828 (by decide)
        refine Go.iconst (pc' := 142) (v := (0 : Int32)) at_141 rfl rfl ?_
        refine Go.iconst (pc' := 143) (v := (1 : Int32)) at_142 rfl rfl ?_
        refine Go.iload (pc' := 145) at_143 rfl rfl ?_
        refine Go.iload (pc' := 147) at_145 rfl rfl ?_
        refine Go.iload (pc' := 149) at_147 rfl rfl ?_
        refine Go.iconst (pc' := 150) (v := (2 : Int32)) at_149 rfl rfl ?_
        refine Go.icmp (pc1 := 157) (pc2 := 153) at_150 (by decide) (by decide) rfl (fun (c_1829 : (1 : Int) ≤ (2 : Int)) => ?_) (fun (c_1829 : (2 : Int) < (1 : Int)) => ?_)
        rotate_left
        · exact absurd c_1829 (by decide)
        refine Go.iconst (pc' := 158) (v := (0 : Int32)) at_157 rfl rfl ?_
        refine Go.iload (pc' := 160) at_158 rfl rfl ?_
        refine Go.callS (pc' := 163) (argsL := [(.int 0), (.int 1), (.int c0), (.int c1), (.int 0), (.int c2)]) (rest := []) (W := 0) (own_w hw 27 rfl) (own_w hw 28 rfl) (own_w hw 3 rfl) (own_w hw 29 rfl) (by decide) (m_ok l Z a0 hw (0 : Int32) (1 : Int32) c0 c1 (0 : Int32) c2 h_1796 n0 z_1809) at_160 rfl pd18 rfl rfl (Nat.le_of_eq rfl) (by decide) (by decide) (by decide) (by decide) rfl ?_
        rintro _ _ ⟨r1, rfl, rfl, hr1, ir1⟩
        show Go _ _ _ _ _ _ _ _ _ _ _ _ h_1796 (0 + 0 + 0 + 0 + 0 + 1 + 1 + 2 + 0 + 0) (0 + 0 + 0 + 0 + 0 + 1 + 4 + 3 + 0 + 0) 163 #[.val (.int y0), .val (.int y1), .val (.int y2), .val (.int y3), .val (.int y4), .val (.int 1), .val (.int c0), .val (.int c1), .val (.int c2), .val (.int c3), .val (.ref a_1747), .val (.ref a_1777), .unset] [(.int r1)]
        refine Go.ifc (pc1 := 230) (pc2 := 166) at_163 (by decide) (by decide) rfl (fun (t1 : r1.toInt = 0) => ?_) (fun (t1 : r1.toInt ≠ 0) => ?_)
        · refine Go.iconst (pc' := 231) (v := (0 : Int32)) at_230 rfl rfl ?_
          refine Go.istore (pc' := 233) (Ls' := #[.val (.int y0), .val (.int y1), .val (.int y2), .val (.int y3), .val (.int y4), .val (.int 1), .val (.int c0), .val (.int c1), .val (.int c2), .val (.int c3), .val (.ref a_1747), .val (.ref a_1777), .val (.int 0)]) at_231 rfl rfl ?_
          refine Go.aload (pc' := 235) at_233 rfl rfl rfl ?_
          refine Go.callS (pc' := 238) (argsL := [(.ref a_1777)]) (rest := []) (W := 0) (own_w hw 30 rfl) (own_w hw 31 rfl) (own_w hw 32 rfl) (own_w hw 33 rfl) (by decide) (m_tx1_1 l Z a0 hw a_1777 o l0 g0 c0 cs fm h_1796 n0 z_1809 O_1810 hSCS hSAD hSHB hSLB hSFM hcs hfm f_1804 f1 f2 A e0) at_235 rfl pd19 rfl rfl (Nat.le_of_eq rfl) (by decide) (by decide) (by decide) (by decide) rfl ?_
          rintro _ _ ⟨rt, rfl, rfl, hrt, irt⟩
          show Go _ _ _ _ _ _ _ _ _ _ _ _ h_1796 (0 + 0 + 0 + 0 + 0 + 1 + 1 + 2 + 0 + 0 + 0) (0 + 0 + 0 + 0 + 0 + 1 + 4 + 3 + 0 + 0 + 0) 238 #[.val (.int y0), .val (.int y1), .val (.int y2), .val (.int y3), .val (.int y4), .val (.int 1), .val (.int c0), .val (.int c1), .val (.int c2), .val (.int c3), .val (.ref a_1747), .val (.ref a_1777), .val (.int 0)] [(.int rt)]
          have ht : rt.toInt = 0 := hrt.resolve_right (fun t => own_b0 ir1 t1 ((own_l1 c0 c1 c2 c3).mp (irt.mp t)).2.1)
          refine Go.iload (pc' := 240) at_238 rfl rfl ?_
          refine Go.icmp (pc1 := 247) (pc2 := 243) at_240 (by decide) (by decide) rfl (fun (c_1830 : rt.toInt ≠ (0 : Int)) => ?_) (fun (c_1830 : rt.toInt = (0 : Int)) => ?_)
          · exact absurd ht c_1830
          refine Go.iconst (pc' := 244) (v := (1 : Int32)) at_243 rfl rfl ?_
          refine Go.goto (pc' := 248) at_244 (by decide) (by decide) ?_
          exact Go.retN (t := .boolean) at_248 rfl (by simp) rfl rfl (by decide) (by decide)
        · refine Go.iload (pc' := 168) at_166 rfl rfl ?_
          refine Go.iconst (pc' := 169) (v := (2 : Int32)) at_168 rfl rfl ?_
          refine Go.icmp (pc1 := 176) (pc2 := 172) at_169 (by decide) (by decide) rfl (fun (c_1831 : (1 : Int) ≤ (2 : Int)) => ?_) (fun (c_1831 : (2 : Int) < (1 : Int)) => ?_)
          rotate_left
          · exact absurd c_1831 (by decide)
          refine Go.iconst (pc' := 177) (v := (0 : Int32)) at_176 rfl rfl ?_
          refine Go.iconst (pc' := 178) (v := (1 : Int32)) at_177 rfl rfl ?_
          refine Go.iload (pc' := 180) at_178 rfl rfl ?_
          refine Go.iload (pc' := 182) at_180 rfl rfl ?_
          refine Go.iload (pc' := 184) at_182 rfl rfl ?_
          refine Go.iconst (pc' := 185) (v := (3 : Int32)) at_184 rfl rfl ?_
          refine Go.icmp (pc1 := 192) (pc2 := 188) at_185 (by decide) (by decide) rfl (fun (c_1832 : (1 : Int) ≤ (3 : Int)) => ?_) (fun (c_1832 : (3 : Int) < (1 : Int)) => ?_)
          rotate_left
          · exact absurd c_1832 (by decide)
          refine Go.iconst (pc' := 193) (v := (0 : Int32)) at_192 rfl rfl ?_
          refine Go.iload (pc' := 195) at_193 rfl rfl ?_
          refine Go.callS (pc' := 198) (argsL := [(.int 0), (.int 1), (.int c1), (.int c2), (.int 0), (.int c3)]) (rest := []) (W := 0) (own_w hw 27 rfl) (own_w hw 28 rfl) (own_w hw 3 rfl) (own_w hw 29 rfl) (by decide) (m_ok l Z a0 hw (0 : Int32) (1 : Int32) c1 c2 (0 : Int32) c3 h_1796 n0 z_1809) at_195 rfl pd18 rfl rfl (Nat.le_of_eq rfl) (by decide) (by decide) (by decide) (by decide) rfl ?_
          rintro _ _ ⟨r2, rfl, rfl, hr2, ir2⟩
          show Go _ _ _ _ _ _ _ _ _ _ _ _ h_1796 (0 + 0 + 0 + 0 + 0 + 1 + 1 + 2 + 0 + 0 + 0) (0 + 0 + 0 + 0 + 0 + 1 + 4 + 3 + 0 + 0 + 0) 198 #[.val (.int y0), .val (.int y1), .val (.int y2), .val (.int y3), .val (.int y4), .val (.int 1), .val (.int c0), .val (.int c1), .val (.int c2), .val (.int c3), .val (.ref a_1747), .val (.ref a_1777), .unset] [(.int r2)]
          refine Go.ifc (pc1 := 230) (pc2 := 201) at_198 (by decide) (by decide) rfl (fun (t2 : r2.toInt = 0) => ?_) (fun (t2 : r2.toInt ≠ 0) => ?_)
          · refine Go.iconst (pc' := 231) (v := (0 : Int32)) at_230 rfl rfl ?_
            refine Go.istore (pc' := 233) (Ls' := #[.val (.int y0), .val (.int y1), .val (.int y2), .val (.int y3), .val (.int y4), .val (.int 1), .val (.int c0), .val (.int c1), .val (.int c2), .val (.int c3), .val (.ref a_1747), .val (.ref a_1777), .val (.int 0)]) at_231 rfl rfl ?_
            refine Go.aload (pc' := 235) at_233 rfl rfl rfl ?_
            refine Go.callS (pc' := 238) (argsL := [(.ref a_1777)]) (rest := []) (W := 0) (own_w hw 30 rfl) (own_w hw 31 rfl) (own_w hw 32 rfl) (own_w hw 33 rfl) (by decide) (m_tx1_1 l Z a0 hw a_1777 o l0 g0 c0 cs fm h_1796 n0 z_1809 O_1810 hSCS hSAD hSHB hSLB hSFM hcs hfm f_1804 f1 f2 A e0) at_235 rfl pd19 rfl rfl (Nat.le_of_eq rfl) (by decide) (by decide) (by decide) (by decide) rfl ?_
            rintro _ _ ⟨rt, rfl, rfl, hrt, irt⟩
            show Go _ _ _ _ _ _ _ _ _ _ _ _ h_1796 (0 + 0 + 0 + 0 + 0 + 1 + 1 + 2 + 0 + 0 + 0 + 0) (0 + 0 + 0 + 0 + 0 + 1 + 4 + 3 + 0 + 0 + 0 + 0) 238 #[.val (.int y0), .val (.int y1), .val (.int y2), .val (.int y3), .val (.int y4), .val (.int 1), .val (.int c0), .val (.int c1), .val (.int c2), .val (.int c3), .val (.ref a_1747), .val (.ref a_1777), .val (.int 0)] [(.int rt)]
            have ht : rt.toInt = 0 := hrt.resolve_right (fun t => own_b0 ir2 t2 ((own_l1 c0 c1 c2 c3).mp (irt.mp t)).2.2.1)
            refine Go.iload (pc' := 240) at_238 rfl rfl ?_
            refine Go.icmp (pc1 := 247) (pc2 := 243) at_240 (by decide) (by decide) rfl (fun (c_1833 : rt.toInt ≠ (0 : Int)) => ?_) (fun (c_1833 : rt.toInt = (0 : Int)) => ?_)
            · exact absurd ht c_1833
            refine Go.iconst (pc' := 244) (v := (1 : Int32)) at_243 rfl rfl ?_
            refine Go.goto (pc' := 248) at_244 (by decide) (by decide) ?_
            exact Go.retN (t := .boolean) at_248 rfl (by simp) rfl rfl (by decide) (by decide)
          · refine Go.iload (pc' := 203) at_201 rfl rfl ?_
            refine Go.iconst (pc' := 204) (v := (3 : Int32)) at_203 rfl rfl ?_
            refine Go.icmp (pc1 := 211) (pc2 := 207) at_204 (by decide) (by decide) rfl (fun (c_1834 : (1 : Int) ≤ (3 : Int)) => ?_) (fun (c_1834 : (3 : Int) < (1 : Int)) => ?_)
            rotate_left
            · exact absurd c_1834 (by decide)
            refine Go.iconst (pc' := 212) (v := (0 : Int32)) at_211 rfl rfl ?_
            refine Go.iconst (pc' := 213) (v := (1 : Int32)) at_212 rfl rfl ?_
            refine Go.iload (pc' := 215) at_213 rfl rfl ?_
            refine Go.iload (pc' := 217) at_215 rfl rfl ?_
            refine Go.iconst (pc' := 218) (v := (0 : Int32)) at_217 rfl rfl ?_
            refine Go.iload (pc' := 220) at_218 rfl rfl ?_
            refine Go.callS (pc' := 223) (argsL := [(.int 0), (.int 1), (.int c2), (.int c3), (.int 0), (.int c3)]) (rest := []) (W := 0) (own_w hw 27 rfl) (own_w hw 28 rfl) (own_w hw 3 rfl) (own_w hw 29 rfl) (by decide) (m_ok l Z a0 hw (0 : Int32) (1 : Int32) c2 c3 (0 : Int32) c3 h_1796 n0 z_1809) at_220 rfl pd18 rfl rfl (Nat.le_of_eq rfl) (by decide) (by decide) (by decide) (by decide) rfl ?_
            rintro _ _ ⟨r3, rfl, rfl, hr3, ir3⟩
            show Go _ _ _ _ _ _ _ _ _ _ _ _ h_1796 (0 + 0 + 0 + 0 + 0 + 1 + 1 + 2 + 0 + 0 + 0 + 0) (0 + 0 + 0 + 0 + 0 + 1 + 4 + 3 + 0 + 0 + 0 + 0) 223 #[.val (.int y0), .val (.int y1), .val (.int y2), .val (.int y3), .val (.int y4), .val (.int 1), .val (.int c0), .val (.int c1), .val (.int c2), .val (.int c3), .val (.ref a_1747), .val (.ref a_1777), .unset] [(.int r3)]
            refine Go.ifc (pc1 := 230) (pc2 := 226) at_223 (by decide) (by decide) rfl (fun (t3 : r3.toInt = 0) => ?_) (fun (t3 : r3.toInt ≠ 0) => ?_)
            · refine Go.iconst (pc' := 231) (v := (0 : Int32)) at_230 rfl rfl ?_
              refine Go.istore (pc' := 233) (Ls' := #[.val (.int y0), .val (.int y1), .val (.int y2), .val (.int y3), .val (.int y4), .val (.int 1), .val (.int c0), .val (.int c1), .val (.int c2), .val (.int c3), .val (.ref a_1747), .val (.ref a_1777), .val (.int 0)]) at_231 rfl rfl ?_
              refine Go.aload (pc' := 235) at_233 rfl rfl rfl ?_
              refine Go.callS (pc' := 238) (argsL := [(.ref a_1777)]) (rest := []) (W := 0) (own_w hw 30 rfl) (own_w hw 31 rfl) (own_w hw 32 rfl) (own_w hw 33 rfl) (by decide) (m_tx1_1 l Z a0 hw a_1777 o l0 g0 c0 cs fm h_1796 n0 z_1809 O_1810 hSCS hSAD hSHB hSLB hSFM hcs hfm f_1804 f1 f2 A e0) at_235 rfl pd19 rfl rfl (Nat.le_of_eq rfl) (by decide) (by decide) (by decide) (by decide) rfl ?_
              rintro _ _ ⟨rt, rfl, rfl, hrt, irt⟩
              show Go _ _ _ _ _ _ _ _ _ _ _ _ h_1796 (0 + 0 + 0 + 0 + 0 + 1 + 1 + 2 + 0 + 0 + 0 + 0 + 0) (0 + 0 + 0 + 0 + 0 + 1 + 4 + 3 + 0 + 0 + 0 + 0 + 0) 238 #[.val (.int y0), .val (.int y1), .val (.int y2), .val (.int y3), .val (.int y4), .val (.int 1), .val (.int c0), .val (.int c1), .val (.int c2), .val (.int c3), .val (.ref a_1747), .val (.ref a_1777), .val (.int 0)] [(.int rt)]
              have ht : rt.toInt = 0 := hrt.resolve_right (fun t => own_b0 ir3 t3 ((own_l1 c0 c1 c2 c3).mp (irt.mp t)).2.2.2)
              refine Go.iload (pc' := 240) at_238 rfl rfl ?_
              refine Go.icmp (pc1 := 247) (pc2 := 243) at_240 (by decide) (by decide) rfl (fun (c_1835 : rt.toInt ≠ (0 : Int)) => ?_) (fun (c_1835 : rt.toInt = (0 : Int)) => ?_)
              · exact absurd ht c_1835
              refine Go.iconst (pc' := 244) (v := (1 : Int32)) at_243 rfl rfl ?_
              refine Go.goto (pc' := 248) at_244 (by decide) (by decide) ?_
              exact Go.retN (t := .boolean) at_248 rfl (by simp) rfl rfl (by decide) (by decide)
            · refine Go.iconst (pc' := 227) (v := (1 : Int32)) at_226 rfl rfl ?_
              refine Go.goto (pc' := 231) at_227 (by decide) (by decide) ?_
              refine Go.istore (pc' := 233) (Ls' := #[.val (.int y0), .val (.int y1), .val (.int y2), .val (.int y3), .val (.int y4), .val (.int 1), .val (.int c0), .val (.int c1), .val (.int c2), .val (.int c3), .val (.ref a_1747), .val (.ref a_1777), .val (.int 1)]) at_231 rfl rfl ?_
              refine Go.aload (pc' := 235) at_233 rfl rfl rfl ?_
              refine Go.callS (pc' := 238) (argsL := [(.ref a_1777)]) (rest := []) (W := 0) (own_w hw 30 rfl) (own_w hw 31 rfl) (own_w hw 32 rfl) (own_w hw 33 rfl) (by decide) (m_tx1_1 l Z a0 hw a_1777 o l0 g0 c0 cs fm h_1796 n0 z_1809 O_1810 hSCS hSAD hSHB hSLB hSFM hcs hfm f_1804 f1 f2 A e0) at_235 rfl pd19 rfl rfl (Nat.le_of_eq rfl) (by decide) (by decide) (by decide) (by decide) rfl ?_
              rintro _ _ ⟨rt, rfl, rfl, hrt, irt⟩
              show Go _ _ _ _ _ _ _ _ _ _ _ _ h_1796 (0 + 0 + 0 + 0 + 0 + 1 + 1 + 2 + 0 + 0 + 0 + 0 + 0) (0 + 0 + 0 + 0 + 0 + 1 + 4 + 3 + 0 + 0 + 0 + 0 + 0) 238 #[.val (.int y0), .val (.int y1), .val (.int y2), .val (.int y3), .val (.int y4), .val (.int 1), .val (.int c0), .val (.int c1), .val (.int c2), .val (.int c3), .val (.ref a_1747), .val (.ref a_1777), .val (.int 1)] [(.int rt)]
              have ht : rt.toInt = 1 := irt.mpr ((own_l1 c0 c1 c2 c3).mpr ⟨own_b1 ir0 hr0 t0, own_b1 ir1 hr1 t1, own_b1 ir2 hr2 t2, own_b1 ir3 hr3 t3⟩)
              refine Go.iload (pc' := 240) at_238 rfl rfl ?_
              refine Go.icmp (pc1 := 247) (pc2 := 243) at_240 (by decide) (by decide) rfl (fun (c_1836 : rt.toInt ≠ (1 : Int)) => ?_) (fun (c_1836 : rt.toInt = (1 : Int)) => ?_)
              · exact absurd ht c_1836
              refine Go.iconst (pc' := 244) (v := (1 : Int32)) at_243 rfl rfl ?_
              refine Go.goto (pc' := 248) at_244 (by decide) (by decide) ?_
              exact Go.retN (t := .boolean) at_248 rfl (by simp) rfl rfl (by decide) (by decide)
  · obtain rfl : k_1677 = (2 : Int32) := Int32.toInt_inj.mp k_1678
    refine Go.iload (pc' := 35) at_33 rfl rfl ?_
    refine Go.newA (pc' := 37) (k := 2) (ty := .char) (cap := 2) (own_w hw 5 rfl) rfl rfl (by decide) (by decide) at_35 (by decide) (by decide) rfl ?_
    intro h_1837 a_1838 q_1839 E_1840 A_1841
    have g_1843 : n0 ≤ a_1838 := q_1839 ▸ z0
    have z_1849 : n0 ≤ h_1837.size := Nat.le_trans z0 E_1840.1
    have O_1850 : Old Z n0 h_1837 := hO.ext E_1840
    have f_1844 := Sta.ext O_1850.2 hSCS
    have f_1845 := Sta.ext O_1850.2 hSAD
    have f_1846 := Sta.ext O_1850.2 hSHB
    have f_1847 := Sta.ext O_1850.2 hSLB
    have f_1848 := Sta.ext O_1850.2 hSFM
    have t_1851 : a_1838 < h_1837.size := A_1841.lt
    change Ary Z h_1837 a_1838 .char [(.int 0), (.int 0)] at A_1841
    refine Go.astore (pc' := 39) (Ls' := #[.val (.int y0), .val (.int y1), .val (.int y2), .val (.int y3), .val (.int y4), .val (.int 2), .val (.int c0), .val (.int c1), .val (.int c2), .val (.int c3), .val (.ref a_1838), .unset, .unset]) at_37 rfl rfl rfl ?_
    refine Go.iload (pc' := 41) at_39 rfl rfl ?_
    refine Go.ifc (pc1 := 50) (pc2 := 44) at_41 (by decide) (by decide) rfl (fun (c_1852 : (2 : Int) ≤ 0) => ?_) (fun (c_1852 : 0 < (2 : Int)) => ?_)
    · exact absurd c_1852 (by decide)
    refine Go.aload (pc' := 46) at_44 rfl rfl rfl ?_
    refine Go.iconst (pc' := 47) (v := (0 : Int32)) at_46 rfl rfl ?_
    refine Go.iload (pc' := 49) at_47 rfl rfl ?_
    refine Go.stC (pc' := 50) (k := 0) A_1841 rfl (by show 0 < 2; decide) at_49 g_1843 rfl ?_
    intro h_1853 W_1854 A_1855
    rw [nc0] at W_1854 A_1855
    have t_1861 : a_1838 < h_1853.size := Nat.lt_of_lt_of_le t_1851 (Nat.le_of_eq W_1854.size.symm)
    have z_1862 : n0 ≤ h_1853.size := Nat.le_trans z_1849 (Nat.le_of_eq W_1854.size.symm)
    have O_1863 : Old Z n0 h_1853 := O_1850.wr W_1854 g_1843
    have f_1856 := Sta.ext O_1863.2 hSCS
    have f_1857 := Sta.ext O_1863.2 hSAD
    have f_1858 := Sta.ext O_1863.2 hSHB
    have f_1859 := Sta.ext O_1863.2 hSLB
    have f_1860 := Sta.ext O_1863.2 hSFM
    change Ary Z h_1853 a_1838 .char [(.int c0), (.int 0)] at A_1855
    refine Go.iload (pc' := 52) at_50 rfl rfl ?_
    refine Go.iconst (pc' := 53) (v := (1 : Int32)) at_52 rfl rfl ?_
    refine Go.icmp (pc1 := 62) (pc2 := 56) at_53 (by decide) (by decide) rfl (fun (c_1864 : (2 : Int) ≤ (1 : Int)) => ?_) (fun (c_1864 : (1 : Int) < (2 : Int)) => ?_)
    · exact absurd c_1864 (by decide)
    refine Go.aload (pc' := 58) at_56 rfl rfl rfl ?_
    refine Go.iconst (pc' := 59) (v := (1 : Int32)) at_58 rfl rfl ?_
    refine Go.iload (pc' := 61) at_59 rfl rfl ?_
    refine Go.stC (pc' := 62) (k := 1) A_1855 rfl (by show 1 < 2; decide) at_61 g_1843 rfl ?_
    intro h_1865 W_1866 A_1867
    rw [nc1] at W_1866 A_1867
    have t_1873 : a_1838 < h_1865.size := Nat.lt_of_lt_of_le t_1861 (Nat.le_of_eq W_1866.size.symm)
    have z_1874 : n0 ≤ h_1865.size := Nat.le_trans z_1862 (Nat.le_of_eq W_1866.size.symm)
    have O_1875 : Old Z n0 h_1865 := O_1863.wr W_1866 g_1843
    have f_1868 := Sta.ext O_1875.2 hSCS
    have f_1869 := Sta.ext O_1875.2 hSAD
    have f_1870 := Sta.ext O_1875.2 hSHB
    have f_1871 := Sta.ext O_1875.2 hSLB
    have f_1872 := Sta.ext O_1875.2 hSFM
    change Ary Z h_1865 a_1838 .char [(.int c0), (.int c1)] at A_1867
    refine Go.iload (pc' := 64) at_62 rfl rfl ?_
    refine Go.iconst (pc' := 65) (v := (2 : Int32)) at_64 rfl rfl ?_
    refine Go.icmp (pc1 := 74) (pc2 := 68) at_65 (by decide) (by decide) rfl (fun (c_1876 : (2 : Int) ≤ (2 : Int)) => ?_) (fun (c_1876 : (2 : Int) < (2 : Int)) => ?_)
    rotate_left
    · exact absurd c_1876 (by decide)
    refine Go.iload (pc' := 76) at_74 rfl rfl ?_
    refine Go.iconst (pc' := 77) (v := (3 : Int32)) at_76 rfl rfl ?_
    refine Go.icmp (pc1 := 86) (pc2 := 80) at_77 (by decide) (by decide) rfl (fun (c_1877 : (2 : Int) ≤ (3 : Int)) => ?_) (fun (c_1877 : (3 : Int) < (2 : Int)) => ?_)
    rotate_left
    · exact absurd c_1877 (by decide)
    refine Go.newO (pc' := 89) (own_w hw 6 rfl) (own_w hw 7 rfl) (own_w hw 8 rfl) at_86 (by decide) (by decide) rfl ?_
    intro h_1878 a_1879 q_1880 E_1881 A_1882 D_1883
    have n_1884 : a_1838 ≠ a_1879 := Nat.ne_of_lt (q_1880 ▸ t_1873)
    have g_1885 : n0 ≤ a_1879 := q_1880 ▸ z_1874
    have f_1891 : Ary Z h_1878 a_1838 .char [(.int c0), (.int c1)] := A_1867.sm (Sm.ext E_1881)
    have t_1892 : a_1838 < h_1878.size := Nat.lt_of_lt_of_le t_1873 E_1881.1
    have z_1893 : n0 ≤ h_1878.size := Nat.le_trans z_1874 E_1881.1
    have O_1894 : Old Z n0 h_1878 := O_1875.ext E_1881
    have f_1886 := Sta.ext O_1894.2 hSCS
    have f_1887 := Sta.ext O_1894.2 hSAD
    have f_1888 := Sta.ext O_1894.2 hSHB
    have f_1889 := Sta.ext O_1894.2 hSLB
    have f_1890 := Sta.ext O_1894.2 hSFM
    have t_1895 : a_1879 < h_1878.size := A_1882.lt
    have f_1896 : Fld Z h_1878 a_1879 "java/lang/String" "value" "[B" .null := D_1883 (Or.inr (own_w hw 21 rfl)) (ty := (.array .byte)) (by decide)
    have f_1897 : Fld Z h_1878 a_1879 "java/lang/String" "coder" "B" (.int 0) := D_1883 (Or.inr (own_w hw 22 rfl)) (ty := .byte) (by decide)
    refine Go.dup (pc' := 90) at_89 rfl rfl ?_
    refine Go.aload (pc' := 92) at_90 rfl rfl rfl ?_
    refine Go.callN (pc' := 95) (argsL := [(.ref a_1838)]) (rest := [(.ref a_1879)]) (W := 1) rfl (own_w hw 9 rfl) (own_w hw 10 rfl) (own_w hw 8 rfl) (own_w hw 11 rfl) (by decide) (m_s1_2 l Z a0 hw a_1879 a_1838 c0 c1 cs h_1878 n0 z_1893 O_1894 hSCS hSAD hSHB hSLB hcs A_1882 f_1896 f_1897 g_1885 f_1891 hc0 hc1 ) at_92 rfl pd17 rfl rfl (Nat.le_of_eq rfl) (by decide) (by decide) (by decide) (by decide) rfl ?_
    rintro _ h_1898 ⟨rfl, K_1899, o, f1, lo, hs⟩
    have f_1900 : Ary Z h_1898 a_1838 .char [(.int c0), (.int c1)] := f_1891.sm (Sm.keep K_1899 (ninS n_1884 nin0))
    have f_1906 : Exa Z h_1898 a_1879 "java/lang/String" := A_1882.keep K_1899
    have t_1909 : a_1838 < h_1898.size := Nat.lt_of_lt_of_le t_1892 K_1899.1
    have t_1910 : a_1879 < h_1898.size := Nat.lt_of_lt_of_le t_1895 K_1899.1
    have z_1911 : n0 ≤ h_1898.size := Nat.le_trans z_1893 K_1899.1
    have O_1912 : Old Z n0 h_1898 := O_1894.keep K_1899 (allS g_1885 all0)
    have f_1901 := Sta.ext O_1912.2 hSCS
    have f_1902 := Sta.ext O_1912.2 hSAD
    have f_1903 := Sta.ext O_1912.2 hSHB
    have f_1904 := Sta.ext O_1912.2 hSLB
    have f_1905 := Sta.ext O_1912.2 hSFM
    show Go _ _ _ _ _ _ _ _ _ _ _ _ h_1898 (0 + 0 + 0 + 0 + 0 + 1 + 1 + 2) (0 + 0 + 0 + 0 + 0 + 2 + 4 + 6) 95 #[.val (.int y0), .val (.int y1), .val (.int y2), .val (.int y3), .val (.int y4), .val (.int 2), .val (.int c0), .val (.int c1), .val (.int c2), .val (.int c3), .val (.ref a_1838), .unset, .unset] [(.ref a_1879)]
    rcases hs with ⟨f2, b0, b1, A, e0, e1⟩ | ⟨f2, l0, g0, l1, g1, A, e0, e1⟩
    · have n_1913 : a_1879 ≠ o := by obtain ⟨_, Ag, -⟩ := A; exact ne_arr f_1906 (own_w hw 7 rfl) Ag
      refine Go.astore (pc' := 97) (Ls' := #[.val (.int y0), .val (.int y1), .val (.int y2), .val (.int y3), .val (.int y4), .val (.int 2), .val (.int c0), .val (.int c1), .val (.int c2), .val (.int c3), .val (.ref a_1838), .val (.ref a_1879), .unset]) at_95 rfl rfl rfl ?_
      refine Go.iload (pc' := 99) at_97 rfl rfl ?_
      refine Go.ifc (pc1 := 106) (pc2 := 102) at_99 (by decide) (by decide) rfl (fun (c_1914 : (2 : Int) ≤ 0) => ?_) (fun (c_1914 : 0 < (2 : Int)) => ?_)
      · exact absurd c_1914 (by decide)
      refine Go.iconst (pc' := 103) (v := (1 : Int32)) at_102 rfl rfl ?_
      refine Go.goto (pc' := 107) at_103 (by decide) (by decide) ?_
      refine Go.iconst (pc' := 108) (v := (0 : Int32)) at_107 rfl rfl ?_
      refine Go.iload (pc' := 110) at_108 rfl rfl ?_
      refine Go.iload (pc' := 112) at_110 rfl rfl ?_
      refine Go.iload (pc' := 114) at_112 rfl rfl ?_
      refine Go.iconst (pc' := 115) (v := (1 : Int32)) at_114 rfl rfl ?_
      refine Go.icmp (pc1 := 122) (pc2 := 118) at_115 (by decide) (by decide) rfl (fun (c_1915 : (2 : Int) ≤ (1 : Int)) => ?_) (fun (c_1915 : (1 : Int) < (2 : Int)) => ?_)
      · exact absurd c_1915 (by decide)
      refine Go.iconst (pc' := 119) (v := (1 : Int32)) at_118 rfl rfl ?_
      refine Go.goto (pc' := 123) at_119 (by decide) (by decide) ?_
      refine Go.iload (pc' := 125) at_123 rfl rfl ?_
      refine Go.callS (pc' := 128) (argsL := [(.int 1), (.int 0), (.int c0), (.int c0), (.int 1), (.int c1)]) (rest := []) (W := 0) (own_w hw 27 rfl) (own_w hw 28 rfl) (own_w hw 3 rfl) (own_w hw 29 rfl) (by decide) (m_ok l Z a0 hw (1 : Int32) (0 : Int32) c0 c0 (1 : Int32) c1 h_1898 n0 z_1911) at_125 rfl pd18 rfl rfl (Nat.le_of_eq rfl) (by decide) (by decide) (by decide) (by decide) rfl ?_
      rintro _ _ ⟨r0, rfl, rfl, hr0, ir0⟩
      show Go _ _ _ _ _ _ _ _ _ _ _ _ h_1898 (0 + 0 + 0 + 0 + 0 + 1 + 1 + 2 + 0) (0 + 0 + 0 + 0 + 0 + 2 + 4 + 6 + 0) 128 #[.val (.int y0), .val (.int y1), .val (.int y2), .val (.int y3), .val (.int y4), .val (.int 2), .val (.int c0), .val (.int c1), .val (.int c2), .val (.int c3), .val (.ref a_1838), .val (.ref a_1879), .unset] [(.int r0)]
      refine Go.ifc (pc1 := 230) (pc2 := 131) at_128 (by decide) (by decide) rfl (fun (t0 : r0.toInt = 0) => ?_) (fun (t0 : r0.toInt ≠ 0) => ?_)
      · refine Go.iconst (pc' := 231) (v := (0 : Int32)) at_230 rfl rfl ?_
        refine Go.istore (pc' := 233) (Ls' := #[.val (.int y0), .val (.int y1), .val (.int y2), .val (.int y3), .val (.int y4), .val (.int 2), .val (.int c0), .val (.int c1), .val (.int c2), .val (.int c3), .val (.ref a_1838), .val (.ref a_1879), .val (.int 0)]) at_231 rfl rfl ?_
        refine Go.aload (pc' := 235) at_233 rfl rfl rfl ?_
        refine Go.callS (pc' := 238) (argsL := [(.ref a_1879)]) (rest := []) (W := 0) (own_w hw 30 rfl) (own_w hw 31 rfl) (own_w hw 32 rfl) (own_w hw 33 rfl) (by decide) (m_tx2_0 l Z a0 hw a_1879 o b0 b1 c0 c1 cs fm h_1898 n0 z_1911 O_1912 hSCS hSAD hSHB hSLB hSFM hcs hfm f_1906 f1 f2 A e0 e1) at_235 rfl pd19 rfl rfl (Nat.le_of_eq rfl) (by decide) (by decide) (by decide) (by decide) rfl ?_
        rintro _ _ ⟨rt, rfl, rfl, hrt, irt⟩
        show Go _ _ _ _ _ _ _ _ _ _ _ _ h_1898 (0 + 0 + 0 + 0 + 0 + 1 + 1 + 2 + 0 + 0) (0 + 0 + 0 + 0 + 0 + 2 + 4 + 6 + 0 + 0) 238 #[.val (.int y0), .val (.int y1), .val (.int y2), .val (.int y3), .val (.int y4), .val (.int 2), .val (.int c0), .val (.int c1), .val (.int c2), .val (.int c3), .val (.ref a_1838), .val (.ref a_1879), .val (.int 0)] [(.int rt)]
        have ht : rt.toInt = 0 := hrt.resolve_right (fun t => own_b0 ir0 t0 ((own_l2 c0 c1 c2 c3).mp (irt.mp t)).1)
        refine Go.iload (pc' := 240) at_238 rfl rfl ?_
        refine Go.icmp (pc1 := 247) (pc2 := 243) at_240 (by decide) (by decide) rfl (fun (c_1916 : rt.toInt ≠ (0 : Int)) => ?_) (fun (c_1916 : rt.toInt = (0 : Int)) => ?_)
        · exact absurd ht c_1916
        refine Go.iconst (pc' := 244) (v := (1 : Int32)) at_243 rfl rfl ?_
        refine Go.goto (pc' := 248) at_244 (by decide) (by decide) ?_
        exact Go.retN (t := .boolean) at_248 rfl (by simp) rfl rfl (by decide) (by decide)
      · refine Go.iload (pc' := 133) at_131 rfl rfl ?_
        refine Go.iconst (pc' := 134) (v := (1 : Int32)) at_133 rfl rfl ?_
        refine Go.icmp (pc1 := 141) (pc2 := 137) at_134 (by decide) (by decide) rfl (fun (c_1917 : (2 : Int) ≤ (1 : Int)) => ?_) (fun (c_1917 : (1 : Int) < (2 : Int)) => ?_)
        · exact absurd c_1917 (by decide)
        refine Go.iconst (pc' := 138) (v := (1 : Int32)) at_137 rfl rfl ?_
        refine Go.goto (pc' := 142) at_138 (by decide) (by decide) ?_
        refine Go.iconst (pc' := 143) (v := (1 : Int32)) at_142 rfl rfl ?_
        refine Go.iload (pc' := 145) at_143 rfl rfl ?_
        refine Go.iload (pc' := 147) at_145 rfl rfl ?_
        refine Go.iload (pc' := 149) at_147 rfl rfl ?_
        refine Go.iconst (pc' := 150) (v := (2 : Int32)) at_149 rfl rfl ?_
        refine Go.icmp (pc1 := 157) (pc2 := 153) at_150 (by decide) (by decide) rfl (fun (c_1918 : (2 : Int) ≤ (2 : Int)) => ?_) (fun (c_1918 : (2 : Int) < (2 : Int)) => ?_)
        rotate_left
        · exact absurd c_1918 (by decide)
        refine Go.iconst (pc' := 158) (v := (0 : Int32)) at_157 rfl rfl ?_
        refine Go.iload (pc' := 160) at_158 rfl rfl ?_
        refine Go.callS (pc' := 163) (argsL := [(.int 1), (.int 1), (.int c0), (.int c1), (.int 0), (.int c2)]) (rest := []) (W := 0) (own_w hw 27 rfl) (own_w hw 28 rfl) (own_w hw 3 rfl) (own_w hw 29 rfl) (by decide) (m_ok l Z a0 hw (1 : Int32) (1 : Int32) c0 c1 (0 : Int32) c2 h_1898 n0 z_1911) at_160 rfl pd18 rfl rfl (Nat.le_of_eq rfl) (by decide) (by decide) (by decide) (by decide) rfl ?_
        rintro _ _ ⟨r1, rfl, rfl, hr1, ir1⟩
        show Go _ _ _ _ _ _ _ _ _ _ _ _ h_1898 (0 + 0 + 0 + 0 + 0 + 1 + 1 + 2 + 0 + 0) (0 + 0 + 0 + 0 + 0 + 2 + 4 + 6 + 0 + 0) 163 #[.val (.int y0), .val (.int y1), .val (.int y2), .val (.int y3), .val (.int y4), .val (.int 2), .val (.int c0), .val (.int c1), .val (.int c2), .val (.int c3), .val (.ref a_1838), .val (.ref a_1879), .unset] [(.int r1)]
        refine Go.ifc (pc1 := 230) (pc2 := 166) at_163 (by decide) (by decide) rfl (fun (t1 : r1.toInt = 0) => ?_) (fun (t1 : r1.toInt ≠ 0) => ?_)
        · refine Go.iconst (pc' := 231) (v := (0 : Int32)) at_230 rfl rfl ?_
          refine Go.istore (pc' := 233) (Ls' := #[.val (.int y0), .val (.int y1), .val (.int y2), .val (.int y3), .val (.int y4), .val (.int 2), .val (.int c0), .val (.int c1), .val (.int c2), .val (.int c3), .val (.ref a_1838), .val (.ref a_1879), .val (.int 0)]) at_231 rfl rfl ?_
          refine Go.aload (pc' := 235) at_233 rfl rfl rfl ?_
          refine Go.callS (pc' := 238) (argsL := [(.ref a_1879)]) (rest := []) (W := 0) (own_w hw 30 rfl) (own_w hw 31 rfl) (own_w hw 32 rfl) (own_w hw 33 rfl) (by decide) (m_tx2_0 l Z a0 hw a_1879 o b0 b1 c0 c1 cs fm h_1898 n0 z_1911 O_1912 hSCS hSAD hSHB hSLB hSFM hcs hfm f_1906 f1 f2 A e0 e1) at_235 rfl pd19 rfl rfl (Nat.le_of_eq rfl) (by decide) (by decide) (by decide) (by decide) rfl ?_
          rintro _ _ ⟨rt, rfl, rfl, hrt, irt⟩
          show Go _ _ _ _ _ _ _ _ _ _ _ _ h_1898 (0 + 0 + 0 + 0 + 0 + 1 + 1 + 2 + 0 + 0 + 0) (0 + 0 + 0 + 0 + 0 + 2 + 4 + 6 + 0 + 0 + 0) 238 #[.val (.int y0), .val (.int y1), .val (.int y2), .val (.int y3), .val (.int y4), .val (.int 2), .val (.int c0), .val (.int c1), .val (.int c2), .val (.int c3), .val (.ref a_1838), .val (.ref a_1879), .val (.int 0)] [(.int rt)]
          have ht : rt.toInt = 0 := hrt.resolve_right (fun t => own_b0 ir1 t1 ((own_l2 c0 c1 c2 c3).mp (irt.mp t)).2.1)
          refine Go.iload (pc' := 240) at_238 rfl rfl ?_
          refine Go.icmp (pc1 := 247) (pc2 := 243) at_240 (by decide) (by decide) rfl (fun (c_1919 : rt.toInt ≠ (0 : Int)) => ?_) (fun (c_1919 : rt.toInt = (0 : Int)) => ?_)
          · exact absurd ht c_1919
          refine Go.iconst (pc' := 244) (v := (1 : Int32)) at_243 rfl rfl ?_
          refine Go.goto (pc' := 248) at_244 (by decide) (by decide) ?_
          exact Go.retN (t := .boolean) at_248 rfl (by simp) rfl rfl (by decide) (by decide)
        · refine Go.iload (pc' := 168) at_166 rfl rfl ?_
          refine Go.iconst (pc' := 169) (v := (2 : Int32)) at_168 rfl rfl ?_
          refine Go.icmp (pc1 := 176) (pc2 := 172) at_169 (by decide) (by decide) rfl (fun (c_1920 : (2 : Int) ≤ (2 : Int)) => ?_) (fun (c_1920 : (2 : Int) < (2 : Int)) => ?_)
          rotate_left
          · exact absurd c_1920 (by decide)
          refine Go.iconst (pc' := 177) (v := (0 : Int32)) at_176 rfl rfl ?_
          refine Go.iconst (pc' := 178) (v := (1 : Int32)) at_177 rfl rfl ?_
          refine Go.iload (pc' := 180) at_178 rfl rfl ?_
          refine Go.iload (pc' := 182) at_180 rfl rfl ?_
          refine Go.iload (pc' := 184) at_182 rfl rfl ?_
          refine Go.iconst (pc' := 185) (v := (3 : Int32)) at_184 rfl rfl ?_
          refine Go.icmp (pc1 := 192) (pc2 := 188) at_185 (by decide) (by decide) rfl (fun (c_1921 : (2 : Int) ≤ (3 : Int)) => ?_) (fun (c_1921 : (3 : Int) < (2 : Int)) => ?_)
          rotate_left
          · exact absurd c_1921 (by decide)
          refine Go.iconst (pc' := 193) (v := (0 : Int32)) at_192 rfl rfl ?_
          refine Go.iload (pc' := 195) at_193 rfl rfl ?_
          refine Go.callS (pc' := 198) (argsL := [(.int 0), (.int 1), (.int c1), (.int c2), (.int 0), (.int c3)]) (rest := []) (W := 0) (own_w hw 27 rfl) (own_w hw 28 rfl) (own_w hw 3 rfl) (own_w hw 29 rfl) (by decide) (m_ok l Z a0 hw (0 : Int32) (1 : Int32) c1 c2 (0 : Int32) c3 h_1898 n0 z_1911) at_195 rfl pd18 rfl rfl (Nat.le_of_eq rfl) (by decide) (by decide) (by decide) (by decide) rfl ?_
          rintro _ _ ⟨r2, rfl, rfl, hr2, ir2⟩
          show Go _ _ _ _ _ _ _ _ _ _ _ _ h_1898 (0 + 0 + 0 + 0 + 0 + 1 + 1 + 2 + 0 + 0 + 0) (0 + 0 + 0 + 0 + 0 + 2 + 4 + 6 + 0 + 0 + 0) 198 #[.val (.int y0), .val (.int y1), .val (.int y2), .val (.int y3), .val (.int y4), .val (.int 2), .val (.int c0), .val (.int c1), .val (.int c2), .val (.int c3), .val (.ref a_1838), .val (.ref a_1879), .unset] [(.int r2)]
          refine Go.ifc (pc1 := 230) (pc2 := 201) at_198 (by decide) (by decide) rfl (fun (t2 : r2.toInt = 0) => ?_) (fun (t2 : r2.toInt ≠ 0) => ?_)
          · refine Go.iconst (pc' := 231) (v := (0 : Int32)) at_230 rfl rfl ?_
            refine Go.istore (pc' := 233) (Ls' := #[.val (.int y0), .val (.int y1), .val (.int y2), .val (.int y3), .val (.int y4), .val (.int 2), .val (.int c0), .val (.int c1), .val (.int c2), .val (.int c3), .val (.ref a_1838), .val (.ref a_1879), .val (.int 0)]) at_231 rfl rfl ?_
            refine Go.aload (pc' := 235) at_233 rfl rfl rfl ?_
            refine Go.callS (pc' := 238) (argsL := [(.ref a_1879)]) (rest := []) (W := 0) (own_w hw 30 rfl) (own_w hw 31 rfl) (own_w hw 32 rfl) (own_w hw 33 rfl) (by decide) (m_tx2_0 l Z a0 hw a_1879 o b0 b1 c0 c1 cs fm h_1898 n0 z_1911 O_1912 hSCS hSAD hSHB hSLB hSFM hcs hfm f_1906 f1 f2 A e0 e1) at_235 rfl pd19 rfl rfl (Nat.le_of_eq rfl) (by decide) (by decide) (by decide) (by decide) rfl ?_
            rintro _ _ ⟨rt, rfl, rfl, hrt, irt⟩
            show Go _ _ _ _ _ _ _ _ _ _ _ _ h_1898 (0 + 0 + 0 + 0 + 0 + 1 + 1 + 2 + 0 + 0 + 0 + 0) (0 + 0 + 0 + 0 + 0 + 2 + 4 + 6 + 0 + 0 + 0 + 0) 238 #[.val (.int y0), .val (.int y1), .val (.int y2), .val (.int y3), .val (.int y4), .val (.int 2), .val (.int c0), .val (.int c1), .val (.int c2), .val (.int c3), .val (.ref a_1838), .val (.ref a_1879), .val (.int 0)] [(.int rt)]
            have ht : rt.toInt = 0 := hrt.resolve_right (fun t => own_b0 ir2 t2 ((own_l2 c0 c1 c2 c3).mp (irt.mp t)).2.2.1)
            refine Go.iload (pc' := 240) at_238 rfl rfl ?_
            refine Go.icmp (pc1 := 247) (pc2 := 243) at_240 (by decide) (by decide) rfl (fun (c_1922 : rt.toInt ≠ (0 : Int)) => ?_) (fun (c_1922 : rt.toInt = (0 : Int)) => ?_)
            · exact absurd ht c_1922
            refine Go.iconst (pc' := 244) (v := (1 : Int32)) at_243 rfl rfl ?_
            refine Go.goto (pc' := 248) at_244 (by decide) (by decide) ?_
            exact Go.retN (t := .boolean) at_248 rfl (by simp) rfl rfl (by decide) (by decide)
          · refine Go.iload (pc' := 203) at_201 rfl rfl ?_
            refine Go.iconst (pc' := 204) (v := (3 : Int32)) at_203 rfl rfl ?_
            refine Go.icmp (pc1 := 211) (pc2 := 207) at_204 (by decide) (by decide) rfl (fun (c_1923 : (2 : Int) ≤ (3 : Int)) => ?_) (fun (c_1923 : (3 : Int) < (2 : Int)) => ?_)
            rotate_left
            · exact absurd c_1923 (by decide)
            refine Go.iconst (pc' := 212) (v := (0 : Int32)) at_211 rfl rfl ?_
            refine Go.iconst (pc' := 213) (v := (1 : Int32)) at_212 rfl rfl ?_
            refine Go.iload (pc' := 215) at_213 rfl rfl ?_
            refine Go.iload (pc' := 217) at_215 rfl rfl ?_
            refine Go.iconst (pc' := 218) (v := (0 : Int32)) at_217 rfl rfl ?_
            refine Go.iload (pc' := 220) at_218 rfl rfl ?_
            refine Go.callS (pc' := 223) (argsL := [(.int 0), (.int 1), (.int c2), (.int c3), (.int 0), (.int c3)]) (rest := []) (W := 0) (own_w hw 27 rfl) (own_w hw 28 rfl) (own_w hw 3 rfl) (own_w hw 29 rfl) (by decide) (m_ok l Z a0 hw (0 : Int32) (1 : Int32) c2 c3 (0 : Int32) c3 h_1898 n0 z_1911) at_220 rfl pd18 rfl rfl (Nat.le_of_eq rfl) (by decide) (by decide) (by decide) (by decide) rfl ?_
            rintro _ _ ⟨r3, rfl, rfl, hr3, ir3⟩
            show Go _ _ _ _ _ _ _ _ _ _ _ _ h_1898 (0 + 0 + 0 + 0 + 0 + 1 + 1 + 2 + 0 + 0 + 0 + 0) (0 + 0 + 0 + 0 + 0 + 2 + 4 + 6 + 0 + 0 + 0 + 0) 223 #[.val (.int y0), .val (.int y1), .val (.int y2), .val (.int y3), .val (.int y4), .val (.int 2), .val (.int c0), .val (.int c1), .val (.int c2), .val (.int c3), .val (.ref a_1838), .val (.ref a_1879), .unset] [(.int r3)]
            refine Go.ifc (pc1 := 230) (pc2 := 226) at_223 (by decide) (by decide) rfl (fun (t3 : r3.toInt = 0) => ?_) (fun (t3 : r3.toInt ≠ 0) => ?_)
            · refine Go.iconst (pc' := 231) (v := (0 : Int32)) at_230 rfl rfl ?_
              refine Go.istore (pc' := 233) (Ls' := #[.val (.int y0), .val (.int y1), .val (.int y2), .val (.int y3), .val (.int y4), .val (.int 2), .val (.int c0), .val (.int c1), .val (.int c2), .val (.int c3), .val (.ref a_1838), .val (.ref a_1879), .val (.int 0)]) at_231 rfl rfl ?_
              refine Go.aload (pc' := 235) at_233 rfl rfl rfl ?_
              refine Go.callS (pc' := 238) (argsL := [(.ref a_1879)]) (rest := []) (W := 0) (own_w hw 30 rfl) (own_w hw 31 rfl) (own_w hw 32 rfl) (own_w hw 33 rfl) (by decide) (m_tx2_0 l Z a0 hw a_1879 o b0 b1 c0 c1 cs fm h_1898 n0 z_1911 O_1912 hSCS hSAD hSHB hSLB hSFM hcs hfm f_1906 f1 f2 A e0 e1) at_235 rfl pd19 rfl rfl (Nat.le_of_eq rfl) (by decide) (by decide) (by decide) (by decide) rfl ?_
              rintro _ _ ⟨rt, rfl, rfl, hrt, irt⟩
              show Go _ _ _ _ _ _ _ _ _ _ _ _ h_1898 (0 + 0 + 0 + 0 + 0 + 1 + 1 + 2 + 0 + 0 + 0 + 0 + 0) (0 + 0 + 0 + 0 + 0 + 2 + 4 + 6 + 0 + 0 + 0 + 0 + 0) 238 #[.val (.int y0), .val (.int y1), .val (.int y2), .val (.int y3), .val (.int y4), .val (.int 2), .val (.int c0), .val (.int c1), .val (.int c2), .val (.int c3), .val (.ref a_1838), .val (.ref a_1879), .val (.int 0)] [(.int rt)]
              have ht : rt.toInt = 0 := hrt.resolve_right (fun t => own_b0 ir3 t3 ((own_l2 c0 c1 c2 c3).mp (irt.mp t)).2.2.2)
              refine Go.iload (pc' := 240) at_238 rfl rfl ?_
              refine Go.icmp (pc1 := 247) (pc2 := 243) at_240 (by decide) (by decide) rfl (fun (c_1924 : rt.toInt ≠ (0 : Int)) => ?_) (fun (c_1924 : rt.toInt = (0 : Int)) => ?_)
              · exact absurd ht c_1924
              refine Go.iconst (pc' := 244) (v := (1 : Int32)) at_243 rfl rfl ?_
              refine Go.goto (pc' := 248) at_244 (by decide) (by decide) ?_
              exact Go.retN (t := .boolean) at_248 rfl (by simp) rfl rfl (by decide) (by decide)
            · refine Go.iconst (pc' := 227) (v := (1 : Int32)) at_226 rfl rfl ?_
              refine Go.goto (pc' := 231) at_227 (by decide) (by decide) ?_
              refine Go.istore (pc' := 233) (Ls' := #[.val (.int y0), .val (.int y1), .val (.int y2), .val (.int y3), .val (.int y4), .val (.int 2), .val (.int c0), .val (.int c1), .val (.int c2), .val (.int c3), .val (.ref a_1838), .val (.ref a_1879), .val (.int 1)]) at_231 rfl rfl ?_
              refine Go.aload (pc' := 235) at_233 rfl rfl rfl ?_
              refine Go.callS (pc' := 238) (argsL := [(.ref a_1879)]) (rest := []) (W := 0) (own_w hw 30 rfl) (own_w hw 31 rfl) (own_w hw 32 rfl) (own_w hw 33 rfl) (by decide) (m_tx2_0 l Z a0 hw a_1879 o b0 b1 c0 c1 cs fm h_1898 n0 z_1911 O_1912 hSCS hSAD hSHB hSLB hSFM hcs hfm f_1906 f1 f2 A e0 e1) at_235 rfl pd19 rfl rfl (Nat.le_of_eq rfl) (by decide) (by decide) (by decide) (by decide) rfl ?_
              rintro _ _ ⟨rt, rfl, rfl, hrt, irt⟩
              show Go _ _ _ _ _ _ _ _ _ _ _ _ h_1898 (0 + 0 + 0 + 0 + 0 + 1 + 1 + 2 + 0 + 0 + 0 + 0 + 0) (0 + 0 + 0 + 0 + 0 + 2 + 4 + 6 + 0 + 0 + 0 + 0 + 0) 238 #[.val (.int y0), .val (.int y1), .val (.int y2), .val (.int y3), .val (.int y4), .val (.int 2), .val (.int c0), .val (.int c1), .val (.int c2), .val (.int c3), .val (.ref a_1838), .val (.ref a_1879), .val (.int 1)] [(.int rt)]
              have ht : rt.toInt = 1 := irt.mpr ((own_l2 c0 c1 c2 c3).mpr ⟨own_b1 ir0 hr0 t0, own_b1 ir1 hr1 t1, own_b1 ir2 hr2 t2, own_b1 ir3 hr3 t3⟩)
              refine Go.iload (pc' := 240) at_238 rfl rfl ?_
              refine Go.icmp (pc1 := 247) (pc2 := 243) at_240 (by decide) (by decide) rfl (fun (c_1925 : rt.toInt ≠ (1 : Int)) => ?_) (fun (c_1925 : rt.toInt = (1 : Int)) => ?_)
              · exact absurd ht c_1925
              refine Go.iconst (pc' := 244) (v := (1 : Int32)) at_243 rfl rfl ?_
              refine Go.goto (pc' := 248) at_244 (by decide) (by decide) ?_
              exact Go.retN (t := .boolean) at_248 rfl (by simp) rfl rfl (by decide) (by decide)
    · have n_1926 : a_1879 ≠ o := by obtain ⟨_, Ag, -⟩ := A; exact ne_arr f_1906 (own_w hw 7 rfl) Ag
      refine Go.astore (pc' := 97) (Ls' := #[.val (.int y0), .val (.int y1), .val (.int y2), .val (.int y3), .val (.int y4), .val (.int 2), .val (.int c0), .val (.int c1), .val (.int c2), .val (.int c3), .val (.ref a_1838), .val (.ref a_1879), .unset]) at_95 rfl rfl rfl ?_
      refine Go.iload (pc' := 99) at_97 rfl rfl ?_
      refine Go.ifc (pc1 := 106) (pc2 := 102) at_99 (by decide) (by decide) rfl (fun (c_1927 : (2 : Int) ≤ 0) => ?_) (fun (c_1927 : 0 < (2 : Int)) => ?_)
      · exact absurd c_1927 (by decide)
      refine Go.iconst (pc' := 103) (v := (1 : Int32)) at_102 rfl rfl ?_
      refine Go.goto (pc' := 107) at_103 (by decide) (by decide) ?_
      refine Go.iconst (pc' := 108) (v := (0 : Int32)) at_107 rfl rfl ?_
      refine Go.iload (pc' := 110) at_108 rfl rfl ?_
      refine Go.iload (pc' := 112) at_110 rfl rfl ?_
      refine Go.iload (pc' := 114) at_112 rfl rfl ?_
      refine Go.iconst (pc' := 115) (v := (1 : Int32)) at_114 rfl rfl ?_
      refine Go.icmp (pc1 := 122) (pc2 := 118) at_115 (by decide) (by decide) rfl (fun (c_1928 : (2 : Int) ≤ (1 : Int)) => ?_) (fun (c_1928 : (1 : Int) < (2 : Int)) => ?_)
      · exact absurd c_1928 (by decide)
      refine Go.iconst (pc' := 119) (v := (1 : Int32)) at_118 rfl rfl ?_
      refine Go.goto (pc' := 123) at_119 (by decide) (by decide) ?_
      refine Go.iload (pc' := 125) at_123 rfl rfl ?_
      refine Go.callS (pc' := 128) (argsL := [(.int 1), (.int 0), (.int c0), (.int c0), (.int 1), (.int c1)]) (rest := []) (W := 0) (own_w hw 27 rfl) (own_w hw 28 rfl) (own_w hw 3 rfl) (own_w hw 29 rfl) (by decide) (m_ok l Z a0 hw (1 : Int32) (0 : Int32) c0 c0 (1 : Int32) c1 h_1898 n0 z_1911) at_125 rfl pd18 rfl rfl (Nat.le_of_eq rfl) (by decide) (by decide) (by decide) (by decide) rfl ?_
      rintro _ _ ⟨r0, rfl, rfl, hr0, ir0⟩
      show Go _ _ _ _ _ _ _ _ _ _ _ _ h_1898 (0 + 0 + 0 + 0 + 0 + 1 + 1 + 2 + 0) (0 + 0 + 0 + 0 + 0 + 2 + 4 + 6 + 0) 128 #[.val (.int y0), .val (.int y1), .val (.int y2), .val (.int y3), .val (.int y4), .val (.int 2), .val (.int c0), .val (.int c1), .val (.int c2), .val (.int c3), .val (.ref a_1838), .val (.ref a_1879), .unset] [(.int r0)]
      refine Go.ifc (pc1 := 230) (pc2 := 131) at_128 (by decide) (by decide) rfl (fun (t0 : r0.toInt = 0) => ?_) (fun (t0 : r0.toInt ≠ 0) => ?_)
      · refine Go.iconst (pc' := 231) (v := (0 : Int32)) at_230 rfl rfl ?_
        refine Go.istore (pc' := 233) (Ls' := #[.val (.int y0), .val (.int y1), .val (.int y2), .val (.int y3), .val (.int y4), .val (.int 2), .val (.int c0), .val (.int c1), .val (.int c2), .val (.int c3), .val (.ref a_1838), .val (.ref a_1879), .val (.int 0)]) at_231 rfl rfl ?_
        refine Go.aload (pc' := 235) at_233 rfl rfl rfl ?_
        refine Go.callS (pc' := 238) (argsL := [(.ref a_1879)]) (rest := []) (W := 0) (own_w hw 30 rfl) (own_w hw 31 rfl) (own_w hw 32 rfl) (own_w hw 33 rfl) (by decide) (m_tx2_1 l Z a0 hw a_1879 o l0 g0 l1 g1 c0 c1 cs fm h_1898 n0 z_1911 O_1912 hSCS hSAD hSHB hSLB hSFM hcs hfm f_1906 f1 f2 A e0 e1) at_235 rfl pd19 rfl rfl (Nat.le_of_eq rfl) (by decide) (by decide) (by decide) (by decide) rfl ?_
        rintro _ _ ⟨rt, rfl, rfl, hrt, irt⟩
        show Go _ _ _ _ _ _ _ _ _ _ _ _ h_1898 (0 + 0 + 0 + 0 + 0 + 1 + 1 + 2 + 0 + 0) (0 + 0 + 0 + 0 + 0 + 2 + 4 + 6 + 0 + 0) 238 #[.val (.int y0), .val (.int y1), .val (.int y2), .val (.int y3), .val (.int y4), .val (.int 2), .val (.int c0), .val (.int c1), .val (.int c2), .val (.int c3), .val (.ref a_1838), .val (.ref a_1879), .val (.int 0)] [(.int rt)]
        have ht : rt.toInt = 0 := hrt.resolve_right (fun t => own_b0 ir0 t0 ((own_l2 c0 c1 c2 c3).mp (irt.mp t)).1)
        refine Go.iload (pc' := 240) at_238 rfl rfl ?_
        refine Go.icmp (pc1 := 247) (pc2 := 243) at_240 (by decide) (by decide) rfl (fun (c_1929 : rt.toInt ≠ (0 : Int)) => ?_) (fun (c_1929 : rt.toInt = (0 : Int)) => ?_)
        · exact absurd ht c_1929
        refine Go.iconst (pc' := 244) (v := (1 : Int32)) at_243 rfl rfl ?_
        refine Go.goto (pc' := 248) at_244 (by decide) (by decide) ?_
        exact Go.retN (t := .boolean) at_248 rfl (by simp) rfl rfl (by decide) (by decide)
      · refine Go.iload (pc' := 133) at_131 rfl rfl ?_
        refine Go.iconst (pc' := 134) (v := (1 : Int32)) at_133 rfl rfl ?_
        refine Go.icmp (pc1 := 141) (pc2 := 137) at_134 (by decide) (by decide) rfl (fun (c_1930 : (2 : Int) ≤ (1 : Int)) => ?_) (fun (c_1930 : (1 : Int) < (2 : Int)) => ?_)
        · exact absurd c_1930 (by decide)
        refine Go.iconst (pc' := 138) (v := (1 : Int32)) at_137 rfl rfl ?_
        refine Go.goto (pc' := 142) at_138 (by decide) (by decide) ?_
        refine Go.iconst (pc' := 143) (v := (1 : Int32)) at_142 rfl rfl ?_
        refine Go.iload (pc' := 145) at_143 rfl rfl ?_
        refine Go.iload (pc' := 147) at_145 rfl rfl ?_
        refine Go.iload (pc' := 149) at_147 rfl rfl ?_
        refine Go.iconst (pc' := 150) (v := (2 : Int32)) at_149 rfl rfl ?_
        refine Go.icmp (pc1 := 157) (pc2 := 153) at_150 (by decide) (by decide) rfl (fun (c_1931 : (2 : Int) ≤ (2 : Int)) => ?_) (fun (c_1931 : (2 : Int) < (2 : Int)) => ?_)
        rotate_left
        · exact absurd c_1931 (by decide)
        refine Go.iconst (pc' := 158) (v := (0 : Int32)) at_157 rfl rfl ?_
        refine Go.iload (pc' := 160) at_158 rfl rfl ?_
        refine Go.callS (pc' := 163) (argsL := [(.int 1), (.int 1), (.int c0), (.int c1), (.int 0), (.int c2)]) (rest := []) (W := 0) (own_w hw 27 rfl) (own_w hw 28 rfl) (own_w hw 3 rfl) (own_w hw 29 rfl) (by decide) (m_ok l Z a0 hw (1 : Int32) (1 : Int32) c0 c1 (0 : Int32) c2 h_1898 n0 z_1911) at_160 rfl pd18 rfl rfl (Nat.le_of_eq rfl) (by decide) (by decide) (by decide) (by decide) rfl ?_
        rintro _ _ ⟨r1, rfl, rfl, hr1, ir1⟩
        show Go _ _ _ _ _ _ _ _ _ _ _ _ h_1898 (0 + 0 + 0 + 0 + 0 + 1 + 1 + 2 + 0 + 0) (0 + 0 + 0 + 0 + 0 + 2 + 4 + 6 + 0 + 0) 163 #[.val (.int y0), .val (.int y1), .val (.int y2), .val (.int y3), .val (.int y4), .val (.int 2), .val (.int c0), .val (.int c1), .val (.int c2), .val (.int c3), .val (.ref a_1838), .val (.ref a_1879), .unset] [(.int r1)]
        refine Go.ifc (pc1 := 230) (pc2 := 166) at_163 (by decide) (by decide) rfl (fun (t1 : r1.toInt = 0) => ?_) (fun (t1 : r1.toInt ≠ 0) => ?_)
        · refine Go.iconst (pc' := 231) (v := (0 : Int32)) at_230 rfl rfl ?_
          refine Go.istore (pc' := 233) (Ls' := #[.val (.int y0), .val (.int y1), .val (.int y2), .val (.int y3), .val (.int y4), .val (.int 2), .val (.int c0), .val (.int c1), .val (.int c2), .val (.int c3), .val (.ref a_1838), .val (.ref a_1879), .val (.int 0)]) at_231 rfl rfl ?_
          refine Go.aload (pc' := 235) at_233 rfl rfl rfl ?_
          refine Go.callS (pc' := 238) (argsL := [(.ref a_1879)]) (rest := []) (W := 0) (own_w hw 30 rfl) (own_w hw 31 rfl) (own_w hw 32 rfl) (own_w hw 33 rfl) (by decide) (m_tx2_1 l Z a0 hw a_1879 o l0 g0 l1 g1 c0 c1 cs fm h_1898 n0 z_1911 O_1912 hSCS hSAD hSHB hSLB hSFM hcs hfm f_1906 f1 f2 A e0 e1) at_235 rfl pd19 rfl rfl (Nat.le_of_eq rfl) (by decide) (by decide) (by decide) (by decide) rfl ?_
          rintro _ _ ⟨rt, rfl, rfl, hrt, irt⟩
          show Go _ _ _ _ _ _ _ _ _ _ _ _ h_1898 (0 + 0 + 0 + 0 + 0 + 1 + 1 + 2 + 0 + 0 + 0) (0 + 0 + 0 + 0 + 0 + 2 + 4 + 6 + 0 + 0 + 0) 238 #[.val (.int y0), .val (.int y1), .val (.int y2), .val (.int y3), .val (.int y4), .val (.int 2), .val (.int c0), .val (.int c1), .val (.int c2), .val (.int c3), .val (.ref a_1838), .val (.ref a_1879), .val (.int 0)] [(.int rt)]
          have ht : rt.toInt = 0 := hrt.resolve_right (fun t => own_b0 ir1 t1 ((own_l2 c0 c1 c2 c3).mp (irt.mp t)).2.1)
          refine Go.iload (pc' := 240) at_238 rfl rfl ?_
          refine Go.icmp (pc1 := 247) (pc2 := 243) at_240 (by decide) (by decide) rfl (fun (c_1932 : rt.toInt ≠ (0 : Int)) => ?_) (fun (c_1932 : rt.toInt = (0 : Int)) => ?_)
          · exact absurd ht c_1932
          refine Go.iconst (pc' := 244) (v := (1 : Int32)) at_243 rfl rfl ?_
          refine Go.goto (pc' := 248) at_244 (by decide) (by decide) ?_
          exact Go.retN (t := .boolean) at_248 rfl (by simp) rfl rfl (by decide) (by decide)
        · refine Go.iload (pc' := 168) at_166 rfl rfl ?_
          refine Go.iconst (pc' := 169) (v := (2 : Int32)) at_168 rfl rfl ?_
          refine Go.icmp (pc1 := 176) (pc2 := 172) at_169 (by decide) (by decide) rfl (fun (c_1933 : (2 : Int) ≤ (2 : Int)) => ?_) (fun (c_1933 : (2 : Int) < (2 : Int)) => ?_)
          rotate_left
          · exact absurd c_1933 (by decide)
          refine Go.iconst (pc' := 177) (v := (0 : Int32)) at_176 rfl rfl ?_
          refine Go.iconst (pc' := 178) (v := (1 : Int32)) at_177 rfl rfl ?_
          refine Go.iload (pc' := 180) at_178 rfl rfl ?_
          refine Go.iload (pc' := 182) at_180 rfl rfl ?_
          refine Go.iload (pc' := 184) at_182 rfl rfl ?_
          refine Go.iconst (pc' := 185) (v := (3 : Int32)) at_184 rfl rfl ?_
          refine Go.icmp (pc1 := 192) (pc2 := 188) at_185 (by decide) (by decide) rfl (fun (c_1934 : (2 : Int) ≤ (3 : Int)) => ?_) (fun (c_1934 : (3 : Int) < (2 : Int)) => ?_)
          rotate_left
          · exact absurd c_1934 (by decide)
          refine Go.iconst (pc' := 193) (v := (0 : Int32)) at_192 rfl rfl ?_
          refine Go.iload (pc' := 195) at_193 rfl rfl ?_
          refine Go.callS (pc' := 198) (argsL := [(.int 0), (.int 1), (.int c1), (.int c2), (.int 0), (.int c3)]) (rest := []) (W := 0) (own_w hw 27 rfl) (own_w hw 28 rfl) (own_w hw 3 rfl) (own_w hw 29 rfl) (by decide) (m_ok l Z a0 hw (0 : Int32) (1 : Int32) c1 c2 (0 : Int32) c3 h_1898 n0 z_1911) at_195 rfl pd18 rfl rfl (Nat.le_of_eq rfl) (by decide) (by decide) (by decide) (by decide) rfl ?_
          rintro _ _ ⟨r2, rfl, rfl, hr2, ir2⟩
          show Go _ _ _ _ _ _ _ _ _ _ _ _ h_1898 (0 + 0 + 0 + 0 + 0 + 1 + 1 + 2 + 0 + 0 + 0) (0 + 0 + 0 + 0 + 0 + 2 + 4 + 6 + 0 + 0 + 0) 198 #[.val (.int y0), .val (.int y1), .val (.int y2), .val (.int y3), .val (.int y4), .val (.int 2), .val (.int c0), .val (.int c1), .val (.int c2), .val (.int c3), .val (.ref a_1838), .val (.ref a_1879), .unset] [(.int r2)]
          refine Go.ifc (pc1 := 230) (pc2 := 201) at_198 (by decide) (by decide) rfl (fun (t2 : r2.toInt = 0) => ?_) (fun (t2 : r2.toInt ≠ 0) => ?_)
          · refine Go.iconst (pc' := 231) (v := (0 : Int32)) at_230 rfl rfl ?_
            refine Go.istore (pc' := 233) (Ls' := #[.val (.int y0), .val (.int y1), .val (.int y2), .val (.int y3), .val (.int y4), .val (.int 2), .val (.int c0), .val (.int c1), .val (.int c2), .val (.int c3), .val (.ref a_1838), .val (.ref a_1879), .val (.int 0)]) at_231 rfl rfl ?_
            refine Go.aload (pc' := 235) at_233 rfl rfl rfl ?_
            refine Go.callS (pc' := 238) (argsL := [(.ref a_1879)]) (rest := []) (W := 0) (own_w hw 30 rfl) (own_w hw 31 rfl) (own_w hw 32 rfl) (own_w hw 33 rfl) (by decide) (m_tx2_1 l Z a0 hw a_1879 o l0 g0 l1 g1 c0 c1 cs fm h_1898 n0 z_1911 O_1912 hSCS hSAD hSHB hSLB hSFM hcs hfm f_1906 f1 f2 A e0 e1) at_235 rfl pd19 rfl rfl (Nat.le_of_eq rfl) (by decide) (by decide) (by decide) (by decide) rfl ?_
            rintro _ _ ⟨rt, rfl, rfl, hrt, irt⟩
            show Go _ _ _ _ _ _ _ _ _ _ _ _ h_1898 (0 + 0 + 0 + 0 + 0 + 1 + 1 + 2 + 0 + 0 + 0 + 0) (0 + 0 + 0 + 0 + 0 + 2 + 4 + 6 + 0 + 0 + 0 + 0) 238 #[.val (.int y0), .val (.int y1), .val (.int y2), .val (.int y3), .val (.int y4), .val (.int 2), .val (.int c0), .val (.int c1), .val (.int c2), .val (.int c3), .val (.ref a_1838), .val (.ref a_1879), .val (.int 0)] [(.int rt)]
            have ht : rt.toInt = 0 := hrt.resolve_right (fun t => own_b0 ir2 t2 ((own_l2 c0 c1 c2 c3).mp (irt.mp t)).2.2.1)
            refine Go.iload (pc' := 240) at_238 rfl rfl ?_
            refine Go.icmp (pc1 := 247) (pc2 := 243) at_240 (by decide) (by decide) rfl (fun (c_1935 : rt.toInt ≠ (0 : Int)) => ?_) (fun (c_1935 : rt.toInt = (0 : Int)) => ?_)
            · exact absurd ht c_1935
            refine Go.iconst (pc' := 244) (v := (1 : Int32)) at_243 rfl rfl ?_
            refine Go.goto (pc' := 248) at_244 (by decide) (by decide) ?_
            exact Go.retN (t := .boolean) at_248 rfl (by simp) rfl rfl (by decide) (by decide)
          · refine Go.iload (pc' := 203) at_201 rfl rfl ?_
            refine Go.iconst (pc' := 204) (v := (3 : Int32)) at_203 rfl rfl ?_
            refine Go.icmp (pc1 := 211) (pc2 := 207) at_204 (by decide) (by decide) rfl (fun (c_1936 : (2 : Int) ≤ (3 : Int)) => ?_) (fun (c_1936 : (3 : Int) < (2 : Int)) => ?_)
            rotate_left
            · exact absurd c_1936 (by decide)
            refine Go.iconst (pc' := 212) (v := (0 : Int32)) at_211 rfl rfl ?_
            refine Go.iconst (pc' := 213) (v := (1 : Int32)) at_212 rfl rfl ?_
            refine Go.iload (pc' := 215) at_213 rfl rfl ?_
            refine Go.iload (pc' := 217) at_215 rfl rfl ?_
            refine Go.iconst (pc' := 218) (v := (0 : Int32)) at_217 rfl rfl ?_
            refine Go.iload (pc' := 220) at_218 rfl rfl ?_
            refine Go.callS (pc' := 223) (argsL := [(.int 0), (.int 1), (.int c2), (.int c3), (.int 0), (.int c3)]) (rest := []) (W := 0) (own_w hw 27 rfl) (own_w hw 28 rfl) (own_w hw 3 rfl) (own_w hw 29 rfl) (by decide) (m_ok l Z a0 hw (0 : Int32) (1 : Int32) c2 c3 (0 : Int32) c3 h_1898 n0 z_1911) at_220 rfl pd18 rfl rfl (Nat.le_of_eq rfl) (by decide) (by decide) (by decide) (by decide) rfl ?_
            rintro _ _ ⟨r3, rfl, rfl, hr3, ir3⟩
            show Go _ _ _ _ _ _ _ _ _ _ _ _ h_1898 (0 + 0 + 0 + 0 + 0 + 1 + 1 + 2 + 0 + 0 + 0 + 0) (0 + 0 + 0 + 0 + 0 + 2 + 4 + 6 + 0 + 0 + 0 + 0) 223 #[.val (.int y0), .val (.int y1), .val (.int y2), .val (.int y3), .val (.int y4), .val (.int 2), .val (.int c0), .val (.int c1), .val (.int c2), .val (.int c3), .val (.ref a_1838), .val (.ref a_1879), .unset] [(.int r3)]
            refine Go.ifc (pc1 := 230) (pc2 := 226) at_223 (by decide) (by decide) rfl (fun (t3 : r3.toInt = 0) => ?_) (fun (t3 : r3.toInt ≠ 0) => ?_)
            · refine Go.iconst (pc' := 231) (v := (0 : Int32)) at_230 rfl rfl ?_
              refine Go.istore (pc' := 233) (Ls' := #[.val (.int y0), .val (.int y1), .val (.int y2), .val (.int y3), .val (.int y4), .val (.int 2), .val (.int c0), .val (.int c1), .val (.int c2), .val (.int c3), .val (.ref a_1838), .val (.ref a_1879), .val (.int 0)]) at_231 rfl rfl ?_
              refine Go.aload (pc' := 235) at_233 rfl rfl rfl ?_
              refine Go.callS (pc' := 238) (argsL := [(.ref a_1879)]) (rest := []) (W := 0) (own_w hw 30 rfl) (own_w hw 31 rfl) (own_w hw 32 rfl) (own_w hw 33 rfl) (by decide) (m_tx2_1 l Z a0 hw a_1879 o l0 g0 l1 g1 c0 c1 cs fm h_1898 n0 z_1911 O_1912 hSCS hSAD hSHB hSLB hSFM hcs hfm f_1906 f1 f2 A e0 e1) at_235 rfl pd19 rfl rfl (Nat.le_of_eq rfl) (by decide) (by decide) (by decide) (by decide) rfl ?_
              rintro _ _ ⟨rt, rfl, rfl, hrt, irt⟩
              show Go _ _ _ _ _ _ _ _ _ _ _ _ h_1898 (0 + 0 + 0 + 0 + 0 + 1 + 1 + 2 + 0 + 0 + 0 + 0 + 0) (0 + 0 + 0 + 0 + 0 + 2 + 4 + 6 + 0 + 0 + 0 + 0 + 0) 238 #[.val (.int y0), .val (.int y1), .val (.int y2), .val (.int y3), .val (.int y4), .val (.int 2), .val (.int c0), .val (.int c1), .val (.int c2), .val (.int c3), .val (.ref a_1838), .val (.ref a_1879), .val (.int 0)] [(.int rt)]
              have ht : rt.toInt = 0 := hrt.resolve_right (fun t => own_b0 ir3 t3 ((own_l2 c0 c1 c2 c3).mp (irt.mp t)).2.2.2)
              refine Go.iload (pc' := 240) at_238 rfl rfl ?_
              refine Go.icmp (pc1 := 247) (pc2 := 243) at_240 (by decide) (by decide) rfl (fun (c_1937 : rt.toInt ≠ (0 : Int)) => ?_) (fun (c_1937 : rt.toInt = (0 : Int)) => ?_)
              · exact absurd ht c_1937
              refine Go.iconst (pc' := 244) (v := (1 : Int32)) at_243 rfl rfl ?_
              refine Go.goto (pc' := 248) at_244 (by decide) (by decide) ?_
              exact Go.retN (t := .boolean) at_248 rfl (by simp) rfl rfl (by decide) (by decide)
            · refine Go.iconst (pc' := 227) (v := (1 : Int32)) at_226 rfl rfl ?_
              refine Go.goto (pc' := 231) at_227 (by decide) (by decide) ?_
              refine Go.istore (pc' := 233) (Ls' := #[.val (.int y0), .val (.int y1), .val (.int y2), .val (.int y3), .val (.int y4), .val (.int 2), .val (.int c0), .val (.int c1), .val (.int c2), .val (.int c3), .val (.ref a_1838), .val (.ref a_1879), .val (.int 1)]) at_231 rfl rfl ?_
              refine Go.aload (pc' := 235) at_233 rfl rfl rfl ?_
              refine Go.callS (pc' := 238) (argsL := [(.ref a_1879)]) (rest := []) (W := 0) (own_w hw 30 rfl) (own_w hw 31 rfl) (own_w hw 32 rfl) (own_w hw 33 rfl) (by decide) (m_tx2_1 l Z a0 hw a_1879 o l0 g0 l1 g1 c0 c1 cs fm h_1898 n0 z_1911 O_1912 hSCS hSAD hSHB hSLB hSFM hcs hfm f_1906 f1 f2 A e0 e1) at_235 rfl pd19 rfl rfl (Nat.le_of_eq rfl) (by decide) (by decide) (by decide) (by decide) rfl ?_
              rintro _ _ ⟨rt, rfl, rfl, hrt, irt⟩
              show Go _ _ _ _ _ _ _ _ _ _ _ _ h_1898 (0 + 0 + 0 + 0 + 0 + 1 + 1 + 2 + 0 + 0 + 0 + 0 + 0) (0 + 0 + 0 + 0 + 0 + 2 + 4 + 6 + 0 + 0 + 0 + 0 + 0) 238 #[.val (.int y0), .val (.int y1), .val (.int y2), .val (.int y3), .val (.int y4), .val (.int 2), .val (.int c0), .val (.int c1), .val (.int c2), .val (.int c3), .val (.ref a_1838), .val (.ref a_1879), .val (.int 1)] [(.int rt)]
              have ht : rt.toInt = 1 := irt.mpr ((own_l2 c0 c1 c2 c3).mpr ⟨own_b1 ir0 hr0 t0, own_b1 ir1 hr1 t1, own_b1 ir2 hr2 t2, own_b1 ir3 hr3 t3⟩)
              refine Go.iload (pc' := 240) at_238 rfl rfl ?_
              refine Go.icmp (pc1 := 247) (pc2 := 243) at_240 (by decide) (by decide) rfl (fun (c_1938 : rt.toInt ≠ (1 : Int)) => ?_) (fun (c_1938 : rt.toInt = (1 : Int)) => ?_)
              · exact absurd ht c_1938
              refine Go.iconst (pc' := 244) (v := (1 : Int32)) at_243 rfl rfl ?_
              refine Go.goto (pc' := 248) at_244 (by decide) (by decide) ?_
              exact Go.retN (t := .boolean) at_248 rfl (by simp) rfl rfl (by decide) (by decide)
  · obtain rfl : k_1677 = (3 : Int32) := Int32.toInt_inj.mp k_1678
    refine Go.iload (pc' := 35) at_33 rfl rfl ?_
    refine Go.newA (pc' := 37) (k := 3) (ty := .char) (cap := 3) (own_w hw 5 rfl) rfl rfl (by decide) (by decide) at_35 (by decide) (by decide) rfl ?_
    intro h_1939 a_1940 q_1941 E_1942 A_1943
    have g_1945 : n0 ≤ a_1940 := q_1941 ▸ z0
    have z_1951 : n0 ≤ h_1939.size := Nat.le_trans z0 E_1942.1
    have O_1952 : Old Z n0 h_1939 := hO.ext E_1942
    have f_1946 := Sta.ext O_1952.2 hSCS
    have f_1947 := Sta.ext O_1952.2 hSAD
    have f_1948 := Sta.ext O_1952.2 hSHB
    have f_1949 := Sta.ext O_1952.2 hSLB
    have f_1950 := Sta.ext O_1952.2 hSFM
    have t_1953 : a_1940 < h_1939.size := A_1943.lt
    change Ary Z h_1939 a_1940 .char [(.int 0), (.int 0), (.int 0)] at A_1943
    refine Go.astore (pc' := 39) (Ls' := #[.val (.int y0), .val (.int y1), .val (.int y2), .val (.int y3), .val (.int y4), .val (.int 3), .val (.int c0), .val (.int c1), .val (.int c2), .val (.int c3), .val (.ref a_1940), .unset, .unset]) at_37 rfl rfl rfl ?_
    refine Go.iload (pc' := 41) at_39 rfl rfl ?_
    refine Go.ifc (pc1 := 50) (pc2 := 44) at_41 (by decide) (by decide) rfl (fun (c_1954 : (3 : Int) ≤ 0) => ?_) (fun (c_1954 : 0 < (3 : Int)) => ?_)
    · exact absurd c_1954 (by decide)
    refine Go.aload (pc' := 46) at_44 rfl rfl rfl ?_
    refine Go.iconst (pc' := 47) (v := (0 : Int32)) at_46 rfl rfl ?_
    refine Go.iload (pc' := 49) at_47 rfl rfl ?_
    refine Go.stC (pc' := 50) (k := 0) A_1943 rfl (by show 0 < 3; decide) at_49 g_1945 rfl ?_
    intro h_1955 W_1956 A_1957
    rw [nc0] at W_1956 A_1957
    have t_1963 : a_1940 < h_1955.size := Nat.lt_of_lt_of_le t_1953 (Nat.le_of_eq W_1956.size.symm)
    have z_1964 : n0 ≤ h_1955.size := Nat.le_trans z_1951 (Nat.le_of_eq W_1956.size.symm)
    have O_1965 : Old Z n0 h_1955 := O_1952.wr W_1956 g_1945
    have f_1958 := Sta.ext O_1965.2 hSCS
    have f_1959 := Sta.ext O_1965.2 hSAD
    have f_1960 := Sta.ext O_1965.2 hSHB
    have f_1961 := Sta.ext O_1965.2 hSLB
    have f_1962 := Sta.ext O_1965.2 hSFM
    change Ary Z h_1955 a_1940 .char [(.int c0), (.int 0), (.int 0)] at A_1957
    refine Go.iload (pc' := 52) at_50 rfl rfl ?_
    refine Go.iconst (pc' := 53) (v := (1 : Int32)) at_52 rfl rfl ?_
    refine Go.icmp (pc1 := 62) (pc2 := 56) at_53 (by decide) (by decide) rfl (fun (c_1966 : (3 : Int) ≤ (1 : Int)) => ?_) (fun (c_1966 : (1 : Int) < (3 : Int)) => ?_)
    · exact absurd c_1966 (by decide)
    refine Go.aload (pc' := 58) at_56 rfl rfl rfl ?_
    refine Go.iconst (pc' := 59) (v := (1 : Int32)) at_58 rfl rfl ?_
    refine Go.iload (pc' := 61) at_59 rfl rfl ?_
    refine Go.stC (pc' := 62) (k := 1) A_1957 rfl (by show 1 < 3; decide) at_61 g_1945 rfl ?_
    intro h_1967 W_1968 A_1969
    rw [nc1] at W_1968 A_1969
    have t_1975 : a_1940 < h_1967.size := Nat.lt_of_lt_of_le t_1963 (Nat.le_of_eq W_1968.size.symm)
    have z_1976 : n0 ≤ h_1967.size := Nat.le_trans z_1964 (Nat.le_of_eq W_1968.size.symm)
    have O_1977 : Old Z n0 h_1967 := O_1965.wr W_1968 g_1945
    have f_1970 := Sta.ext O_1977.2 hSCS
    have f_1971 := Sta.ext O_1977.2 hSAD
    have f_1972 := Sta.ext O_1977.2 hSHB
    have f_1973 := Sta.ext O_1977.2 hSLB
    have f_1974 := Sta.ext O_1977.2 hSFM
    change Ary Z h_1967 a_1940 .char [(.int c0), (.int c1), (.int 0)] at A_1969
    refine Go.iload (pc' := 64) at_62 rfl rfl ?_
    refine Go.iconst (pc' := 65) (v := (2 : Int32)) at_64 rfl rfl ?_
    refine Go.icmp (pc1 := 74) (pc2 := 68) at_65 (by decide) (by decide) rfl (fun (c_1978 : (3 : Int) ≤ (2 : Int)) => ?_) (fun (c_1978 : (2 : Int) < (3 : Int)) => ?_)
    · exact absurd c_1978 (by decide)
    refine Go.aload (pc' := 70) at_68 rfl rfl rfl ?_
    refine Go.iconst (pc' := 71) (v := (2 : Int32)) at_70 rfl rfl ?_
    refine Go.iload (pc' := 73) at_71 rfl rfl ?_
    refine Go.stC (pc' := 74) (k := 2) A_1969 rfl (by show 2 < 3; decide) at_73 g_1945 rfl ?_
    intro h_1979 W_1980 A_1981
    rw [nc2] at W_1980 A_1981
    have t_1987 : a_1940 < h_1979.size := Nat.lt_of_lt_of_le t_1975 (Nat.le_of_eq W_1980.size.symm)
    have z_1988 : n0 ≤ h_1979.size := Nat.le_trans z_1976 (Nat.le_of_eq W_1980.size.symm)
    have O_1989 : Old Z n0 h_1979 := O_1977.wr W_1980 g_1945
    have f_1982 := Sta.ext O_1989.2 hSCS
    have f_1983 := Sta.ext O_1989.2 hSAD
    have f_1984 := Sta.ext O_1989.2 hSHB
    have f_1985 := Sta.ext O_1989.2 hSLB
    have f_1986 := Sta.ext O_1989.2 hSFM
    change Ary Z h_1979 a_1940 .char [(.int c0), (.int c1), (.int c2)] at A_1981
    refine Go.iload (pc' := 76) at_74 rfl rfl ?_
    refine Go.iconst (pc' := 77) (v := (3 : Int32)) at_76 rfl rfl ?_
    refine Go.icmp (pc1 := 86) (pc2 := 80) at_77 (by decide) (by decide) rfl (fun (c_1990 : (3 : Int) ≤ (3 : Int)) => ?_) (fun (c_1990 : (3 : Int) < (3 : Int)) => ?_)
    rotate_left
    · exact absurd c_1990 (by decide)
    refine Go.newO (pc' := 89) (own_w hw 6 rfl) (own_w hw 7 rfl) (own_w hw 8 rfl) at_86 (by decide) (by decide) rfl ?_
    intro h_1991 a_1992 q_1993 E_1994 A_1995 D_1996
    have n_1997 : a_1940 ≠ a_1992 := Nat.ne_of_lt (q_1993 ▸ t_1987)
    have g_1998 : n0 ≤ a_1992 := q_1993 ▸ z_1988
    have f_2004 : Ary Z h_1991 a_1940 .char [(.int c0), (.int c1), (.int c2)] := A_1981.sm (Sm.ext E_1994)
    have t_2005 : a_1940 < h_1991.size := Nat.lt_of_lt_of_le t_1987 E_1994.1
    have z_2006 : n0 ≤ h_1991.size := Nat.le_trans z_1988 E_1994.1
    have O_2007 : Old Z n0 h_1991 := O_1989.ext E_1994
    have f_1999 := Sta.ext O_2007.2 hSCS
    have f_2000 := Sta.ext O_2007.2 hSAD
    have f_2001 := Sta.ext O_2007.2 hSHB
    have f_2002 := Sta.ext O_2007.2 hSLB
    have f_2003 := Sta.ext O_2007.2 hSFM
    have t_2008 : a_1992 < h_1991.size := A_1995.lt
    have f_2009 : Fld Z h_1991 a_1992 "java/lang/String" "value" "[B" .null := D_1996 (Or.inr (own_w hw 21 rfl)) (ty := (.array .byte)) (by decide)
    have f_2010 : Fld Z h_1991 a_1992 "java/lang/String" "coder" "B" (.int 0) := D_1996 (Or.inr (own_w hw 22 rfl)) (ty := .byte) (by decide)
    refine Go.dup (pc' := 90) at_89 rfl rfl ?_
    refine Go.aload (pc' := 92) at_90 rfl rfl rfl ?_
    refine Go.callN (pc' := 95) (argsL := [(.ref a_1940)]) (rest := [(.ref a_1992)]) (W := 1) rfl (own_w hw 9 rfl) (own_w hw 10 rfl) (own_w hw 8 rfl) (own_w hw 11 rfl) (by decide) (m_s1_3 l Z a0 hw a_1992 a_1940 c0 c1 c2 cs h_1991 n0 z_2006 O_2007 hSCS hSAD hSHB hSLB hcs A_1995 f_2009 f_2010 g_1998 f_2004 hc0 hc1 hc2 ) at_92 rfl pd17 rfl rfl (Nat.le_of_eq rfl) (by decide) (by decide) (by decide) (by decide) rfl ?_
    rintro _ h_2011 ⟨rfl, K_2012, o, f1, lo, hs⟩
    have f_2013 : Ary Z h_2011 a_1940 .char [(.int c0), (.int c1), (.int c2)] := f_2004.sm (Sm.keep K_2012 (ninS n_1997 nin0))
    have f_2019 : Exa Z h_2011 a_1992 "java/lang/String" := A_1995.keep K_2012
    have t_2022 : a_1940 < h_2011.size := Nat.lt_of_lt_of_le t_2005 K_2012.1
    have t_2023 : a_1992 < h_2011.size := Nat.lt_of_lt_of_le t_2008 K_2012.1
    have z_2024 : n0 ≤ h_2011.size := Nat.le_trans z_2006 K_2012.1
    have O_2025 : Old Z n0 h_2011 := O_2007.keep K_2012 (allS g_1998 all0)
    have f_2014 := Sta.ext O_2025.2 hSCS
    have f_2015 := Sta.ext O_2025.2 hSAD
    have f_2016 := Sta.ext O_2025.2 hSHB
    have f_2017 := Sta.ext O_2025.2 hSLB
    have f_2018 := Sta.ext O_2025.2 hSFM
    show Go _ _ _ _ _ _ _ _ _ _ _ _ h_2011 (0 + 0 + 0 + 0 + 0 + 1 + 1 + 2) (0 + 0 + 0 + 0 + 0 + 3 + 4 + 9) 95 #[.val (.int y0), .val (.int y1), .val (.int y2), .val (.int y3), .val (.int y4), .val (.int 3), .val (.int c0), .val (.int c1), .val (.int c2), .val (.int c3), .val (.ref a_1940), .unset, .unset] [(.ref a_1992)]
    rcases hs with ⟨f2, b0, b1, b2, A, e0, e1, e2⟩ | ⟨f2, l0, g0, l1, g1, l2, g2, A, e0, e1, e2⟩
    · have n_2026 : a_1992 ≠ o := by obtain ⟨_, Ag, -⟩ := A; exact ne_arr f_2019 (own_w hw 7 rfl) Ag
      refine Go.astore (pc' := 97) (Ls' := #[.val (.int y0), .val (.int y1), .val (.int y2), .val (.int y3), .val (.int y4), .val (.int 3), .val (.int c0), .val (.int c1), .val (.int c2), .val (.int c3), .val (.ref a_1940), .val (.ref a_1992), .unset]) at_95 rfl rfl rfl ?_
      refine Go.iload (pc' := 99) at_97 rfl rfl ?_
      refine Go.ifc (pc1 := 106) (pc2 := 102) at_99 (by decide) (by decide) rfl (fun (c_2027 : (3 : Int) ≤ 0) => ?_) (fun (c_2027 : 0 < (3 : Int)) => ?_)
      · exact absurd c_2027 (by decide)
      refine Go.iconst (pc' := 103) (v := (1 : Int32)) at_102 rfl rfl ?_
      refine Go.goto (pc' := 107) at_103 (by decide) (by decide) ?_
      refine Go.iconst (pc' := 108) (v := (0 : Int32)) at_107 rfl rfl ?_
      refine Go.iload (pc' := 110) at_108 rfl rfl ?_
      refine Go.iload (pc' := 112) at_110 rfl rfl ?_
      refine Go.iload (pc' := 114) at_112 rfl rfl ?_
      refine Go.iconst (pc' := 115) (v := (1 : Int32)) at_114 rfl rfl ?_
      refine Go.icmp (pc1 := 122) (pc2 := 118) at_115 (by decide) (by decide) rfl (fun (c_2028 : (3 : Int) ≤ (1 : Int)) => ?_) (fun (c_2028 : (1 : Int) < (3 : Int)) => ?_)
      · exact absurd c_2028 (by decide)
      refine Go.iconst (pc' := 119) (v := (1 : Int32)) at_118 rfl rfl ?_
      refine Go.goto (pc' := 123) at_119 (by decide) (by decide) ?_
      refine Go.iload (pc' := 125) at_123 rfl rfl ?_
      refine Go.callS (pc' := 128) (argsL := [(.int 1), (.int 0), (.int c0), (.int c0), (.int 1), (.int c1)]) (rest := []) (W := 0) (own_w hw 27 rfl) (own_w hw 28 rfl) (own_w hw 3 rfl) (own_w hw 29 rfl) (by decide) (m_ok l Z a0 hw (1 : Int32) (0 : Int32) c0 c0 (1 : Int32) c1 h_2011 n0 z_2024) at_125 rfl pd18 rfl rfl (Nat.le_of_eq rfl) (by decide) (by decide) (by decide) (by decide) rfl ?_
      rintro _ _ ⟨r0, rfl, rfl, hr0, ir0⟩
      show Go _ _ _ _ _ _ _ _ _ _ _ _ h_2011 (0 + 0 + 0 + 0 + 0 + 1 + 1 + 2 + 0) (0 + 0 + 0 + 0 + 0 + 3 + 4 + 9 + 0) 128 #[.val (.int y0), .val (.int y1), .val (.int y2), .val (.int y3), .val (.int y4), .val (.int 3), .val (.int c0), .val (.int c1), .val (.int c2), .val (.int c3), .val (.ref a_1940), .val (.ref a_1992), .unset] [(.int r0)]
      refine Go.ifc (pc1 := 230) (pc2 := 131) at_128 (by decide) (by decide) rfl (fun (t0 : r0.toInt = 0) => ?_) (fun (t0 : r0.toInt ≠ 0) => ?_)
      · refine Go.iconst (pc' := 231) (v := (0 : Int32)) at_230 rfl rfl ?_
        refine Go.istore (pc' := 233) (Ls' := #[.val (.int y0), .val (.int y1), .val (.int y2), .val (.int y3), .val (.int y4), .val (.int 3), .val (.int c0), .val (.int c1), .val (.int c2), .val (.int c3), .val (.ref a_1940), .val (.ref a_1992), .val (.int 0)]) at_231 rfl rfl ?_
        refine Go.aload (pc' := 235) at_233 rfl rfl rfl ?_
        refine Go.callS (pc' := 238) (argsL := [(.ref a_1992)]) (rest := []) (W := 0) (own_w hw 30 rfl) (own_w hw 31 rfl) (own_w hw 32 rfl) (own_w hw 33 rfl) (by decide) (m_tx3_0 l Z a0 hw a_1992 o b0 b1 b2 c0 c1 c2 cs fm h_2011 n0 z_2024 O_2025 hSCS hSAD hSHB hSLB hSFM hcs hfm f_2019 f1 f2 A e0 e1 e2) at_235 rfl pd19 rfl rfl (Nat.le_of_eq rfl) (by decide) (by decide) (by decide) (by decide) rfl ?_
        rintro _ _ ⟨rt, rfl, rfl, hrt, irt⟩
        show Go _ _ _ _ _ _ _ _ _ _ _ _ h_2011 (0 + 0 + 0 + 0 + 0 + 1 + 1 + 2 + 0 + 0) (0 + 0 + 0 + 0 + 0 + 3 + 4 + 9 + 0 + 0) 238 #[.val (.int y0), .val (.int y1), .val (.int y2), .val (.int y3), .val (.int y4), .val (.int 3), .val (.int c0), .val (.int c1), .val (.int c2), .val (.int c3), .val (.ref a_1940), .val (.ref a_1992), .val (.int 0)] [(.int rt)]
        have ht : rt.toInt = 0 := hrt.resolve_right (fun t => own_b0 ir0 t0 ((own_l3 c0 c1 c2 c3).mp (irt.mp t)).1)
        refine Go.iload (pc' := 240) at_238 rfl rfl ?_
        refine Go.icmp (pc1 := 247) (pc2 := 243) at_240 (by decide) (by decide) rfl (fun (c_2029 : rt.toInt ≠ (0 : Int)) => ?_) (fun (c_2029 : rt.toInt = (0 : Int)) => ?_)
        · exact absurd ht c_2029
        refine Go.iconst (pc' := 244) (v := (1 : Int32)) at_243 rfl rfl ?_
        refine Go.goto (pc' := 248) at_244 (by decide) (by decide) ?_
        exact Go.retN (t := .boolean) at_248 rfl (by simp) rfl rfl (by decide) (by decide)
      · refine Go.iload (pc' := 133) at_131 rfl rfl ?_
        refine Go.iconst (pc' := 134) (v := (1 : Int32)) at_133 rfl rfl ?_
        refine Go.icmp (pc1 := 141) (pc2 := 137) at_134 (by decide) (by decide) rfl (fun (c_2030 : (3 : Int) ≤ (1 : Int)) => ?_) (fun (c_2030 : (1 : Int) < (3 : Int)) => ?_)
        · exact absurd c_2030 (by decide)
        refine Go.iconst (pc' := 138) (v := (1 : Int32)) at_137 rfl rfl ?_
        refine Go.goto (pc' := 142) at_138 (by decide) (by decide) ?_
        refine Go.iconst (pc' := 143) (v := (1 : Int32)) at_142 rfl rfl ?_
        refine Go.iload (pc' := 145) at_143 rfl rfl ?_
        refine Go.iload (pc' := 147) at_145 rfl rfl ?_
        refine Go.iload (pc' := 149) at_147 rfl rfl ?_
        refine Go.iconst (pc' := 150) (v := (2 : Int32)) at_149 rfl rfl ?_
        refine Go.icmp (pc1 := 157) (pc2 := 153) at_150 (by decide) (by decide) rfl (fun (c_2031 : (3 : Int) ≤ (2 : Int)) => ?_) (fun (c_2031 : (2 : Int) < (3 : Int)) => ?_)
        · exact absurd c_2031 (by decide)
        refine Go.iconst (pc' := 154) (v := (1 : Int32)) at_153 rfl rfl ?_
        refine Go.goto (pc' := 158) at_154 (by decide) (by decide) ?_
        refine Go.iload (pc' := 160) at_158 rfl rfl ?_
        refine Go.callS (pc' := 163) (argsL := [(.int 1), (.int 1), (.int c0), (.int c1), (.int 1), (.int c2)]) (rest := []) (W := 0) (own_w hw 27 rfl) (own_w hw 28 rfl) (own_w hw 3 rfl) (own_w hw 29 rfl) (by decide) (m_ok l Z a0 hw (1 : Int32) (1 : Int32) c0 c1 (1 : Int32) c2 h_2011 n0 z_2024) at_160 rfl pd18 rfl rfl (Nat.le_of_eq rfl) (by decide) (by decide) (by decide) (by decide) rfl ?_
        rintro _ _ ⟨r1, rfl, rfl, hr1, ir1⟩
        show Go _ _ _ _ _ _ _ _ _ _ _ _ h_2011 (0 + 0 + 0 + 0 + 0 + 1 + 1 + 2 + 0 + 0) (0 + 0 + 0 + 0 + 0 + 3 + 4 + 9 + 0 + 0) 163 #[.val (.int y0), .val (.int y1), .val (.int y2), .val (.int y3), .val (.int y4), .val (.int 3), .val (.int c0), .val (.int c1), .val (.int c2), .val (.int c3), .val (.ref a_1940), .val (.ref a_1992), .unset] [(.int r1)]
        refine Go.ifc (pc1 := 230) (pc2 := 166) at_163 (by decide) (by decide) rfl (fun (t1 : r1.toInt = 0) => ?_) (fun (t1 : r1.toInt ≠ 0) => ?_)
        · refine Go.iconst (pc' := 231) (v := (0 : Int32)) at_230 rfl rfl ?_
          refine Go.istore (pc' := 233) (Ls' := #[.val (.int y0), .val (.int y1), .val (.int y2), .val (.int y3), .val (.int y4), .val (.int 3), .val (.int c0), .val (.int c1), .val (.int c2), .val (.int c3), .val (.ref a_1940), .val (.ref a_1992), .val (.int 0)]) at_231 rfl rfl ?_
          refine Go.aload (pc' := 235) at_233 rfl rfl rfl ?_
          refine Go.callS (pc' := 238) (argsL := [(.ref a_1992)]) (rest := []) (W := 0) (own_w hw 30 rfl) (own_w hw 31 rfl) (own_w hw 32 rfl) (own_w hw 33 rfl) (by decide) (m_tx3_0 l Z a0 hw a_1992 o b0 b1 b2 c0 c1 c2 cs fm h_2011 n0 z_2024 O_2025 hSCS hSAD hSHB hSLB hSFM hcs hfm f_2019 f1 f2 A e0 e1 e2) at_235 rfl pd19 rfl rfl (Nat.le_of_eq rfl) (by decide) (by decide) (by decide) (by decide) rfl ?_
          rintro _ _ ⟨rt, rfl, rfl, hrt, irt⟩
          show Go _ _ _ _ _ _ _ _ _ _ _ _ h_2011 (0 + 0 + 0 + 0 + 0 + 1 + 1 + 2 + 0 + 0 + 0) (0 + 0 + 0 + 0 + 0 + 3 + 4 + 9 + 0 + 0 + 0) 238 #[.val (.int y0), .val (.int y1), .val (.int y2), .val (.int y3), .val (.int y4), .val (.int 3), .val (.int c0), .val (.int c1), .val (.int c2), .val (.int c3), .val (.ref a_1940), .val (.ref a_1992), .val (.int 0)] [(.int rt)]
          have ht : rt.toInt = 0 := hrt.resolve_right (fun t => own_b0 ir1 t1 ((own_l3 c0 c1 c2 c3).mp (irt.mp t)).2.1)
          refine Go.iload (pc' := 240) at_238 rfl rfl ?_
          refine Go.icmp (pc1 := 247) (pc2 := 243) at_240 (by decide) (by decide) rfl (fun (c_2032 : rt.toInt ≠ (0 : Int)) => ?_) (fun (c_2032 : rt.toInt = (0 : Int)) => ?_)
          · exact absurd ht c_2032
          refine Go.iconst (pc' := 244) (v := (1 : Int32)) at_243 rfl rfl ?_
          refine Go.goto (pc' := 248) at_244 (by decide) (by decide) ?_
          exact Go.retN (t := .boolean) at_248 rfl (by simp) rfl rfl (by decide) (by decide)
        · refine Go.iload (pc' := 168) at_166 rfl rfl ?_
          refine Go.iconst (pc' := 169) (v := (2 : Int32)) at_168 rfl rfl ?_
          refine Go.icmp (pc1 := 176) (pc2 := 172) at_169 (by decide) (by decide) rfl (fun (c_2033 : (3 : Int) ≤ (2 : Int)) => ?_) (fun (c_2033 : (2 : Int) < (3 : Int)) => ?_)
          · exact absurd c_2033 (by decide)
          refine Go.iconst (pc' := 173) (v := (1 : Int32)) at_172 rfl rfl ?_
          refine Go.goto (pc' := 177) at_173 (by decide) (by decide) ?_
          refine Go.iconst (pc' := 178) (v := (1 : Int32)) at_177 rfl rfl ?_
          refine Go.iload (pc' := 180) at_178 rfl rfl ?_
          refine Go.iload (pc' := 182) at_180 rfl rfl ?_
          refine Go.iload (pc' := 184) at_182 rfl rfl ?_
          refine Go.iconst (pc' := 185) (v := (3 : Int32)) at_184 rfl rfl ?_
          refine Go.icmp (pc1 := 192) (pc2 := 188) at_185 (by decide) (by decide) rfl (fun (c_2034 : (3 : Int) ≤ (3 : Int)) => ?_) (fun (c_2034 : (3 : Int) < (3 : Int)) => ?_)
          rotate_left
          · exact absurd c_2034 (by decide)
          refine Go.iconst (pc' := 193) (v := (0 : Int32)) at_192 rfl rfl ?_
          refine Go.iload (pc' := 195) at_193 rfl rfl ?_
          refine Go.callS (pc' := 198) (argsL := [(.int 1), (.int 1), (.int c1), (.int c2), (.int 0), (.int c3)]) (rest := []) (W := 0) (own_w hw 27 rfl) (own_w hw 28 rfl) (own_w hw 3 rfl) (own_w hw 29 rfl) (by decide) (m_ok l Z a0 hw (1 : Int32) (1 : Int32) c1 c2 (0 : Int32) c3 h_2011 n0 z_2024) at_195 rfl pd18 rfl rfl (Nat.le_of_eq rfl) (by decide) (by decide) (by decide) (by decide) rfl ?_
          rintro _ _ ⟨r2, rfl, rfl, hr2, ir2⟩
          show Go _ _ _ _ _ _ _ _ _ _ _ _ h_2011 (0 + 0 + 0 + 0 + 0 + 1 + 1 + 2 + 0 + 0 + 0) (0 + 0 + 0 + 0 + 0 + 3 + 4 + 9 + 0 + 0 + 0) 198 #[.val (.int y0), .val (.int y1), .val (.int y2), .val (.int y3), .val (.int y4), .val (.int 3), .val (.int c0), .val (.int c1), .val (.int c2), .val (.int c3), .val (.ref a_1940), .val (.ref a_1992), .unset] [(.int r2)]
          refine Go.ifc (pc1 := 230) (pc2 := 201) at_198 (by decide) (by decide) rfl (fun (t2 : r2.toInt = 0) => ?_) (fun (t2 : r2.toInt ≠ 0) => ?_)
          · refine Go.iconst (pc' := 231) (v := (0 : Int32)) at_230 rfl rfl ?_
            refine Go.istore (pc' := 233) (Ls' := #[.val (.int y0), .val (.int y1), .val (.int y2), .val (.int y3), .val (.int y4), .val (.int 3), .val (.int c0), .val (.int c1), .val (.int c2), .val (.int c3), .val (.ref a_1940), .val (.ref a_1992), .val (.int 0)]) at_231 rfl rfl ?_
            refine Go.aload (pc' := 235) at_233 rfl rfl rfl ?_
            refine Go.callS (pc' := 238) (argsL := [(.ref a_1992)]) (rest := []) (W := 0) (own_w hw 30 rfl) (own_w hw 31 rfl) (own_w hw 32 rfl) (own_w hw 33 rfl) (by decide) (m_tx3_0 l Z a0 hw a_1992 o b0 b1 b2 c0 c1 c2 cs fm h_2011 n0 z_2024 O_2025 hSCS hSAD hSHB hSLB hSFM hcs hfm f_2019 f1 f2 A e0 e1 e2) at_235 rfl pd19 rfl rfl (Nat.le_of_eq rfl) (by decide) (by decide) (by decide) (by decide) rfl ?_
            rintro _ _ ⟨rt, rfl, rfl, hrt, irt⟩
            show Go _ _ _ _ _ _ _ _ _ _ _ _ h_2011 (0 + 0 + 0 + 0 + 0 + 1 + 1 + 2 + 0 + 0 + 0 + 0) (0 + 0 + 0 + 0 + 0 + 3 + 4 + 9 + 0 + 0 + 0 + 0) 238 #[.val (.int y0), .val (.int y1), .val (.int y2), .val (.int y3), .val (.int y4), .val (.int 3), .val (.int c0), .val (.int c1), .val (.int c2), .val (.int c3), .val (.ref a_1940), .val (.ref a_1992), .val (.int 0)] [(.int rt)]
            have ht : rt.toInt = 0 := hrt.resolve_right (fun t => own_b0 ir2 t2 ((own_l3 c0 c1 c2 c3).mp (irt.mp t)).2.2.1)
            refine Go.iload (pc' := 240) at_238 rfl rfl ?_
            refine Go.icmp (pc1 := 247) (pc2 := 243) at_240 (by decide) (by decide) rfl (fun (c_2035 : rt.toInt ≠ (0 : Int)) => ?_) (fun (c_2035 : rt.toInt = (0 : Int)) => ?_)
            · exact absurd ht c_2035
            refine Go.iconst (pc' := 244) (v := (1 : Int32)) at_243 rfl rfl ?_
            refine Go.goto (pc' := 248) at_244 (by decide) (by decide) ?_
            exact Go.retN (t := .boolean) at_248 rfl (by simp) rfl rfl (by decide) (by decide)
          · refine Go.iload (pc' := 203) at_201 rfl rfl ?_
            refine Go.iconst (pc' := 204) (v := (3 : Int32)) at_203 rfl rfl ?_
            refine Go.icmp (pc1 := 211) (pc2 := 207) at_204 (by decide) (by decide) rfl (fun (c_2036 : (3 : Int) ≤ (3 : Int)) => ?_) (fun (c_2036 : (3 : Int) < (3 : Int)) => ?_)
            rotate_left
            · exact absurd c_2036 (by decide)
            refine Go.iconst (pc' := 212) (v := (0 : Int32)) at_211 rfl rfl ?_
            refine Go.iconst (pc' := 213) (v := (1 : Int32)) at_212 rfl rfl ?_
            refine Go.iload (pc' := 215) at_213 rfl rfl ?_
            refine Go.iload (pc' := 217) at_215 rfl rfl ?_
            refine Go.iconst (pc' := 218) (v := (0 : Int32)) at_217 rfl rfl ?_
            refine Go.iload (pc' := 220) at_218 rfl rfl ?_
            refine Go.callS (pc' := 223) (argsL := [(.int 0), (.int 1), (.int c2), (.int c3), (.int 0), (.int c3)]) (rest := []) (W := 0) (own_w hw 27 rfl) (own_w hw 28 rfl) (own_w hw 3 rfl) (own_w hw 29 rfl) (by decide) (m_ok l Z a0 hw (0 : Int32) (1 : Int32) c2 c3 (0 : Int32) c3 h_2011 n0 z_2024) at_220 rfl pd18 rfl rfl (Nat.le_of_eq rfl) (by decide) (by decide) (by decide) (by decide) rfl ?_
            rintro _ _ ⟨r3, rfl, rfl, hr3, ir3⟩
            show Go _ _ _ _ _ _ _ _ _ _ _ _ h_2011 (0 + 0 + 0 + 0 + 0 + 1 + 1 + 2 + 0 + 0 + 0 + 0) (0 + 0 + 0 + 0 + 0 + 3 + 4 + 9 + 0 + 0 + 0 + 0) 223 #[.val (.int y0), .val (.int y1), .val (.int y2), .val (.int y3), .val (.int y4), .val (.int 3), .val (.int c0), .val (.int c1), .val (.int c2), .val (.int c3), .val (.ref a_1940), .val (.ref a_1992), .unset] [(.int r3)]
            refine Go.ifc (pc1 := 230) (pc2 := 226) at_223 (by decide) (by decide) rfl (fun (t3 : r3.toInt = 0) => ?_) (fun (t3 : r3.toInt ≠ 0) => ?_)
            · refine Go.iconst (pc' := 231) (v := (0 : Int32)) at_230 rfl rfl ?_
              refine Go.istore (pc' := 233) (Ls' := #[.val (.int y0), .val (.int y1), .val (.int y2), .val (.int y3), .val (.int y4), .val (.int 3), .val (.int c0), .val (.int c1), .val (.int c2), .val (.int c3), .val (.ref a_1940), .val (.ref a_1992), .val (.int 0)]) at_231 rfl rfl ?_
              refine Go.aload (pc' := 235) at_233 rfl rfl rfl ?_
              refine Go.callS (pc' := 238) (argsL := [(.ref a_1992)]) (rest := []) (W := 0) (own_w hw 30 rfl) (own_w hw 31 rfl) (own_w hw 32 rfl) (own_w hw 33 rfl) (by decide) (m_tx3_0 l Z a0 hw a_1992 o b0 b1 b2 c0 c1 c2 cs fm h_2011 n0 z_2024 O_2025 hSCS hSAD hSHB hSLB hSFM hcs hfm f_2019 f1 f2 A e0 e1 e2) at_235 rfl pd19 rfl rfl (Nat.le_of_eq rfl) (by decide) (by decide) (by decide) (by decide) rfl ?_
              rintro _ _ ⟨rt, rfl, rfl, hrt, irt⟩
              show Go _ _ _ _ _ _ _ _ _ _ _ _ h_2011 (0 + 0 + 0 + 0 + 0 + 1 + 1 + 2 + 0 + 0 + 0 + 0 + 0) (0 + 0 + 0 + 0 + 0 + 3 + 4 + 9 + 0 + 0 + 0 + 0 + 0) 238 #[.val (.int y0), .val (.int y1), .val (.int y2), .val (.int y3), .val (.int y4), .val (.int 3), .val (.int c0), .val (.int c1), .val (.int c2), .val (.int c3), .val (.ref a_1940), .val (.ref a_1992), .val (.int 0)] [(.int rt)]
              have ht : rt.toInt = 0 := hrt.resolve_right (fun t => own_b0 ir3 t3 ((own_l3 c0 c1 c2 c3).mp (irt.mp t)).2.2.2)
              refine Go.iload (pc' := 240) at_238 rfl rfl ?_
              refine Go.icmp (pc1 := 247) (pc2 := 243) at_240 (by decide) (by decide) rfl (fun (c_2037 : rt.toInt ≠ (0 : Int)) => ?_) (fun (c_2037 : rt.toInt = (0 : Int)) => ?_)
              · exact absurd ht c_2037
              refine Go.iconst (pc' := 244) (v := (1 : Int32)) at_243 rfl rfl ?_
              refine Go.goto (pc' := 248) at_244 (by decide) (by decide) ?_
              exact Go.retN (t := .boolean) at_248 rfl (by simp) rfl rfl (by decide) (by decide)
            · refine Go.iconst (pc' := 227) (v := (1 : Int32)) at_226 rfl rfl ?_
              refine Go.goto (pc' := 231) at_227 (by decide) (by decide) ?_
              refine Go.istore (pc' := 233) (Ls' := #[.val (.int y0), .val (.int y1), .val (.int y2), .val (.int y3), .val (.int y4), .val (.int 3), .val (.int c0), .val (.int c1), .val (.int c2), .val (.int c3), .val (.ref a_1940), .val (.ref a_1992), .val (.int 1)]) at_231 rfl rfl ?_
              refine Go.aload (pc' := 235) at_233 rfl rfl rfl ?_
              refine Go.callS (pc' := 238) (argsL := [(.ref a_1992)]) (rest := []) (W := 0) (own_w hw 30 rfl) (own_w hw 31 rfl) (own_w hw 32 rfl) (own_w hw 33 rfl) (by decide) (m_tx3_0 l Z a0 hw a_1992 o b0 b1 b2 c0 c1 c2 cs fm h_2011 n0 z_2024 O_2025 hSCS hSAD hSHB hSLB hSFM hcs hfm f_2019 f1 f2 A e0 e1 e2) at_235 rfl pd19 rfl rfl (Nat.le_of_eq rfl) (by decide) (by decide) (by decide) (by decide) rfl ?_
              rintro _ _ ⟨rt, rfl, rfl, hrt, irt⟩
              show Go _ _ _ _ _ _ _ _ _ _ _ _ h_2011 (0 + 0 + 0 + 0 + 0 + 1 + 1 + 2 + 0 + 0 + 0 + 0 + 0) (0 + 0 + 0 + 0 + 0 + 3 + 4 + 9 + 0 + 0 + 0 + 0 + 0) 238 #[.val (.int y0), .val (.int y1), .val (.int y2), .val (.int y3), .val (.int y4), .val (.int 3), .val (.int c0), .val (.int c1), .val (.int c2), .val (.int c3), .val (.ref a_1940), .val (.ref a_1992), .val (.int 1)] [(.int rt)]
              have ht : rt.toInt = 1 := irt.mpr ((own_l3 c0 c1 c2 c3).mpr ⟨own_b1 ir0 hr0 t0, own_b1 ir1 hr1 t1, own_b1 ir2 hr2 t2, own_b1 ir3 hr3 t3⟩)
              refine Go.iload (pc' := 240) at_238 rfl rfl ?_
              refine Go.icmp (pc1 := 247) (pc2 := 243) at_240 (by decide) (by decide) rfl (fun (c_2038 : rt.toInt ≠ (1 : Int)) => ?_) (fun (c_2038 : rt.toInt = (1 : Int)) => ?_)
              · exact absurd ht c_2038
              refine Go.iconst (pc' := 244) (v := (1 : Int32)) at_243 rfl rfl ?_
              refine Go.goto (pc' := 248) at_244 (by decide) (by decide) ?_
              exact Go.retN (t := .boolean) at_248 rfl (by simp) rfl rfl (by decide) (by decide)
    · have n_2039 : a_1992 ≠ o := by obtain ⟨_, Ag, -⟩ := A; exact ne_arr f_2019 (own_w hw 7 rfl) Ag
      refine Go.astore (pc' := 97) (Ls' := #[.val (.int y0), .val (.int y1), .val (.int y2), .val (.int y3), .val (.int y4), .val (.int 3), .val (.int c0), .val (.int c1), .val (.int c2), .val (.int c3), .val (.ref a_1940), .val (.ref a_1992), .unset]) at_95 rfl rfl rfl ?_
      refine Go.iload (pc' := 99) at_97 rfl rfl ?_
      refine Go.ifc (pc1 := 106) (pc2 := 102) at_99 (by decide) (by decide) rfl (fun (c_2040 : (3 : Int) ≤ 0) => ?_) (fun (c_2040 : 0 < (3 : Int)) => ?_)
      · exact absurd c_2040 (by decide)
      refine Go.iconst (pc' := 103) (v := (1 : Int32)) at_102 rfl rfl ?_
      refine Go.goto (pc' := 107) at_103 (by decide) (by decide) ?_
      refine Go.iconst (pc' := 108) (v := (0 : Int32)) at_107 rfl rfl ?_
      refine Go.iload (pc' := 110) at_108 rfl rfl ?_
      refine Go.iload (pc' := 112) at_110 rfl rfl ?_
      refine Go.iload (pc' := 114) at_112 rfl rfl ?_
      refine Go.iconst (pc' := 115) (v := (1 : Int32)) at_114 rfl rfl ?_
      refine Go.icmp (pc1 := 122) (pc2 := 118) at_115 (by decide) (by decide) rfl (fun (c_2041 : (3 : Int) ≤ (1 : Int)) => ?_) (fun (c_2041 : (1 : Int) < (3 : Int)) => ?_)
      · exact absurd c_2041 (by decide)
      refine Go.iconst (pc' := 119) (v := (1 : Int32)) at_118 rfl rfl ?_
      refine Go.goto (pc' := 123) at_119 (by decide) (by decide) ?_
      refine Go.iload (pc' := 125) at_123 rfl rfl ?_
      refine Go.callS (pc' := 128) (argsL := [(.int 1), (.int 0), (.int c0), (.int c0), (.int 1), (.int c1)]) (rest := []) (W := 0) (own_w hw 27 rfl) (own_w hw 28 rfl) (own_w hw 3 rfl) (own_w hw 29 rfl) (by decide) (m_ok l Z a0 hw (1 : Int32) (0 : Int32) c0 c0 (1 : Int32) c1 h_2011 n0 z_2024) at_125 rfl pd18 rfl rfl (Nat.le_of_eq rfl) (by decide) (by decide) (by decide) (by decide) rfl ?_
      rintro _ _ ⟨r0, rfl, rfl, hr0, ir0⟩
      show Go _ _ _ _ _ _ _ _ _ _ _ _ h_2011 (0 + 0 + 0 + 0 + 0 + 1 + 1 + 2 + 0) (0 + 0 + 0 + 0 + 0 + 3 + 4 + 9 + 0) 128 #[.val (.int y0), .val (.int y1), .val (.int y2), .val (.int y3), .val (.int y4), .val (.int 3), .val (.int c0), .val (.int c1), .val (.int c2), .val (.int c3), .val (.ref a_1940), .val (.ref a_1992), .unset] [(.int r0)]
      refine Go.ifc (pc1 := 230) (pc2 := 131) at_128 (by decide) (by decide) rfl (fun (t0 : r0.toInt = 0) => ?_) (fun (t0 : r0.toInt ≠ 0) => ?_)
      · refine Go.iconst (pc' := 231) (v := (0 : Int32)) at_230 rfl rfl ?_
        refine Go.istore (pc' := 233) (Ls' := #[.val (.int y0), .val (.int y1), .val (.int y2), .val (.int y3), .val (.int y4), .val (.int 3), .val (.int c0), .val (.int c1), .val (.int c2), .val (.int c3), .val (.ref a_1940), .val (.ref a_1992), .val (.int 0)]) at_231 rfl rfl ?_
        refine Go.aload (pc' := 235) at_233 rfl rfl rfl ?_
        refine Go.callS (pc' := 238) (argsL := [(.ref a_1992)]) (rest := []) (W := 0) (own_w hw 30 rfl) (own_w hw 31 rfl) (own_w hw 32 rfl) (own_w hw 33 rfl) (by decide) (m_tx3_1 l Z a0 hw a_1992 o l0 g0 l1 g1 l2 g2 c0 c1 c2 cs fm h_2011 n0 z_2024 O_2025 hSCS hSAD hSHB hSLB hSFM hcs hfm f_2019 f1 f2 A e0 e1 e2) at_235 rfl pd19 rfl rfl (Nat.le_of_eq rfl) (by decide) (by decide) (by decide) (by decide) rfl ?_
        rintro _ _ ⟨rt, rfl, rfl, hrt, irt⟩
        show Go _ _ _ _ _ _ _ _ _ _ _ _ h_2011 (0 + 0 + 0 + 0 + 0 + 1 + 1 + 2 + 0 + 0) (0 + 0 + 0 + 0 + 0 + 3 + 4 + 9 + 0 + 0) 238 #[.val (.int y0), .val (.int y1), .val (.int y2), .val (.int y3), .val (.int y4), .val (.int 3), .val (.int c0), .val (.int c1), .val (.int c2), .val (.int c3), .val (.ref a_1940), .val (.ref a_1992), .val (.int 0)] [(.int rt)]
        have ht : rt.toInt = 0 := hrt.resolve_right (fun t => own_b0 ir0 t0 ((own_l3 c0 c1 c2 c3).mp (irt.mp t)).1)
        refine Go.iload (pc' := 240) at_238 rfl rfl ?_
        refine Go.icmp (pc1 := 247) (pc2 := 243) at_240 (by decide) (by decide) rfl (fun (c_2042 : rt.toInt ≠ (0 : Int)) => ?_) (fun (c_2042 : rt.toInt = (0 : Int)) => ?_)
        · exact absurd ht c_2042
        refine Go.iconst (pc' := 244) (v := (1 : Int32)) at_243 rfl rfl ?_
        refine Go.goto (pc' := 248) at_244 (by decide) (by decide) ?_
        exact Go.retN (t := .boolean) at_248 rfl (by simp) rfl rfl (by decide) (by decide)
      · refine Go.iload (pc' := 133) at_131 rfl rfl ?_
        refine Go.iconst (pc' := 134) (v := (1 : Int32)) at_133 rfl rfl ?_
        refine Go.icmp (pc1 := 141) (pc2 := 137) at_134 (by decide) (by decide) rfl (fun (c_2043 : (3 : Int) ≤ (1 : Int)) => ?_) (fun (c_2043 : (1 : Int) < (3 : Int)) => ?_)
        · exact absurd c_2043 (by decide)
        refine Go.iconst (pc' := 138) (v := (1 : Int32)) at_137 rfl rfl ?_
        refine Go.goto (pc' := 142) at_138 (by decide) (by decide) ?_
        refine Go.iconst (pc' := 143) (v := (1 : Int32)) at_142 rfl rfl ?_
        refine Go.iload (pc' := 145) at_143 rfl rfl ?_
        refine Go.iload (pc' := 147) at_145 rfl rfl ?_
        refine Go.iload (pc' := 149) at_147 rfl rfl ?_
        refine Go.iconst (pc' := 150) (v := (2 : Int32)) at_149 rfl rfl ?_
        refine Go.icmp (pc1 := 157) (pc2 := 153) at_150 (by decide) (by decide) rfl (fun (c_2044 : (3 : Int) ≤ (2 : Int)) => ?_) (fun (c_2044 : (2 : Int) < (3 : Int)) => ?_)
        · exact absurd c_2044 (by decide)
        refine Go.iconst (pc' := 154) (v := (1 : Int32)) at_153 rfl rfl ?_
        refine Go.goto (pc' := 158) at_154 (by decide) (by decide) ?_
        refine Go.iload (pc' := 160) at_158 rfl rfl ?_
        refine Go.callS (pc' := 163) (argsL := [(.int 1), (.int 1), (.int c0), (.int c1), (.int 1), (.int c2)]) (rest := []) (W := 0) (own_w hw 27 rfl) (own_w hw 28 rfl) (own_w hw 3 rfl) (own_w hw 29 rfl) (by decide) (m_ok l Z a0 hw (1 : Int32) (1 : Int32) c0 c1 (1 : Int32) c2 h_2011 n0 z_2024) at_160 rfl pd18 rfl rfl (Nat.le_of_eq rfl) (by decide) (by decide) (by decide) (by decide) rfl ?_
        rintro _ _ ⟨r1, rfl, rfl, hr1, ir1⟩
        show Go _ _ _ _ _ _ _ _ _ _ _ _ h_2011 (0 + 0 + 0 + 0 + 0 + 1 + 1 + 2 + 0 + 0) (0 + 0 + 0 + 0 + 0 + 3 + 4 + 9 + 0 + 0) 163 #[.val (.int y0), .val (.int y1), .val (.int y2), .val (.int y3), .val (.int y4), .val (.int 3), .val (.int c0), .val (.int c1), .val (.int c2), .val (.int c3), .val (.ref a_1940), .val (.ref a_1992), .unset] [(.int r1)]
        refine Go.ifc (pc1 := 230) (pc2 := 166) at_163 (by decide) (by decide) rfl (fun (t1 : r1.toInt = 0) => ?_) (fun (t1 : r1.toInt ≠ 0) => ?_)
        · refine Go.iconst (pc' := 231) (v := (0 : Int32)) at_230 rfl rfl ?_
          refine Go.istore (pc' := 233) (Ls' := #[.val (.int y0), .val (.int y1), .val (.int y2), .val (.int y3), .val (.int y4), .val (.int 3), .val (.int c0), .val (.int c1), .val (.int c2), .val (.int c3), .val (.ref a_1940), .val (.ref a_1992), .val (.int 0)]) at_231 rfl rfl ?_
          refine Go.aload (pc' := 235) at_233 rfl rfl rfl ?_
          refine Go.callS (pc' := 238) (argsL := [(.ref a_1992)]) (rest := []) (W := 0) (own_w hw 30 rfl) (own_w hw 31 rfl) (own_w hw 32 rfl) (own_w hw 33 rfl) (by decide) (m_tx3_1 l Z a0 hw a_1992 o l0 g0 l1 g1 l2 g2 c0 c1 c2 cs fm h_2011 n0 z_2024 O_2025 hSCS hSAD hSHB hSLB hSFM hcs hfm f_2019 f1 f2 A e0 e1 e2) at_235 rfl pd19 rfl rfl (Nat.le_of_eq rfl) (by decide) (by decide) (by decide) (by decide) rfl ?_
          rintro _ _ ⟨rt, rfl, rfl, hrt, irt⟩
          show Go _ _ _ _ _ _ _ _ _ _ _ _ h_2011 (0 + 0 + 0 + 0 + 0 + 1 + 1 + 2 + 0 + 0 + 0) (0 + 0 + 0 + 0 + 0 + 3 + 4 + 9 + 0 + 0 + 0) 238 #[.val (.int y0), .val (.int y1), .val (.int y2), .val (.int y3), .val (.int y4), .val (.int 3), .val (.int c0), .val (.int c1), .val (.int c2), .val (.int c3), .val (.ref a_1940), .val (.ref a_1992), .val (.int 0)] [(.int rt)]
          have ht : rt.toInt = 0 := hrt.resolve_right (fun t => own_b0 ir1 t1 ((own_l3 c0 c1 c2 c3).mp (irt.mp t)).2.1)
          refine Go.iload (pc' := 240) at_238 rfl rfl ?_
          refine Go.icmp (pc1 := 247) (pc2 := 243) at_240 (by decide) (by decide) rfl (fun (c_2045 : rt.toInt ≠ (0 : Int)) => ?_) (fun (c_2045 : rt.toInt = (0 : Int)) => ?_)
          · exact absurd ht c_2045
          refine Go.iconst (pc' := 244) (v := (1 : Int32)) at_243 rfl rfl ?_
          refine Go.goto (pc' := 248) at_244 (by decide) (by decide) ?_
          exact Go.retN (t := .boolean) at_248 rfl (by simp) rfl rfl (by decide) (by decide)
        · refine Go.iload (pc' := 168) at_166 rfl rfl ?_
          refine Go.iconst (pc' := 169) (v := (2 : Int32)) at_168 rfl rfl ?_
          refine Go.icmp (pc1 := 176) (pc2 := 172) at_169 (by decide) (by decide) rfl (fun (c_2046 : (3 : Int) ≤ (2 : Int)) => ?_) (fun (c_2046 : (2 : Int) < (3 : Int)) => ?_)
          · exact absurd c_2046 (by decide)
          refine Go.iconst (pc' := 173) (v := (1 : Int32)) at_172 rfl rfl ?_
          refine Go.goto (pc' := 177) at_173 (by decide) (by decide) ?_
          refine Go.iconst (pc' := 178) (v := (1 : Int32)) at_177 rfl rfl ?_
          refine Go.iload (pc' := 180) at_178 rfl rfl ?_
          refine Go.iload (pc' := 182) at_180 rfl rfl ?_
          refine Go.iload (pc' := 184) at_182 rfl rfl ?_
          refine Go.iconst (pc' := 185) (v := (3 : Int32)) at_184 rfl rfl ?_
          refine Go.icmp (pc1 := 192) (pc2 := 188) at_185 (by decide) (by decide) rfl (fun (c_2047 : (3 : Int) ≤ (3 : Int)) => ?_) (fun (c_2047 : (3 : Int) < (3 : Int)) => ?_)
          rotate_left
          · exact absurd c_2047 (by decide)
          refine Go.iconst (pc' := 193) (v := (0 : Int32)) at_192 rfl rfl ?_
          refine Go.iload (pc' := 195) at_193 rfl rfl ?_
          refine Go.callS (pc' := 198) (argsL := [(.int 1), (.int 1), (.int c1), (.int c2), (.int 0), (.int c3)]) (rest := []) (W := 0) (own_w hw 27 rfl) (own_w hw 28 rfl) (own_w hw 3 rfl) (own_w hw 29 rfl) (by decide) (m_ok l Z a0 hw (1 : Int32) (1 : Int32) c1 c2 (0 : Int32) c3 h_2011 n0 z_2024) at_195 rfl pd18 rfl rfl (Nat.le_of_eq rfl) (by decide) (by decide) (by decide) (by decide) rfl ?_
          rintro _ _ ⟨r2, rfl, rfl, hr2, ir2⟩
          show Go _ _ _ _ _ _ _ _ _ _ _ _ h_2011 (0 + 0 + 0 + 0 + 0 + 1 + 1 + 2 + 0 + 0 + 0) (0 + 0 + 0 + 0 + 0 + 3 + 4 + 9 + 0 + 0 + 0) 198 #[.val (.int y0), .val (.int y1), .val (.int y2), .val (.int y3), .val (.int y4), .val (.int 3), .val (.int c0), .val (.int c1), .val (.int c2), .val (.int c3), .val (.ref a_1940), .val (.ref a_1992), .unset] [(.int r2)]
          refine Go.ifc (pc1 := 230) (pc2 := 201) at_198 (by decide) (by decide) rfl (fun (t2 : r2.toInt = 0) => ?_) (fun (t2 : r2.toInt ≠ 0) => ?_)
          · refine Go.iconst (pc' := 231) (v := (0 : Int32)) at_230 rfl rfl ?_
            refine Go.istore (pc' := 233) (Ls' := #[.val (.int y0), .val (.int y1), .val (.int y2), .val (.int y3), .val (.int y4), .val (.int 3), .val (.int c0), .val (.int c1), .val (.int c2), .val (.int c3), .val (.ref a_1940), .val (.ref a_1992), .val (.int 0)]) at_231 rfl rfl ?_
            refine Go.aload (pc' := 235) at_233 rfl rfl rfl ?_
            refine Go.callS (pc' := 238) (argsL := [(.ref a_1992)]) (rest := []) (W := 0) (own_w hw 30 rfl) (own_w hw 31 rfl) (own_w hw 32 rfl) (own_w hw 33 rfl) (by decide) (m_tx3_1 l Z a0 hw a_1992 o l0 g0 l1 g1 l2 g2 c0 c1 c2 cs fm h_2011 n0 z_2024 O_2025 hSCS hSAD hSHB hSLB hSFM hcs hfm f_2019 f1 f2 A e0 e1 e2) at_235 rfl pd19 rfl rfl (Nat.le_of_eq rfl) (by decide) (by decide) (by decide) (by decide) rfl ?_
            rintro _ _ ⟨rt, rfl, rfl, hrt, irt⟩
            show Go _ _ _ _ _ _ _ _ _ _ _ _ h_2011 (0 + 0 + 0 + 0 + 0 + 1 + 1 + 2 + 0 + 0 + 0 + 0) (0 + 0 + 0 + 0 + 0 + 3 + 4 + 9 + 0 + 0 + 0 + 0) 238 #[.val (.int y0), .val (.int y1), .val (.int y2), .val (.int y3), .val (.int y4), .val (.int 3), .val (.int c0), .val (.int c1), .val (.int c2), .val (.int c3), .val (.ref a_1940), .val (.ref a_1992), .val (.int 0)] [(.int rt)]
            have ht : rt.toInt = 0 := hrt.resolve_right (fun t => own_b0 ir2 t2 ((own_l3 c0 c1 c2 c3).mp (irt.mp t)).2.2.1)
            refine Go.iload (pc' := 240) at_238 rfl rfl ?_
            refine Go.icmp (pc1 := 247) (pc2 := 243) at_240 (by decide) (by decide) rfl (fun (c_2048 : rt.toInt ≠ (0 : Int)) => ?_) (fun (c_2048 : rt.toInt = (0 : Int)) => ?_)
            · exact absurd ht c_2048
            refine Go.iconst (pc' := 244) (v := (1 : Int32)) at_243 rfl rfl ?_
            refine Go.goto (pc' := 248) at_244 (by decide) (by decide) ?_
            exact Go.retN (t := .boolean) at_248 rfl (by simp) rfl rfl (by decide) (by decide)
          · refine Go.iload (pc' := 203) at_201 rfl rfl ?_
            refine Go.iconst (pc' := 204) (v := (3 : Int32)) at_203 rfl rfl ?_
            refine Go.icmp (pc1 := 211) (pc2 := 207) at_204 (by decide) (by decide) rfl (fun (c_2049 : (3 : Int) ≤ (3 : Int)) => ?_) (fun (c_2049 : (3 : Int) < (3 : Int)) => ?_)
            rotate_left
            · exact absurd c_2049 (by decide)
            refine Go.iconst (pc' := 212) (v := (0 : Int32)) at_211 rfl rfl ?_
            refine Go.iconst (pc' := 213) (v := (1 : Int32)) at_212 rfl rfl ?_
            refine Go.iload (pc' := 215) at_213 rfl rfl ?_
            refine Go.iload (pc' := 217) at_215 rfl rfl ?_
            refine Go.iconst (pc' := 218) (v := (0 : Int32)) at_217 rfl rfl ?_
            refine Go.iload (pc' := 220) at_218 rfl rfl ?_
            refine Go.callS (pc' := 223) (argsL := [(.int 0), (.int 1), (.int c2), (.int c3), (.int 0), (.int c3)]) (rest := []) (W := 0) (own_w hw 27 rfl) (own_w hw 28 rfl) (own_w hw 3 rfl) (own_w hw 29 rfl) (by decide) (m_ok l Z a0 hw (0 : Int32) (1 : Int32) c2 c3 (0 : Int32) c3 h_2011 n0 z_2024) at_220 rfl pd18 rfl rfl (Nat.le_of_eq rfl) (by decide) (by decide) (by decide) (by decide) rfl ?_
            rintro _ _ ⟨r3, rfl, rfl, hr3, ir3⟩
            show Go _ _ _ _ _ _ _ _ _ _ _ _ h_2011 (0 + 0 + 0 + 0 + 0 + 1 + 1 + 2 + 0 + 0 + 0 + 0) (0 + 0 + 0 + 0 + 0 + 3 + 4 + 9 + 0 + 0 + 0 + 0) 223 #[.val (.int y0), .val (.int y1), .val (.int y2), .val (.int y3), .val (.int y4), .val (.int 3), .val (.int c0), .val (.int c1), .val (.int c2), .val (.int c3), .val (.ref a_1940), .val (.ref a_1992), .unset] [(.int r3)]
            refine Go.ifc (pc1 := 230) (pc2 := 226) at_223 (by decide) (by decide) rfl (fun (t3 : r3.toInt = 0) => ?_) (fun (t3 : r3.toInt ≠ 0) => ?_)
            · refine Go.iconst (pc' := 231) (v := (0 : Int32)) at_230 rfl rfl ?_
              refine Go.istore (pc' := 233) (Ls' := #[.val (.int y0), .val (.int y1), .val (.int y2), .val (.int y3), .val (.int y4), .val (.int 3), .val (.int c0), .val (.int c1), .val (.int c2), .val (.int c3), .val (.ref a_1940), .val (.ref a_1992), .val (.int 0)]) at_231 rfl rfl ?_
              refine Go.aload (pc' := 235) at_233 rfl rfl rfl ?_
              refine Go.callS (pc' := 238) (argsL := [(.ref a_1992)]) (rest := []) (W := 0) (own_w hw 30 rfl) (own_w hw 31 rfl) (own_w hw 32 rfl) (own_w hw 33 rfl) (by decide) (m_tx3_1 l Z a0 hw a_1992 o l0 g0 l1 g1 l2 g2 c0 c1 c2 cs fm h_2011 n0 z_2024 O_2025 hSCS hSAD hSHB hSLB hSFM hcs hfm f_2019 f1 f2 A e0 e1 e2) at_235 rfl pd19 rfl rfl (Nat.le_of_eq rfl) (by decide) (by decide) (by decide) (by decide) rfl ?_
              rintro _ _ ⟨rt, rfl, rfl, hrt, irt⟩
              show Go _ _ _ _ _ _ _ _ _ _ _ _ h_2011 (0 + 0 + 0 + 0 + 0 + 1 + 1 + 2 + 0 + 0 + 0 + 0 + 0) (0 + 0 + 0 + 0 + 0 + 3 + 4 + 9 + 0 + 0 + 0 + 0 + 0) 238 #[.val (.int y0), .val (.int y1), .val (.int y2), .val (.int y3), .val (.int y4), .val (.int 3), .val (.int c0), .val (.int c1), .val (.int c2), .val (.int c3), .val (.ref a_1940), .val (.ref a_1992), .val (.int 0)] [(.int rt)]
              have ht : rt.toInt = 0 := hrt.resolve_right (fun t => own_b0 ir3 t3 ((own_l3 c0 c1 c2 c3).mp (irt.mp t)).2.2.2)
              refine Go.iload (pc' := 240) at_238 rfl rfl ?_
              refine Go.icmp (pc1 := 247) (pc2 := 243) at_240 (by decide) (by decide) rfl (fun (c_2050 : rt.toInt ≠ (0 : Int)) => ?_) (fun (c_2050 : rt.toInt = (0 : Int)) => ?_)
              · exact absurd ht c_2050
              refine Go.iconst (pc' := 244) (v := (1 : Int32)) at_243 rfl rfl ?_
              refine Go.goto (pc' := 248) at_244 (by decide) (by decide) ?_
              exact Go.retN (t := .boolean) at_248 rfl (by simp) rfl rfl (by decide) (by decide)
            · refine Go.iconst (pc' := 227) (v := (1 : Int32)) at_226 rfl rfl ?_
              refine Go.goto (pc' := 231) at_227 (by decide) (by decide) ?_
              refine Go.istore (pc' := 233) (Ls' := #[.val (.int y0), .val (.int y1), .val (.int y2), .val (.int y3), .val (.int y4), .val (.int 3), .val (.int c0), .val (.int c1), .val (.int c2), .val (.int c3), .val (.ref a_1940), .val (.ref a_1992), .val (.int 1)]) at_231 rfl rfl ?_
              refine Go.aload (pc' := 235) at_233 rfl rfl rfl ?_
              refine Go.callS (pc' := 238) (argsL := [(.ref a_1992)]) (rest := []) (W := 0) (own_w hw 30 rfl) (own_w hw 31 rfl) (own_w hw 32 rfl) (own_w hw 33 rfl) (by decide) (m_tx3_1 l Z a0 hw a_1992 o l0 g0 l1 g1 l2 g2 c0 c1 c2 cs fm h_2011 n0 z_2024 O_2025 hSCS hSAD hSHB hSLB hSFM hcs hfm f_2019 f1 f2 A e0 e1 e2) at_235 rfl pd19 rfl rfl (Nat.le_of_eq rfl) (by decide) (by decide) (by decide) (by decide) rfl ?_
              rintro _ _ ⟨rt, rfl, rfl, hrt, irt⟩
              show Go _ _ _ _ _ _ _ _ _ _ _ _ h_2011 (0 + 0 + 0 + 0 + 0 + 1 + 1 + 2 + 0 + 0 + 0 + 0 + 0) (0 + 0 + 0 + 0 + 0 + 3 + 4 + 9 + 0 + 0 + 0 + 0 + 0) 238 #[.val (.int y0), .val (.int y1), .val (.int y2), .val (.int y3), .val (.int y4), .val (.int 3), .val (.int c0), .val (.int c1), .val (.int c2), .val (.int c3), .val (.ref a_1940), .val (.ref a_1992), .val (.int 1)] [(.int rt)]
              have ht : rt.toInt = 1 := irt.mpr ((own_l3 c0 c1 c2 c3).mpr ⟨own_b1 ir0 hr0 t0, own_b1 ir1 hr1 t1, own_b1 ir2 hr2 t2, own_b1 ir3 hr3 t3⟩)
              refine Go.iload (pc' := 240) at_238 rfl rfl ?_
              refine Go.icmp (pc1 := 247) (pc2 := 243) at_240 (by decide) (by decide) rfl (fun (c_2051 : rt.toInt ≠ (1 : Int)) => ?_) (fun (c_2051 : rt.toInt = (1 : Int)) => ?_)
              · exact absurd ht c_2051
              refine Go.iconst (pc' := 244) (v := (1 : Int32)) at_243 rfl rfl ?_
              refine Go.goto (pc' := 248) at_244 (by decide) (by decide) ?_
              exact Go.retN (t := .boolean) at_248 rfl (by simp) rfl rfl (by decide) (by decide)
  · obtain rfl : k_1677 = (4 : Int32) := Int32.toInt_inj.mp k_1678
    refine Go.iload (pc' := 35) at_33 rfl rfl ?_
    refine Go.newA (pc' := 37) (k := 4) (ty := .char) (cap := 4) (own_w hw 5 rfl) rfl rfl (by decide) (by decide) at_35 (by decide) (by decide) rfl ?_
    intro h_2052 a_2053 q_2054 E_2055 A_2056
    have g_2058 : n0 ≤ a_2053 := q_2054 ▸ z0
    have z_2064 : n0 ≤ h_2052.size := Nat.le_trans z0 E_2055.1
    have O_2065 : Old Z n0 h_2052 := hO.ext E_2055
    have f_2059 := Sta.ext O_2065.2 hSCS
    have f_2060 := Sta.ext O_2065.2 hSAD
    have f_2061 := Sta.ext O_2065.2 hSHB
    have f_2062 := Sta.ext O_2065.2 hSLB
    have f_2063 := Sta.ext O_2065.2 hSFM
    have t_2066 : a_2053 < h_2052.size := A_2056.lt
    change Ary Z h_2052 a_2053 .char [(.int 0), (.int 0), (.int 0), (.int 0)] at A_2056
    refine Go.astore (pc' := 39) (Ls' := #[.val (.int y0), .val (.int y1), .val (.int y2), .val (.int y3), .val (.int y4), .val (.int 4), .val (.int c0), .val (.int c1), .val (.int c2), .val (.int c3), .val (.ref a_2053), .unset, .unset]) at_37 rfl rfl rfl ?_
    refine Go.iload (pc' := 41) at_39 rfl rfl ?_
    refine Go.ifc (pc1 := 50) (pc2 := 44) at_41 (by decide) (by decide) rfl (fun (c_2067 : (4 : Int) ≤ 0) => ?_) (fun (c_2067 : 0 < (4 : Int)) => ?_)
    · exact absurd c_2067 (by decide)
    refine Go.aload (pc' := 46) at_44 rfl rfl rfl ?_
    refine Go.iconst (pc' := 47) (v := (0 : Int32)) at_46 rfl rfl ?_
    refine Go.iload (pc' := 49) at_47 rfl rfl ?_
    refine Go.stC (pc' := 50) (k := 0) A_2056 rfl (by show 0 < 4; decide) at_49 g_2058 rfl ?_
    intro h_2068 W_2069 A_2070
    rw [nc0] at W_2069 A_2070
    have t_2076 : a_2053 < h_2068.size := Nat.lt_of_lt_of_le t_2066 (Nat.le_of_eq W_2069.size.symm)
    have z_2077 : n0 ≤ h_2068.size := Nat.le_trans z_2064 (Nat.le_of_eq W_2069.size.symm)
    have O_2078 : Old Z n0 h_2068 := O_2065.wr W_2069 g_2058
    have f_2071 := Sta.ext O_2078.2 hSCS
    have f_2072 := Sta.ext O_2078.2 hSAD
    have f_2073 := Sta.ext O_2078.2 hSHB
    have f_2074 := Sta.ext O_2078.2 hSLB
    have f_2075 := Sta.ext O_2078.2 hSFM
    change Ary Z h_2068 a_2053 .char [(.int c0), (.int 0), (.int 0), (.int 0)] at A_2070
    refine Go.iload (pc' := 52) at_50 rfl rfl ?_
    refine Go.iconst (pc' := 53) (v := (1 : Int32)) at_52 rfl rfl ?_
    refine Go.icmp (pc1 := 62) (pc2 := 56) at_53 (by decide) (by decide) rfl (fun (c_2079 : (4 : Int) ≤ (1 : Int)) => ?_) (fun (c_2079 : (1 : Int) < (4 : Int)) => ?_)
    · exact absurd c_2079 (by decide)
    refine Go.aload (pc' := 58) at_56 rfl rfl rfl ?_
    refine Go.iconst (pc' := 59) (v := (1 : Int32)) at_58 rfl rfl ?_
    refine Go.iload (pc' := 61) at_59 rfl rfl ?_
    refine Go.stC (pc' := 62) (k := 1) A_2070 rfl (by show 1 < 4; decide) at_61 g_2058 rfl ?_
    intro h_2080 W_2081 A_2082
    rw [nc1] at W_2081 A_2082
    have t_2088 : a_2053 < h_2080.size := Nat.lt_of_lt_of_le t_2076 (Nat.le_of_eq W_2081.size.symm)
    have z_2089 : n0 ≤ h_2080.size := Nat.le_trans z_2077 (Nat.le_of_eq W_2081.size.symm)
    have O_2090 : Old Z n0 h_2080 := O_2078.wr W_2081 g_2058
    have f_2083 := Sta.ext O_2090.2 hSCS
    have f_2084 := Sta.ext O_2090.2 hSAD
    have f_2085 := Sta.ext O_2090.2 hSHB
    have f_2086 := Sta.ext O_2090.2 hSLB
    have f_2087 := Sta.ext O_2090.2 hSFM
    change Ary Z h_2080 a_2053 .char [(.int c0), (.int c1), (.int 0), (.int 0)] at A_2082
    refine Go.iload (pc' := 64) at_62 rfl rfl ?_
    refine Go.iconst (pc' := 65) (v := (2 : Int32)) at_64 rfl rfl ?_
    refine Go.icmp (pc1 := 74) (pc2 := 68) at_65 (by decide) (by decide) rfl (fun (c_2091 : (4 : Int) ≤ (2 : Int)) => ?_) (fun (c_2091 : (2 : Int) < (4 : Int)) => ?_)
    · exact absurd c_2091 (by decide)
    refine Go.aload (pc' := 70) at_68 rfl rfl rfl ?_
    refine Go.iconst (pc' := 71) (v := (2 : Int32)) at_70 rfl rfl ?_
    refine Go.iload (pc' := 73) at_71 rfl rfl ?_
    refine Go.stC (pc' := 74) (k := 2) A_2082 rfl (by show 2 < 4; decide) at_73 g_2058 rfl ?_
    intro h_2092 W_2093 A_2094
    rw [nc2] at W_2093 A_2094
    have t_2100 : a_2053 < h_2092.size := Nat.lt_of_lt_of_le t_2088 (Nat.le_of_eq W_2093.size.symm)
    have z_2101 : n0 ≤ h_2092.size := Nat.le_trans z_2089 (Nat.le_of_eq W_2093.size.symm)
    have O_2102 : Old Z n0 h_2092 := O_2090.wr W_2093 g_2058
    have f_2095 := Sta.ext O_2102.2 hSCS
    have f_2096 := Sta.ext O_2102.2 hSAD
    have f_2097 := Sta.ext O_2102.2 hSHB
    have f_2098 := Sta.ext O_2102.2 hSLB
    have f_2099 := Sta.ext O_2102.2 hSFM
    change Ary Z h_2092 a_2053 .char [(.int c0), (.int c1), (.int c2), (.int 0)] at A_2094
    refine Go.iload (pc' := 76) at_74 rfl rfl ?_
    refine Go.iconst (pc' := 77) (v := (3 : Int32)) at_76 rfl rfl ?_
    refine Go.icmp (pc1 := 86) (pc2 := 80) at_77 (by decide) (by decide) rfl (fun (c_2103 : (4 : Int) ≤ (3 : Int)) => ?_) (fun (c_2103 : (3 : Int) < (4 : Int)) => ?_)
    · exact absurd c_2103 (by decide)
    refine Go.aload (pc' := 82) at_80 rfl rfl rfl ?_
    refine Go.iconst (pc' := 83) (v := (3 : Int32)) at_82 rfl rfl ?_
    refine Go.iload (pc' := 85) at_83 rfl rfl ?_
    refine Go.stC (pc' := 86) (k := 3) A_2094 rfl (by show 3 < 4; decide) at_85 g_2058 rfl ?_
    intro h_2104 W_2105 A_2106
    rw [nc3] at W_2105 A_2106
    have t_2112 : a_2053 < h_2104.size := Nat.lt_of_lt_of_le t_2100 (Nat.le_of_eq W_2105.size.symm)
    have z_2113 : n0 ≤ h_2104.size := Nat.le_trans z_2101 (Nat.le_of_eq W_2105.size.symm)
    have O_2114 : Old Z n0 h_2104 := O_2102.wr W_2105 g_2058
    have f_2107 := Sta.ext O_2114.2 hSCS
    have f_2108 := Sta.ext O_2114.2 hSAD
    have f_2109 := Sta.ext O_2114.2 hSHB
    have f_2110 := Sta.ext O_2114.2 hSLB
    have f_2111 := Sta.ext O_2114.2 hSFM
    change Ary Z h_2104 a_2053 .char [(.int c0), (.int c1), (.int c2), (.int c3)] at A_2106
    refine Go.newO (pc' := 89) (own_w hw 6 rfl) (own_w hw 7 rfl) (own_w hw 8 rfl) at_86 (by decide) (by decide) rfl ?_
    intro h_2115 a_2116 q_2117 E_2118 A_2119 D_2120
    have n_2121 : a_2053 ≠ a_2116 := Nat.ne_of_lt (q_2117 ▸ t_2112)
    have g_2122 : n0 ≤ a_2116 := q_2117 ▸ z_2113
    have f_2128 : Ary Z h_2115 a_2053 .char [(.int c0), (.int c1), (.int c2), (.int c3)] := A_2106.sm (Sm.ext E_2118)
    have t_2129 : a_2053 < h_2115.size := Nat.lt_of_lt_of_le t_2112 E_2118.1
    have z_2130 : n0 ≤ h_2115.size := Nat.le_trans z_2113 E_2118.1
    have O_2131 : Old Z n0 h_2115 := O_2114.ext E_2118
    have f_2123 := Sta.ext O_2131.2 hSCS
    have f_2124 := Sta.ext O_2131.2 hSAD
    have f_2125 := Sta.ext O_2131.2 hSHB
    have f_2126 := Sta.ext O_2131.2 hSLB
    have f_2127 := Sta.ext O_2131.2 hSFM
    have t_2132 : a_2116 < h_2115.size := A_2119.lt
    have f_2133 : Fld Z h_2115 a_2116 "java/lang/String" "value" "[B" .null := D_2120 (Or.inr (own_w hw 21 rfl)) (ty := (.array .byte)) (by decide)
    have f_2134 : Fld Z h_2115 a_2116 "java/lang/String" "coder" "B" (.int 0) := D_2120 (Or.inr (own_w hw 22 rfl)) (ty := .byte) (by decide)
    refine Go.dup (pc' := 90) at_89 rfl rfl ?_
    refine Go.aload (pc' := 92) at_90 rfl rfl rfl ?_
    refine Go.callN (pc' := 95) (argsL := [(.ref a_2053)]) (rest := [(.ref a_2116)]) (W := 1) rfl (own_w hw 9 rfl) (own_w hw 10 rfl) (own_w hw 8 rfl) (own_w hw 11 rfl) (by decide) (m_s1_4 l Z a0 hw a_2116 a_2053 c0 c1 c2 c3 cs h_2115 n0 z_2130 O_2131 hSCS hSAD hSHB hSLB hcs A_2119 f_2133 f_2134 g_2122 f_2128 hc0 hc1 hc2 hc3 ) at_92 rfl pd17 rfl rfl (Nat.le_of_eq rfl) (by decide) (by decide) (by decide) (by decide) rfl ?_
    rintro _ h_2135 ⟨rfl, K_2136, o, f1, lo, hs⟩
    have f_2137 : Ary Z h_2135 a_2053 .char [(.int c0), (.int c1), (.int c2), (.int c3)] := f_2128.sm (Sm.keep K_2136 (ninS n_2121 nin0))
    have f_2143 : Exa Z h_2135 a_2116 "java/lang/String" := A_2119.keep K_2136
    have t_2146 : a_2053 < h_2135.size := Nat.lt_of_lt_of_le t_2129 K_2136.1
    have t_2147 : a_2116 < h_2135.size := Nat.lt_of_lt_of_le t_2132 K_2136.1
    have z_2148 : n0 ≤ h_2135.size := Nat.le_trans z_2130 K_2136.1
    have O_2149 : Old Z n0 h_2135 := O_2131.keep K_2136 (allS g_2122 all0)
    have f_2138 := Sta.ext O_2149.2 hSCS
    have f_2139 := Sta.ext O_2149.2 hSAD
    have f_2140 := Sta.ext O_2149.2 hSHB
    have f_2141 := Sta.ext O_2149.2 hSLB
    have f_2142 := Sta.ext O_2149.2 hSFM
    show Go _ _ _ _ _ _ _ _ _ _ _ _ h_2135 (0 + 0 + 0 + 0 + 0 + 1 + 1 + 2) (0 + 0 + 0 + 0 + 0 + 4 + 4 + 12) 95 #[.val (.int y0), .val (.int y1), .val (.int y2), .val (.int y3), .val (.int y4), .val (.int 4), .val (.int c0), .val (.int c1), .val (.int c2), .val (.int c3), .val (.ref a_2053), .unset, .unset] [(.ref a_2116)]
    rcases hs with ⟨f2, b0, b1, b2, b3, A, e0, e1, e2, e3⟩ | ⟨f2, l0, g0, l1, g1, l2, g2, l3, g3, A, e0, e1, e2, e3⟩
    · have n_2150 : a_2116 ≠ o := by obtain ⟨_, Ag, -⟩ := A; exact ne_arr f_2143 (own_w hw 7 rfl) Ag
      refine Go.astore (pc' := 97) (Ls' := #[.val (.int y0), .val (.int y1), .val (.int y2), .val (.int y3), .val (.int y4), .val (.int 4), .val (.int c0), .val (.int c1), .val (.int c2), .val (.int c3), .val (.ref a_2053), .val (.ref a_2116), .unset]) at_95 rfl rfl rfl ?_
      refine Go.iload (pc' := 99) at_97 rfl rfl ?_
      refine Go.ifc (pc1 := 106) (pc2 := 102) at_99 (by decide) (by decide) rfl (fun (c_2151 : (4 : Int) ≤ 0) => ?_) (fun (c_2151 : 0 < (4 : Int)) => ?_)
      · exact absurd c_2151 (by decide)
      refine Go.iconst (pc' := 103) (v := (1 : Int32)) at_102 rfl rfl ?_
      refine Go.goto (pc' := 107) at_103 (by decide) (by decide) ?_
      refine Go.iconst (pc' := 108) (v := (0 : Int32)) at_107 rfl rfl ?_
      refine Go.iload (pc' := 110) at_108 rfl rfl ?_
      refine Go.iload (pc' := 112) at_110 rfl rfl ?_
      refine Go.iload (pc' := 114) at_112 rfl rfl ?_
      refine Go.iconst (pc' := 115) (v := (1 : Int32)) at_114 rfl rfl ?_
      refine Go.icmp (pc1 := 122) (pc2 := 118) at_115 (by decide) (by decide) rfl (fun (c_2152 : (4 : Int) ≤ (1 : Int)) => ?_) (fun (c_2152 : (1 : Int) < (4 : Int)) => ?_)
      · exact absurd c_2152 (by decide)
      refine Go.iconst (pc' := 119) (v := (1 : Int32)) at_118 rfl rfl ?_
      refine Go.goto (pc' := 123) at_119 (by decide) (by decide) ?_
      refine Go.iload (pc' := 125) at_123 rfl rfl ?_
      refine Go.callS (pc' := 128) (argsL := [(.int 1), (.int 0), (.int c0), (.int c0), (.int 1), (.int c1)]) (rest := []) (W := 0) (own_w hw 27 rfl) (own_w hw 28 rfl) (own_w hw 3 rfl) (own_w hw 29 rfl) (by decide) (m_ok l Z a0 hw (1 : Int32) (0 : Int32) c0 c0 (1 : Int32) c1 h_2135 n0 z_2148) at_125 rfl pd18 rfl rfl (Nat.le_of_eq rfl) (by decide) (by decide) (by decide) (by decide) rfl ?_
      rintro _ _ ⟨r0, rfl, rfl, hr0, ir0⟩
      show Go _ _ _ _ _ _ _ _ _ _ _ _ h_2135 (0 + 0 + 0 + 0 + 0 + 1 + 1 + 2 + 0) (0 + 0 + 0 + 0 + 0 + 4 + 4 + 12 + 0) 128 #[.val (.int y0), .val (.int y1), .val (.int y2), .val (.int y3), .val (.int y4), .val (.int 4), .val (.int c0), .val (.int c1), .val (.int c2), .val (.int c3), .val (.ref a_2053), .val (.ref a_2116), .unset] [(.int r0)]
      refine Go.ifc (pc1 := 230) (pc2 := 131) at_128 (by decide) (by decide) rfl (fun (t0 : r0.toInt = 0) => ?_) (fun (t0 : r0.toInt ≠ 0) => ?_)
      · refine Go.iconst (pc' := 231) (v := (0 : Int32)) at_230 rfl rfl ?_
        refine Go.istore (pc' := 233) (Ls' := #[.val (.int y0), .val (.int y1), .val (.int y2), .val (.int y3), .val (.int y4), .val (.int 4), .val (.int c0), .val (.int c1), .val (.int c2), .val (.int c3), .val (.ref a_2053), .val (.ref a_2116), .val (.int 0)]) at_231 rfl rfl ?_
        refine Go.aload (pc' := 235) at_233 rfl rfl rfl ?_
        refine Go.callS (pc' := 238) (argsL := [(.ref a_2116)]) (rest := []) (W := 0) (own_w hw 30 rfl) (own_w hw 31 rfl) (own_w hw 32 rfl) (own_w hw 33 rfl) (by decide) (m_tx4_0 l Z a0 hw a_2116 o b0 b1 b2 b3 c0 c1 c2 c3 cs fm h_2135 n0 z_2148 O_2149 hSCS hSAD hSHB hSLB hSFM hcs hfm f_2143 f1 f2 A e0 e1 e2 e3) at_235 rfl pd19 rfl rfl (Nat.le_of_eq rfl) (by decide) (by decide) (by decide) (by decide) rfl ?_
        rintro _ _ ⟨rt, rfl, rfl, hrt, irt⟩
        show Go _ _ _ _ _ _ _ _ _ _ _ _ h_2135 (0 + 0 + 0 + 0 + 0 + 1 + 1 + 2 + 0 + 0) (0 + 0 + 0 + 0 + 0 + 4 + 4 + 12 + 0 + 0) 238 #[.val (.int y0), .val (.int y1), .val (.int y2), .val (.int y3), .val (.int y4), .val (.int 4), .val (.int c0), .val (.int c1), .val (.int c2), .val (.int c3), .val (.ref a_2053), .val (.ref a_2116), .val (.int 0)] [(.int rt)]
        have ht : rt.toInt = 0 := hrt.resolve_right (fun t => own_b0 ir0 t0 ((own_l4 c0 c1 c2 c3).mp (irt.mp t)).1)
        refine Go.iload (pc' := 240) at_238 rfl rfl ?_
        refine Go.icmp (pc1 := 247) (pc2 := 243) at_240 (by decide) (by decide) rfl (fun (c_2153 : rt.toInt ≠ (0 : Int)) => ?_) (fun (c_2153 : rt.toInt = (0 : Int)) => ?_)
        · exact absurd ht c_2153
        refine Go.iconst (pc' := 244) (v := (1 : Int32)) at_243 rfl rfl ?_
        refine Go.goto (pc' := 248) at_244 (by decide) (by decide) ?_
        exact Go.retN (t := .boolean) at_248 rfl (by simp) rfl rfl (by decide) (by decide)
      · refine Go.iload (pc' := 133) at_131 rfl rfl ?_
        refine Go.iconst (pc' := 134) (v := (1 : Int32)) at_133 rfl rfl ?_
        refine Go.icmp (pc1 := 141) (pc2 := 137) at_134 (by decide) (by decide) rfl (fun (c_2154 : (4 : Int) ≤ (1 : Int)) => ?_) (fun (c_2154 : (1 : Int) < (4 : Int)) => ?_)
        · exact absurd c_2154 (by decide)
        refine Go.iconst (pc' := 138) (v := (1 : Int32)) at_137 rfl rfl ?_
        refine Go.goto (pc' := 142) at_138 (by decide) (by decide) ?_
        refine Go.iconst (pc' := 143) (v := (1 : Int32)) at_142 rfl rfl ?_
        refine Go.iload (pc' := 145) at_143 rfl rfl ?_
        refine Go.iload (pc' := 147) at_145 rfl rfl ?_
        refine Go.iload (pc' := 149) at_147 rfl rfl ?_
        refine Go.iconst (pc' := 150) (v := (2 : Int32)) at_149 rfl rfl ?_
        refine Go.icmp (pc1 := 157) (pc2 := 153) at_150 (by decide) (by decide) rfl (fun (c_2155 : (4 : Int) ≤ (2 : Int)) => ?_) (fun (c_2155 : (2 : Int) < (4 : Int)) => ?_)
        · exact absurd c_2155 (by decide)
        refine Go.iconst (pc' := 154) (v := (1 : Int32)) at_153 rfl rfl ?_
        refine Go.goto (pc' := 158) at_154 (by decide) (by decide) ?_
        refine Go.iload (pc' := 160) at_158 rfl rfl ?_
        refine Go.callS (pc' := 163) (argsL := [(.int 1), (.int 1), (.int c0), (.int c1), (.int 1), (.int c2)]) (rest := []) (W := 0) (own_w hw 27 rfl) (own_w hw 28 rfl) (own_w hw 3 rfl) (own_w hw 29 rfl) (by decide) (m_ok l Z a0 hw (1 : Int32) (1 : Int32) c0 c1 (1 : Int32) c2 h_2135 n0 z_2148) at_160 rfl pd18 rfl rfl (Nat.le_of_eq rfl) (by decide) (by decide) (by decide) (by decide) rfl ?_
        rintro _ _ ⟨r1, rfl, rfl, hr1, ir1⟩
        show Go _ _ _ _ _ _ _ _ _ _ _ _ h_2135 (0 + 0 + 0 + 0 + 0 + 1 + 1 + 2 + 0 + 0) (0 + 0 + 0 + 0 + 0 + 4 + 4 + 12 + 0 + 0) 163 #[.val (.int y0), .val (.int y1), .val (.int y2), .val (.int y3), .val (.int y4), .val (.int 4), .val (.int c0), .val (.int c1), .val (.int c2), .val (.int c3), .val (.ref a_2053), .val (.ref a_2116), .unset] [(.int r1)]
        refine Go.ifc (pc1 := 230) (pc2 := 166) at_163 (by decide) (by decide) rfl (fun (t1 : r1.toInt = 0) => ?_) (fun (t1 : r1.toInt ≠ 0) => ?_)
        · refine Go.iconst (pc' := 231) (v := (0 : Int32)) at_230 rfl rfl ?_
          refine Go.istore (pc' := 233) (Ls' := #[.val (.int y0), .val (.int y1), .val (.int y2), .val (.int y3), .val (.int y4), .val (.int 4), .val (.int c0), .val (.int c1), .val (.int c2), .val (.int c3), .val (.ref a_2053), .val (.ref a_2116), .val (.int 0)]) at_231 rfl rfl ?_
          refine Go.aload (pc' := 235) at_233 rfl rfl rfl ?_
          refine Go.callS (pc' := 238) (argsL := [(.ref a_2116)]) (rest := []) (W := 0) (own_w hw 30 rfl) (own_w hw 31 rfl) (own_w hw 32 rfl) (own_w hw 33 rfl) (by decide) (m_tx4_0 l Z a0 hw a_2116 o b0 b1 b2 b3 c0 c1 c2 c3 cs fm h_2135 n0 z_2148 O_2149 hSCS hSAD hSHB hSLB hSFM hcs hfm f_2143 f1 f2 A e0 e1 e2 e3) at_235 rfl pd19 rfl rfl (Nat.le_of_eq rfl) (by decide) (by decide) (by decide) (by decide) rfl ?_
          rintro _ _ ⟨rt, rfl, rfl, hrt, irt⟩
          show Go _ _ _ _ _ _ _ _ _ _ _ _ h_2135 (0 + 0 + 0 + 0 + 0 + 1 + 1 + 2 + 0 + 0 + 0) (0 + 0 + 0 + 0 + 0 + 4 + 4 + 12 + 0 + 0 + 0) 238 #[.val (.int y0), .val (.int y1), .val (.int y2), .val (.int y3), .val (.int y4), .val (.int 4), .val (.int c0), .val (.int c1), .val (.int c2), .val (.int c3), .val (.ref a_2053), .val (.ref a_2116), .val (.int 0)] [(.int rt)]
          have ht : rt.toInt = 0 := hrt.resolve_right (fun t => own_b0 ir1 t1 ((own_l4 c0 c1 c2 c3).mp (irt.mp t)).2.1)
          refine Go.iload (pc' := 240) at_238 rfl rfl ?_
          refine Go.icmp (pc1 := 247) (pc2 := 243) at_240 (by decide) (by decide) rfl (fun (c_2156 : rt.toInt ≠ (0 : Int)) => ?_) (fun (c_2156 : rt.toInt = (0 : Int)) => ?_)
          · exact absurd ht c_2156
          refine Go.iconst (pc' := 244) (v := (1 : Int32)) at_243 rfl rfl ?_
          refine Go.goto (pc' := 248) at_244 (by decide) (by decide) ?_
          exact Go.retN (t := .boolean) at_248 rfl (by simp) rfl rfl (by decide) (by decide)
        · refine Go.iload (pc' := 168) at_166 rfl rfl ?_
          refine Go.iconst (pc' := 169) (v := (2 : Int32)) at_168 rfl rfl ?_
          refine Go.icmp (pc1 := 176) (pc2 := 172) at_169 (by decide) (by decide) rfl (fun (c_2157 : (4 : Int) ≤ (2 : Int)) => ?_) (fun (c_2157 : (2 : Int) < (4 : Int)) => ?_)
          · exact absurd c_2157 (by decide)
          refine Go.iconst (pc' := 173) (v := (1 : Int32)) at_172 rfl rfl ?_
          refine Go.goto (pc' := 177) at_173 (by decide) (by decide) ?_
          refine Go.iconst (pc' := 178) (v := (1 : Int32)) at_177 rfl rfl ?_
          refine Go.iload (pc' := 180) at_178 rfl rfl ?_
          refine Go.iload (pc' := 182) at_180 rfl rfl ?_
          refine Go.iload (pc' := 184) at_182 rfl rfl ?_
          refine Go.iconst (pc' := 185) (v := (3 : Int32)) at_184 rfl rfl ?_
          refine Go.icmp (pc1 := 192) (pc2 := 188) at_185 (by decide) (by decide) rfl (fun (c_2158 : (4 : Int) ≤ (3 : Int)) => ?_) (fun (c_2158 : (3 : Int) < (4 : Int)) => ?_)
          · exact absurd c_2158 (by decide)
          refine Go.iconst (pc' := 189) (v := (1 : Int32)) at_188 rfl rfl ?_
          refine Go.goto (pc' := 193) at_189 (by decide) (by decide) ?_
          refine Go.iload (pc' := 195) at_193 rfl rfl ?_
          refine Go.callS (pc' := 198) (argsL := [(.int 1), (.int 1), (.int c1), (.int c2), (.int 1), (.int c3)]) (rest := []) (W := 0) (own_w hw 27 rfl) (own_w hw 28 rfl) (own_w hw 3 rfl) (own_w hw 29 rfl) (by decide) (m_ok l Z a0 hw (1 : Int32) (1 : Int32) c1 c2 (1 : Int32) c3 h_2135 n0 z_2148) at_195 rfl pd18 rfl rfl (Nat.le_of_eq rfl) (by decide) (by decide) (by decide) (by decide) rfl ?_
          rintro _ _ ⟨r2, rfl, rfl, hr2, ir2⟩
          show Go _ _ _ _ _ _ _ _ _ _ _ _ h_2135 (0 + 0 + 0 + 0 + 0 + 1 + 1 + 2 + 0 + 0 + 0) (0 + 0 + 0 + 0 + 0 + 4 + 4 + 12 + 0 + 0 + 0) 198 #[.val (.int y0), .val (.int y1), .val (.int y2), .val (.int y3), .val (.int y4), .val (.int 4), .val (.int c0), .val (.int c1), .val (.int c2), .val (.int c3), .val (.ref a_2053), .val (.ref a_2116), .unset] [(.int r2)]
          refine Go.ifc (pc1 := 230) (pc2 := 201) at_198 (by decide) (by decide) rfl (fun (t2 : r2.toInt = 0) => ?_) (fun (t2 : r2.toInt ≠ 0) => ?_)
          · refine Go.iconst (pc' := 231) (v := (0 : Int32)) at_230 rfl rfl ?_
            refine Go.istore (pc' := 233) (Ls' := #[.val (.int y0), .val (.int y1), .val (.int y2), .val (.int y3), .val (.int y4), .val (.int 4), .val (.int c0), .val (.int c1), .val (.int c2), .val (.int c3), .val (.ref a_2053), .val (.ref a_2116), .val (.int 0)]) at_231 rfl rfl ?_
            refine Go.aload (pc' := 235) at_233 rfl rfl rfl ?_
            refine Go.callS (pc' := 238) (argsL := [(.ref a_2116)]) (rest := []) (W := 0) (own_w hw 30 rfl) (own_w hw 31 rfl) (own_w hw 32 rfl) (own_w hw 33 rfl) (by decide) (m_tx4_0 l Z a0 hw a_2116 o b0 b1 b2 b3 c0 c1 c2 c3 cs fm h_2135 n0 z_2148 O_2149 hSCS hSAD hSHB hSLB hSFM hcs hfm f_2143 f1 f2 A e0 e1 e2 e3) at_235 rfl pd19 rfl rfl (Nat.le_of_eq rfl) (by decide) (by decide) (by decide) (by decide) rfl ?_
            rintro _ _ ⟨rt, rfl, rfl, hrt, irt⟩
            show Go _ _ _ _ _ _ _ _ _ _ _ _ h_2135 (0 + 0 + 0 + 0 + 0 + 1 + 1 + 2 + 0 + 0 + 0 + 0) (0 + 0 + 0 + 0 + 0 + 4 + 4 + 12 + 0 + 0 + 0 + 0) 238 #[.val (.int y0), .val (.int y1), .val (.int y2), .val (.int y3), .val (.int y4), .val (.int 4), .val (.int c0), .val (.int c1), .val (.int c2), .val (.int c3), .val (.ref a_2053), .val (.ref a_2116), .val (.int 0)] [(.int rt)]
            have ht : rt.toInt = 0 := hrt.resolve_right (fun t => own_b0 ir2 t2 ((own_l4 c0 c1 c2 c3).mp (irt.mp t)).2.2.1)
            refine Go.iload (pc' := 240) at_238 rfl rfl ?_
            refine Go.icmp (pc1 := 247) (pc2 := 243) at_240 (by decide) (by decide) rfl (fun (c_2159 : rt.toInt ≠ (0 : Int)) => ?_) (fun (c_2159 : rt.toInt = (0 : Int)) => ?_)
            · exact absurd ht c_2159
            refine Go.iconst (pc' := 244) (v := (1 : Int32)) at_243 rfl rfl ?_
            refine Go.goto (pc' := 248) at_244 (by decide) (by decide) ?_
            exact Go.retN (t := .boolean) at_248 rfl (by simp) rfl rfl (by decide) (by decide)
          · refine Go.iload (pc' := 203) at_201 rfl rfl ?_
            refine Go.iconst (pc' := 204) (v := (3 : Int32)) at_203 rfl rfl ?_
            refine Go.icmp (pc1 := 211) (pc2 := 207) at_204 (by decide) (by decide) rfl (fun (c_2160 : (4 : Int) ≤ (3 : Int)) => ?_) (fun (c_2160 : (3 : Int) < (4 : Int)) => ?_)
            · exact absurd c_2160 (by decide)
            refine Go.iconst (pc' := 208) (v := (1 : Int32)) at_207 rfl rfl ?_
            refine Go.goto (pc' := 212) at_208 (by decide) (by decide) ?_
            refine Go.iconst (pc' := 213) (v := (1 : Int32)) at_212 rfl rfl ?_
            refine Go.iload (pc' := 215) at_213 rfl rfl ?_
            refine Go.iload (pc' := 217) at_215 rfl rfl ?_
            refine Go.iconst (pc' := 218) (v := (0 : Int32)) at_217 rfl rfl ?_
            refine Go.iload (pc' := 220) at_218 rfl rfl ?_
            refine Go.callS (pc' := 223) (argsL := [(.int 1), (.int 1), (.int c2), (.int c3), (.int 0), (.int c3)]) (rest := []) (W := 0) (own_w hw 27 rfl) (own_w hw 28 rfl) (own_w hw 3 rfl) (own_w hw 29 rfl) (by decide) (m_ok l Z a0 hw (1 : Int32) (1 : Int32) c2 c3 (0 : Int32) c3 h_2135 n0 z_2148) at_220 rfl pd18 rfl rfl (Nat.le_of_eq rfl) (by decide) (by decide) (by decide) (by decide) rfl ?_
            rintro _ _ ⟨r3, rfl, rfl, hr3, ir3⟩
            show Go _ _ _ _ _ _ _ _ _ _ _ _ h_2135 (0 + 0 + 0 + 0 + 0 + 1 + 1 + 2 + 0 + 0 + 0 + 0) (0 + 0 + 0 + 0 + 0 + 4 + 4 + 12 + 0 + 0 + 0 + 0) 223 #[.val (.int y0), .val (.int y1), .val (.int y2), .val (.int y3), .val (.int y4), .val (.int 4), .val (.int c0), .val (.int c1), .val (.int c2), .val (.int c3), .val (.ref a_2053), .val (.ref a_2116), .unset] [(.int r3)]
            refine Go.ifc (pc1 := 230) (pc2 := 226) at_223 (by decide) (by decide) rfl (fun (t3 : r3.toInt = 0) => ?_) (fun (t3 : r3.toInt ≠ 0) => ?_)
            · refine Go.iconst (pc' := 231) (v := (0 : Int32)) at_230 rfl rfl ?_
              refine Go.istore (pc' := 233) (Ls' := #[.val (.int y0), .val (.int y1), .val (.int y2), .val (.int y3), .val (.int y4), .val (.int 4), .val (.int c0), .val (.int c1), .val (.int c2), .val (.int c3), .val (.ref a_2053), .val (.ref a_2116), .val (.int 0)]) at_231 rfl rfl ?_
              refine Go.aload (pc' := 235) at_233 rfl rfl rfl ?_
              refine Go.callS (pc' := 238) (argsL := [(.ref a_2116)]) (rest := []) (W := 0) (own_w hw 30 rfl) (own_w hw 31 rfl) (own_w hw 32 rfl) (own_w hw 33 rfl) (by decide) (m_tx4_0 l Z a0 hw a_2116 o b0 b1 b2 b3 c0 c1 c2 c3 cs fm h_2135 n0 z_2148 O_2149 hSCS hSAD hSHB hSLB hSFM hcs hfm f_2143 f1 f2 A e0 e1 e2 e3) at_235 rfl pd19 rfl rfl (Nat.le_of_eq rfl) (by decide) (by decide) (by decide) (by decide) rfl ?_
              rintro _ _ ⟨rt, rfl, rfl, hrt, irt⟩
              show Go _ _ _ _ _ _ _ _ _ _ _ _ h_2135 (0 + 0 + 0 + 0 + 0 + 1 + 1 + 2 + 0 + 0 + 0 + 0 + 0) (0 + 0 + 0 + 0 + 0 + 4 + 4 + 12 + 0 + 0 + 0 + 0 + 0) 238 #[.val (.int y0), .val (.int y1), .val (.int y2), .val (.int y3), .val (.int y4), .val (.int 4), .val (.int c0), .val (.int c1), .val (.int c2), .val (.int c3), .val (.ref a_2053), .val (.ref a_2116), .val (.int 0)] [(.int rt)]
              have ht : rt.toInt = 0 := hrt.resolve_right (fun t => own_b0 ir3 t3 ((own_l4 c0 c1 c2 c3).mp (irt.mp t)).2.2.2)
              refine Go.iload (pc' := 240) at_238 rfl rfl ?_
              refine Go.icmp (pc1 := 247) (pc2 := 243) at_240 (by decide) (by decide) rfl (fun (c_2161 : rt.toInt ≠ (0 : Int)) => ?_) (fun (c_2161 : rt.toInt = (0 : Int)) => ?_)
              · exact absurd ht c_2161
              refine Go.iconst (pc' := 244) (v := (1 : Int32)) at_243 rfl rfl ?_
              refine Go.goto (pc' := 248) at_244 (by decide) (by decide) ?_
              exact Go.retN (t := .boolean) at_248 rfl (by simp) rfl rfl (by decide) (by decide)
            · refine Go.iconst (pc' := 227) (v := (1 : Int32)) at_226 rfl rfl ?_
              refine Go.goto (pc' := 231) at_227 (by decide) (by decide) ?_
              refine Go.istore (pc' := 233) (Ls' := #[.val (.int y0), .val (.int y1), .val (.int y2), .val (.int y3), .val (.int y4), .val (.int 4), .val (.int c0), .val (.int c1), .val (.int c2), .val (.int c3), .val (.ref a_2053), .val (.ref a_2116), .val (.int 1)]) at_231 rfl rfl ?_
              refine Go.aload (pc' := 235) at_233 rfl rfl rfl ?_
              refine Go.callS (pc' := 238) (argsL := [(.ref a_2116)]) (rest := []) (W := 0) (own_w hw 30 rfl) (own_w hw 31 rfl) (own_w hw 32 rfl) (own_w hw 33 rfl) (by decide) (m_tx4_0 l Z a0 hw a_2116 o b0 b1 b2 b3 c0 c1 c2 c3 cs fm h_2135 n0 z_2148 O_2149 hSCS hSAD hSHB hSLB hSFM hcs hfm f_2143 f1 f2 A e0 e1 e2 e3) at_235 rfl pd19 rfl rfl (Nat.le_of_eq rfl) (by decide) (by decide) (by decide) (by decide) rfl ?_
              rintro _ _ ⟨rt, rfl, rfl, hrt, irt⟩
              show Go _ _ _ _ _ _ _ _ _ _ _ _ h_2135 (0 + 0 + 0 + 0 + 0 + 1 + 1 + 2 + 0 + 0 + 0 + 0 + 0) (0 + 0 + 0 + 0 + 0 + 4 + 4 + 12 + 0 + 0 + 0 + 0 + 0) 238 #[.val (.int y0), .val (.int y1), .val (.int y2), .val (.int y3), .val (.int y4), .val (.int 4), .val (.int c0), .val (.int c1), .val (.int c2), .val (.int c3), .val (.ref a_2053), .val (.ref a_2116), .val (.int 1)] [(.int rt)]
              have ht : rt.toInt = 1 := irt.mpr ((own_l4 c0 c1 c2 c3).mpr ⟨own_b1 ir0 hr0 t0, own_b1 ir1 hr1 t1, own_b1 ir2 hr2 t2, own_b1 ir3 hr3 t3⟩)
              refine Go.iload (pc' := 240) at_238 rfl rfl ?_
              refine Go.icmp (pc1 := 247) (pc2 := 243) at_240 (by decide) (by decide) rfl (fun (c_2162 : rt.toInt ≠ (1 : Int)) => ?_) (fun (c_2162 : rt.toInt = (1 : Int)) => ?_)
              · exact absurd ht c_2162
              refine Go.iconst (pc' := 244) (v := (1 : Int32)) at_243 rfl rfl ?_
              refine Go.goto (pc' := 248) at_244 (by decide) (by decide) ?_
              exact Go.retN (t := .boolean) at_248 rfl (by simp) rfl rfl (by decide) (by decide)
    · have n_2163 : a_2116 ≠ o := by obtain ⟨_, Ag, -⟩ := A; exact ne_arr f_2143 (own_w hw 7 rfl) Ag
      refine Go.astore (pc' := 97) (Ls' := #[.val (.int y0), .val (.int y1), .val (.int y2), .val (.int y3), .val (.int y4), .val (.int 4), .val (.int c0), .val (.int c1), .val (.int c2), .val (.int c3), .val (.ref a_2053), .val (.ref a_2116), .unset]) at_95 rfl rfl rfl ?_
      refine Go.iload (pc' := 99) at_97 rfl rfl ?_
      refine Go.ifc (pc1 := 106) (pc2 := 102) at_99 (by decide) (by decide) rfl (fun (c_2164 : (4 : Int) ≤ 0) => ?_) (fun (c_2164 : 0 < (4 : Int)) => ?_)
      · exact absurd c_2164 (by decide)
      refine Go.iconst (pc' := 103) (v := (1 : Int32)) at_102 rfl rfl ?_
      refine Go.goto (pc' := 107) at_103 (by decide) (by decide) ?_
      refine Go.iconst (pc' := 108) (v := (0 : Int32)) at_107 rfl rfl ?_
      refine Go.iload (pc' := 110) at_108 rfl rfl ?_
      refine Go.iload (pc' := 112) at_110 rfl rfl ?_
      refine Go.iload (pc' := 114) at_112 rfl rfl ?_
      refine Go.iconst (pc' := 115) (v := (1 : Int32)) at_114 rfl rfl ?_
      refine Go.icmp (pc1 := 122) (pc2 := 118) at_115 (by decide) (by decide) rfl (fun (c_2165 : (4 : Int) ≤ (1 : Int)) => ?_) (fun (c_2165 : (1 : Int) < (4 : Int)) => ?_)
      · exact absurd c_2165 (by decide)
      refine Go.iconst (pc' := 119) (v := (1 : Int32)) at_118 rfl rfl ?_
      refine Go.goto (pc' := 123) at_119 (by decide) (by decide) ?_
      refine Go.iload (pc' := 125) at_123 rfl rfl ?_
      refine Go.callS (pc' := 128) (argsL := [(.int 1), (.int 0), (.int c0), (.int c0), (.int 1), (.int c1)]) (rest := []) (W := 0) (own_w hw 27 rfl) (own_w hw 28 rfl) (own_w hw 3 rfl) (own_w hw 29 rfl) (by decide) (m_ok l Z a0 hw (1 : Int32) (0 : Int32) c0 c0 (1 : Int32) c1 h_2135 n0 z_2148) at_125 rfl pd18 rfl rfl (Nat.le_of_eq rfl) (by decide) (by decide) (by decide) (by decide) rfl ?_
      rintro _ _ ⟨r0, rfl, rfl, hr0, ir0⟩
      show Go _ _ _ _ _ _ _ _ _ _ _ _ h_2135 (0 + 0 + 0 + 0 + 0 + 1 + 1 + 2 + 0) (0 + 0 + 0 + 0 + 0 + 4 + 4 + 12 + 0) 128 #[.val (.int y0), .val (.int y1), .val (.int y2), .val (.int y3), .val (.int y4), .val (.int 4), .val (.int c0), .val (.int c1), .val (.int c2), .val (.int c3), .val (.ref a_2053), .val (.ref a_2116), .unset] [(.int r0)]
      refine Go.ifc (pc1 := 230) (pc2 := 131) at_128 (by decide) (by decide) rfl (fun (t0 : r0.toInt = 0) => ?_) (fun (t0 : r0.toInt ≠ 0) => ?_)
      · refine Go.iconst (pc' := 231) (v := (0 : Int32)) at_230 rfl rfl ?_
        refine Go.istore (pc' := 233) (Ls' := #[.val (.int y0), .val (.int y1), .val (.int y2), .val (.int y3), .val (.int y4), .val (.int 4), .val (.int c0), .val (.int c1), .val (.int c2), .val (.int c3), .val (.ref a_2053), .val (.ref a_2116), .val (.int 0)]) at_231 rfl rfl ?_
        refine Go.aload (pc' := 235) at_233 rfl rfl rfl ?_
        refine Go.callS (pc' := 238) (argsL := [(.ref a_2116)]) (rest := []) (W := 0) (own_w hw 30 rfl) (own_w hw 31 rfl) (own_w hw 32 rfl) (own_w hw 33 rfl) (by decide) (m_tx4_1 l Z a0 hw a_2116 o l0 g0 l1 g1 l2 g2 l3 g3 c0 c1 c2 c3 cs fm h_2135 n0 z_2148 O_2149 hSCS hSAD hSHB hSLB hSFM hcs hfm f_2143 f1 f2 A e0 e1 e2 e3) at_235 rfl pd19 rfl rfl (Nat.le_of_eq rfl) (by decide) (by decide) (by decide) (by decide) rfl ?_
        rintro _ _ ⟨rt, rfl, rfl, hrt, irt⟩
        show Go _ _ _ _ _ _ _ _ _ _ _ _ h_2135 (0 + 0 + 0 + 0 + 0 + 1 + 1 + 2 + 0 + 0) (0 + 0 + 0 + 0 + 0 + 4 + 4 + 12 + 0 + 0) 238 #[.val (.int y0), .val (.int y1), .val (.int y2), .val (.int y3), .val (.int y4), .val (.int 4), .val (.int c0), .val (.int c1), .val (.int c2), .val (.int c3), .val (.ref a_2053), .val (.ref a_2116), .val (.int 0)] [(.int rt)]
        have ht : rt.toInt = 0 := hrt.resolve_right (fun t => own_b0 ir0 t0 ((own_l4 c0 c1 c2 c3).mp (irt.mp t)).1)
        refine Go.iload (pc' := 240) at_238 rfl rfl ?_
        refine Go.icmp (pc1 := 247) (pc2 := 243) at_240 (by decide) (by decide) rfl (fun (c_2166 : rt.toInt ≠ (0 : Int)) => ?_) (fun (c_2166 : rt.toInt = (0 : Int)) => ?_)
        · exact absurd ht c_2166
        refine Go.iconst (pc' := 244) (v := (1 : Int32)) at_243 rfl rfl ?_
        refine Go.goto (pc' := 248) at_244 (by decide) (by decide) ?_
        exact Go.retN (t := .boolean) at_248 rfl (by simp) rfl rfl (by decide) (by decide)
      · refine Go.iload (pc' := 133) at_131 rfl rfl ?_
        refine Go.iconst (pc' := 134) (v := (1 : Int32)) at_133 rfl rfl ?_
        refine Go.icmp (pc1 := 141) (pc2 := 137) at_134 (by decide) (by decide) rfl (fun (c_2167 : (4 : Int) ≤ (1 : Int)) => ?_) (fun (c_2167 : (1 : Int) < (4 : Int)) => ?_)
        · exact absurd c_2167 (by decide)
        refine Go.iconst (pc' := 138) (v := (1 : Int32)) at_137 rfl rfl ?_
        refine Go.goto (pc' := 142) at_138 (by decide) (by decide) ?_
        refine Go.iconst (pc' := 143) (v := (1 : Int32)) at_142 rfl rfl ?_
        refine Go.iload (pc' := 145) at_143 rfl rfl ?_
        refine Go.iload (pc' := 147) at_145 rfl rfl ?_
        refine Go.iload (pc' := 149) at_147 rfl rfl ?_
        refine Go.iconst (pc' := 150) (v := (2 : Int32)) at_149 rfl rfl ?_
        refine Go.icmp (pc1 := 157) (pc2 := 153) at_150 (by decide) (by decide) rfl (fun (c_2168 : (4 : Int) ≤ (2 : Int)) => ?_) (fun (c_2168 : (2 : Int) < (4 : Int)) => ?_)
        · exact absurd c_2168 (by decide)
        refine Go.iconst (pc' := 154) (v := (1 : Int32)) at_153 rfl rfl ?_
        refine Go.goto (pc' := 158) at_154 (by decide) (by decide) ?_
        refine Go.iload (pc' := 160) at_158 rfl rfl ?_
        refine Go.callS (pc' := 163) (argsL := [(.int 1), (.int 1), (.int c0), (.int c1), (.int 1), (.int c2)]) (rest := []) (W := 0) (own_w hw 27 rfl) (own_w hw 28 rfl) (own_w hw 3 rfl) (own_w hw 29 rfl) (by decide) (m_ok l Z a0 hw (1 : Int32) (1 : Int32) c0 c1 (1 : Int32) c2 h_2135 n0 z_2148) at_160 rfl pd18 rfl rfl (Nat.le_of_eq rfl) (by decide) (by decide) (by decide) (by decide) rfl ?_
        rintro _ _ ⟨r1, rfl, rfl, hr1, ir1⟩
        show Go _ _ _ _ _ _ _ _ _ _ _ _ h_2135 (0 + 0 + 0 + 0 + 0 + 1 + 1 + 2 + 0 + 0) (0 + 0 + 0 + 0 + 0 + 4 + 4 + 12 + 0 + 0) 163 #[.val (.int y0), .val (.int y1), .val (.int y2), .val (.int y3), .val (.int y4), .val (.int 4), .val (.int c0), .val (.int c1), .val (.int c2), .val (.int c3), .val (.ref a_2053), .val (.ref a_2116), .unset] [(.int r1)]
        refine Go.ifc (pc1 := 230) (pc2 := 166) at_163 (by decide) (by decide) rfl (fun (t1 : r1.toInt = 0) => ?_) (fun (t1 : r1.toInt ≠ 0) => ?_)
        · refine Go.iconst (pc' := 231) (v := (0 : Int32)) at_230 rfl rfl ?_
          refine Go.istore (pc' := 233) (Ls' := #[.val (.int y0), .val (.int y1), .val (.int y2), .val (.int y3), .val (.int y4), .val (.int 4), .val (.int c0), .val (.int c1), .val (.int c2), .val (.int c3), .val (.ref a_2053), .val (.ref a_2116), .val (.int 0)]) at_231 rfl rfl ?_
          refine Go.aload (pc' := 235) at_233 rfl rfl rfl ?_
          refine Go.callS (pc' := 238) (argsL := [(.ref a_2116)]) (rest := []) (W := 0) (own_w hw 30 rfl) (own_w hw 31 rfl) (own_w hw 32 rfl) (own_w hw 33 rfl) (by decide) (m_tx4_1 l Z a0 hw a_2116 o l0 g0 l1 g1 l2 g2 l3 g3 c0 c1 c2 c3 cs fm h_2135 n0 z_2148 O_2149 hSCS hSAD hSHB hSLB hSFM hcs hfm f_2143 f1 f2 A e0 e1 e2 e3) at_235 rfl pd19 rfl rfl (Nat.le_of_eq rfl) (by decide) (by decide) (by decide) (by decide) rfl ?_
          rintro _ _ ⟨rt, rfl, rfl, hrt, irt⟩
          show Go _ _ _ _ _ _ _ _ _ _ _ _ h_2135 (0 + 0 + 0 + 0 + 0 + 1 + 1 + 2 + 0 + 0 + 0) (0 + 0 + 0 + 0 + 0 + 4 + 4 + 12 + 0 + 0 + 0) 238 #[.val (.int y0), .val (.int y1), .val (.int y2), .val (.int y3), .val (.int y4), .val (.int 4), .val (.int c0), .val (.int c1), .val (.int c2), .val (.int c3), .val (.ref a_2053), .val (.ref a_2116), .val (.int 0)] [(.int rt)]
          have ht : rt.toInt = 0 := hrt.resolve_right (fun t => own_b0 ir1 t1 ((own_l4 c0 c1 c2 c3).mp (irt.mp t)).2.1)
          refine Go.iload (pc' := 240) at_238 rfl rfl ?_
          refine Go.icmp (pc1 := 247) (pc2 := 243) at_240 (by decide) (by decide) rfl (fun (c_2169 : rt.toInt ≠ (0 : Int)) => ?_) (fun (c_2169 : rt.toInt = (0 : Int)) => ?_)
          · exact absurd ht c_2169
          refine Go.iconst (pc' := 244) (v := (1 : Int32)) at_243 rfl rfl ?_
          refine Go.goto (pc' := 248) at_244 (by decide) (by decide) ?_
          exact Go.retN (t := .boolean) at_248 rfl (by simp) rfl rfl (by decide) (by decide)
        · refine Go.iload (pc' := 168) at_166 rfl rfl ?_
          refine Go.iconst (pc' := 169) (v := (2 : Int32)) at_168 rfl rfl ?_
          refine Go.icmp (pc1 := 176) (pc2 := 172) at_169 (by decide) (by decide) rfl (fun (c_2170 : (4 : Int) ≤ (2 : Int)) => ?_) (fun (c_2170 : (2 : Int) < (4 : Int)) => ?_)
          · exact absurd c_2170 (by decide)
          refine Go.iconst (pc' := 173) (v := (1 : Int32)) at_172 rfl rfl ?_
          refine Go.goto (pc' := 177) at_173 (by decide) (by decide) ?_
          refine Go.iconst (pc' := 178) (v := (1 : Int32)) at_177 rfl rfl ?_
          refine Go.iload (pc' := 180) at_178 rfl rfl ?_
          refine Go.iload (pc' := 182) at_180 rfl rfl ?_
          refine Go.iload (pc' := 184) at_182 rfl rfl ?_
          refine Go.iconst (pc' := 185) (v := (3 : Int32)) at_184 rfl rfl ?_
          refine Go.icmp (pc1 := 192) (pc2 := 188) at_185 (by decide) (by decide) rfl (fun (c_2171 : (4 : Int) ≤ (3 : Int)) => ?_) (fun (c_2171 : (3 : Int) < (4 : Int)) => ?_)
          · exact absurd c_2171 (by decide)
          refine Go.iconst (pc' := 189) (v := (1 : Int32)) at_188 rfl rfl ?_
          refine Go.goto (pc' := 193) at_189 (by decide) (by decide) ?_
          refine Go.iload (pc' := 195) at_193 rfl rfl ?_
          refine Go.callS (pc' := 198) (argsL := [(.int 1), (.int 1), (.int c1), (.int c2), (.int 1), (.int c3)]) (rest := []) (W := 0) (own_w hw 27 rfl) (own_w hw 28 rfl) (own_w hw 3 rfl) (own_w hw 29 rfl) (by decide) (m_ok l Z a0 hw (1 : Int32) (1 : Int32) c1 c2 (1 : Int32) c3 h_2135 n0 z_2148) at_195 rfl pd18 rfl rfl (Nat.le_of_eq rfl) (by decide) (by decide) (by decide) (by decide) rfl ?_
          rintro _ _ ⟨r2, rfl, rfl, hr2, ir2⟩
          show Go _ _ _ _ _ _ _ _ _ _ _ _ h_2135 (0 + 0 + 0 + 0 + 0 + 1 + 1 + 2 + 0 + 0 + 0) (0 + 0 + 0 + 0 + 0 + 4 + 4 + 12 + 0 + 0 + 0) 198 #[.val (.int y0), .val (.int y1), .val (.int y2), .val (.int y3), .val (.int y4), .val (.int 4), .val (.int c0), .val (.int c1), .val (.int c2), .val (.int c3), .val (.ref a_2053), .val (.ref a_2116), .unset] [(.int r2)]
          refine Go.ifc (pc1 := 230) (pc2 := 201) at_198 (by decide) (by decide) rfl (fun (t2 : r2.toInt = 0) => ?_) (fun (t2 : r2.toInt ≠ 0) => ?_)
          · refine Go.iconst (pc' := 231) (v := (0 : Int32)) at_230 rfl rfl ?_
            refine Go.istore (pc' := 233) (Ls' := #[.val (.int y0), .val (.int y1), .val (.int y2), .val (.int y3), .val (.int y4), .val (.int 4), .val (.int c0), .val (.int c1), .val (.int c2), .val (.int c3), .val (.ref a_2053), .val (.ref a_2116), .val (.int 0)]) at_231 rfl rfl ?_
            refine Go.aload (pc' := 235) at_233 rfl rfl rfl ?_
            refine Go.callS (pc' := 238) (argsL := [(.ref a_2116)]) (rest := []) (W := 0) (own_w hw 30 rfl) (own_w hw 31 rfl) (own_w hw 32 rfl) (own_w hw 33 rfl) (by decide) (m_tx4_1 l Z a0 hw a_2116 o l0 g0 l1 g1 l2 g2 l3 g3 c0 c1 c2 c3 cs fm h_2135 n0 z_2148 O_2149 hSCS hSAD hSHB hSLB hSFM hcs hfm f_2143 f1 f2 A e0 e1 e2 e3) at_235 rfl pd19 rfl rfl (Nat.le_of_eq rfl) (by decide) (by decide) (by decide) (by decide) rfl ?_
            rintro _ _ ⟨rt, rfl, rfl, hrt, irt⟩
            show Go _ _ _ _ _ _ _ _ _ _ _ _ h_2135 (0 + 0 + 0 + 0 + 0 + 1 + 1 + 2 + 0 + 0 + 0 + 0) (0 + 0 + 0 + 0 + 0 + 4 + 4 + 12 + 0 + 0 + 0 + 0) 238 #[.val (.int y0), .val (.int y1), .val (.int y2), .val (.int y3), .val (.int y4), .val (.int 4), .val (.int c0), .val (.int c1), .val (.int c2), .val (.int c3), .val (.ref a_2053), .val (.ref a_2116), .val (.int 0)] [(.int rt)]
            have ht : rt.toInt = 0 := hrt.resolve_right (fun t => own_b0 ir2 t2 ((own_l4 c0 c1 c2 c3).mp (irt.mp t)).2.2.1)
            refine Go.iload (pc' := 240) at_238 rfl rfl ?_
            refine Go.icmp (pc1 := 247) (pc2 := 243) at_240 (by decide) (by decide) rfl (fun (c_2172 : rt.toInt ≠ (0 : Int)) => ?_) (fun (c_2172 : rt.toInt = (0 : Int)) => ?_)
            · exact absurd ht c_2172
            refine Go.iconst (pc' := 244) (v := (1 : Int32)) at_243 rfl rfl ?_
            refine Go.goto (pc' := 248) at_244 (by decide) (by decide) ?_
            exact Go.retN (t := .boolean) at_248 rfl (by simp) rfl rfl (by decide) (by decide)
          · refine Go.iload (pc' := 203) at_201 rfl rfl ?_
            refine Go.iconst (pc' := 204) (v := (3 : Int32)) at_203 rfl rfl ?_
            refine Go.icmp (pc1 := 211) (pc2 := 207) at_204 (by decide) (by decide) rfl (fun (c_2173 : (4 : Int) ≤ (3 : Int)) => ?_) (fun (c_2173 : (3 : Int) < (4 : Int)) => ?_)
            · exact absurd c_2173 (by decide)
            refine Go.iconst (pc' := 208) (v := (1 : Int32)) at_207 rfl rfl ?_
            refine Go.goto (pc' := 212) at_208 (by decide) (by decide) ?_
            refine Go.iconst (pc' := 213) (v := (1 : Int32)) at_212 rfl rfl ?_
            refine Go.iload (pc' := 215) at_213 rfl rfl ?_
            refine Go.iload (pc' := 217) at_215 rfl rfl ?_
            refine Go.iconst (pc' := 218) (v := (0 : Int32)) at_217 rfl rfl ?_
            refine Go.iload (pc' := 220) at_218 rfl rfl ?_
            refine Go.callS (pc' := 223) (argsL := [(.int 1), (.int 1), (.int c2), (.int c3), (.int 0), (.int c3)]) (rest := []) (W := 0) (own_w hw 27 rfl) (own_w hw 28 rfl) (own_w hw 3 rfl) (own_w hw 29 rfl) (by decide) (m_ok l Z a0 hw (1 : Int32) (1 : Int32) c2 c3 (0 : Int32) c3 h_2135 n0 z_2148) at_220 rfl pd18 rfl rfl (Nat.le_of_eq rfl) (by decide) (by decide) (by decide) (by decide) rfl ?_
            rintro _ _ ⟨r3, rfl, rfl, hr3, ir3⟩
            show Go _ _ _ _ _ _ _ _ _ _ _ _ h_2135 (0 + 0 + 0 + 0 + 0 + 1 + 1 + 2 + 0 + 0 + 0 + 0) (0 + 0 + 0 + 0 + 0 + 4 + 4 + 12 + 0 + 0 + 0 + 0) 223 #[.val (.int y0), .val (.int y1), .val (.int y2), .val (.int y3), .val (.int y4), .val (.int 4), .val (.int c0), .val (.int c1), .val (.int c2), .val (.int c3), .val (.ref a_2053), .val (.ref a_2116), .unset] [(.int r3)]
            refine Go.ifc (pc1 := 230) (pc2 := 226) at_223 (by decide) (by decide) rfl (fun (t3 : r3.toInt = 0) => ?_) (fun (t3 : r3.toInt ≠ 0) => ?_)
            · refine Go.iconst (pc' := 231) (v := (0 : Int32)) at_230 rfl rfl ?_
              refine Go.istore (pc' := 233) (Ls' := #[.val (.int y0), .val (.int y1), .val (.int y2), .val (.int y3), .val (.int y4), .val (.int 4), .val (.int c0), .val (.int c1), .val (.int c2), .val (.int c3), .val (.ref a_2053), .val (.ref a_2116), .val (.int 0)]) at_231 rfl rfl ?_
              refine Go.aload (pc' := 235) at_233 rfl rfl rfl ?_
              refine Go.callS (pc' := 238) (argsL := [(.ref a_2116)]) (rest := []) (W := 0) (own_w hw 30 rfl) (own_w hw 31 rfl) (own_w hw 32 rfl) (own_w hw 33 rfl) (by decide) (m_tx4_1 l Z a0 hw a_2116 o l0 g0 l1 g1 l2 g2 l3 g3 c0 c1 c2 c3 cs fm h_2135 n0 z_2148 O_2149 hSCS hSAD hSHB hSLB hSFM hcs hfm f_2143 f1 f2 A e0 e1 e2 e3) at_235 rfl pd19 rfl rfl (Nat.le_of_eq rfl) (by decide) (by decide) (by decide) (by decide) rfl ?_
              rintro _ _ ⟨rt, rfl, rfl, hrt, irt⟩
              show Go _ _ _ _ _ _ _ _ _ _ _ _ h_2135 (0 + 0 + 0 + 0 + 0 + 1 + 1 + 2 + 0 + 0 + 0 + 0 + 0) (0 + 0 + 0 + 0 + 0 + 4 + 4 + 12 + 0 + 0 + 0 + 0 + 0) 238 #[.val (.int y0), .val (.int y1), .val (.int y2), .val (.int y3), .val (.int y4), .val (.int 4), .val (.int c0), .val (.int c1), .val (.int c2), .val (.int c3), .val (.ref a_2053), .val (.ref a_2116), .val (.int 0)] [(.int rt)]
              have ht : rt.toInt = 0 := hrt.resolve_right (fun t => own_b0 ir3 t3 ((own_l4 c0 c1 c2 c3).mp (irt.mp t)).2.2.2)
              refine Go.iload (pc' := 240) at_238 rfl rfl ?_
              refine Go.icmp (pc1 := 247) (pc2 := 243) at_240 (by decide) (by decide) rfl (fun (c_2174 : rt.toInt ≠ (0 : Int)) => ?_) (fun (c_2174 : rt.toInt = (0 : Int)) => ?_)
              · exact absurd ht c_2174
              refine Go.iconst (pc' := 244) (v := (1 : Int32)) at_243 rfl rfl ?_
              refine Go.goto (pc' := 248) at_244 (by decide) (by decide) ?_
              exact Go.retN (t := .boolean) at_248 rfl (by simp) rfl rfl (by decide) (by decide)
            · refine Go.iconst (pc' := 227) (v := (1 : Int32)) at_226 rfl rfl ?_
              refine Go.goto (pc' := 231) at_227 (by decide) (by decide) ?_
              refine Go.istore (pc' := 233) (Ls' := #[.val (.int y0), .val (.int y1), .val (.int y2), .val (.int y3), .val (.int y4), .val (.int 4), .val (.int c0), .val (.int c1), .val (.int c2), .val (.int c3), .val (.ref a_2053), .val (.ref a_2116), .val (.int 1)]) at_231 rfl rfl ?_
              refine Go.aload (pc' := 235) at_233 rfl rfl rfl ?_
              refine Go.callS (pc' := 238) (argsL := [(.ref a_2116)]) (rest := []) (W := 0) (own_w hw 30 rfl) (own_w hw 31 rfl) (own_w hw 32 rfl) (own_w hw 33 rfl) (by decide) (m_tx4_1 l Z a0 hw a_2116 o l0 g0 l1 g1 l2 g2 l3 g3 c0 c1 c2 c3 cs fm h_2135 n0 z_2148 O_2149 hSCS hSAD hSHB hSLB hSFM hcs hfm f_2143 f1 f2 A e0 e1 e2 e3) at_235 rfl pd19 rfl rfl (Nat.le_of_eq rfl) (by decide) (by decide) (by decide) (by decide) rfl ?_
              rintro _ _ ⟨rt, rfl, rfl, hrt, irt⟩
              show Go _ _ _ _ _ _ _ _ _ _ _ _ h_2135 (0 + 0 + 0 + 0 + 0 + 1 + 1 + 2 + 0 + 0 + 0 + 0 + 0) (0 + 0 + 0 + 0 + 0 + 4 + 4 + 12 + 0 + 0 + 0 + 0 + 0) 238 #[.val (.int y0), .val (.int y1), .val (.int y2), .val (.int y3), .val (.int y4), .val (.int 4), .val (.int c0), .val (.int c1), .val (.int c2), .val (.int c3), .val (.ref a_2053), .val (.ref a_2116), .val (.int 1)] [(.int rt)]
              have ht : rt.toInt = 1 := irt.mpr ((own_l4 c0 c1 c2 c3).mpr ⟨own_b1 ir0 hr0 t0, own_b1 ir1 hr1 t1, own_b1 ir2 hr2 t2, own_b1 ir3 hr3 t3⟩)
              refine Go.iload (pc' := 240) at_238 rfl rfl ?_
              refine Go.icmp (pc1 := 247) (pc2 := 243) at_240 (by decide) (by decide) rfl (fun (c_2175 : rt.toInt ≠ (1 : Int)) => ?_) (fun (c_2175 : rt.toInt = (1 : Int)) => ?_)
              · exact absurd ht c_2175
              refine Go.iconst (pc' := 244) (v := (1 : Int32)) at_243 rfl rfl ?_
              refine Go.goto (pc' := 248) at_244 (by decide) (by decide) ?_
              exact Go.retN (t := .boolean) at_248 rfl (by simp) rfl rfl (by decide) (by decide)
set_option maxRecDepth 65536 in
set_option maxHeartbeats 40000000 in
theorem comes_1 {Post : Tables → Env → Array Value → State → Outcome → State → Prop} (hpost : ∀ tb e args s v u, (limb_1_1.after args s (.returned v) u = true ∧ limb_1_2.after args s (.returned v) u = true ∧ True) → Jvm.D.FramedW s (.returned v) u (Jvm.fieldLocs frame_1_writes args s ++ Jvm.arrayLocs frame_1_arrays args s ++ Jvm.staticLocs frame_1_statics s) 24 1152 → Post tb e args s (.returned v) u) :
    ArmFor flags0 classFile x code maxLocals ret World_1 tables_1 room_1 Calls_1 rest_1 Pre_1 Post := by
  intro l hfl _ _ p e ha hc hk s m args below hf hA hF happ hP
  obtain ⟨hcalls, hrest, hpre⟩ := hP
  obtain ⟨-, -, -, hnamed, -, -, -, hat⟩ := (Spec.applies_iff hf).mp happ
  obtain ⟨hg, hn⟩ := and_e (Cond.before_iff.mp (show (Jvm.Cond.and given_1 narrow_1).before args s = true from hpre))
  obtain ⟨h1, hg1⟩ := and_e hg
  obtain ⟨w0, w1, w2, w3, w4, rfl⟩ : ∃ w0 w1 w2 w3 w4 : Value, args = #[w0, w1, w2, w3, w4] := by
    have hs : args.size = 5 := by simpa [Cond.value, given_1] using h1
    obtain ⟨L⟩ := args
    match L, hs with
    | [w0, w1, w2, w3, w4], _ => exact ⟨w0, w1, w2, w3, w4, rfl⟩
  have hw := fun d (hd : d ∈ tables_1) => atoms_spec (ws := Jvm.Cond.code x code maxLocals ret :: tables_1) hat d (List.mem_cons_of_mem _ hd)
  have hfit : Fit s := fun {y c} hc i hi => by
    obtain ⟨ha, rfl⟩ := Array.getElem?_eq_some_iff.mp hc
    have q := List.all_eq_true.mp ((Array.all_eq_true_iff_forall_mem.mp hF) _ (Array.getElem_mem ha)) i (List.mem_range.mpr hi)
    simpa [Array.getElem?_eq_getElem hi] using q
  obtain ⟨b0, hg2⟩ := and_e hg1
  obtain ⟨i0, e0⟩ := is_v b0
  obtain rfl : w0 = (.int i0) := Option.some.inj e0
  obtain ⟨b1, hg3⟩ := and_e hg2
  obtain ⟨i1, e1⟩ := is_v b1
  obtain rfl : w1 = (.int i1) := Option.some.inj e1
  obtain ⟨b2, hg4⟩ := and_e hg3
  obtain ⟨i2, e2⟩ := is_v b2
  obtain rfl : w2 = (.int i2) := Option.some.inj e2
  obtain ⟨b3, hg5⟩ := and_e hg4
  obtain ⟨i3, e3⟩ := is_v b3
  obtain rfl : w3 = (.int i3) := Option.some.inj e3
  obtain ⟨i4, e4⟩ := is_v hg5
  obtain rfl : w4 = (.int i4) := Option.some.inj e4
  have hr := Cond.before_iff.mp (show rest_1_c.before _ s = true from hrest)
  obtain ⟨q0, qr0⟩ := and_e hr
  obtain ⟨q1, qr1⟩ := and_e qr0
  obtain ⟨q2, qr2⟩ := and_e qr1
  obtain ⟨q3, qr3⟩ := and_e qr2
  obtain ⟨q4, qr4⟩ := and_e qr3
  obtain ⟨q5, qr5⟩ := and_e qr4
  obtain ⟨q6, qr6⟩ := and_e qr5
  obtain ⟨q7, qr7⟩ := and_e qr6
  obtain ⟨q8, qr8⟩ := and_e qr7
  obtain ⟨q9, qr9⟩ := and_e qr8
  obtain ⟨q10, qr10⟩ := and_e qr9
  obtain ⟨q11, qr11⟩ := and_e qr10
  obtain ⟨q12, qr12⟩ := and_e qr11
  obtain ⟨q13, qr13⟩ := and_e qr12
  obtain ⟨q14, qr14⟩ := and_e qr13
  obtain ⟨q15, qr15⟩ := and_e qr14
  obtain ⟨q16, qr16⟩ := and_e qr15
  obtain ⟨q17, qr17⟩ := and_e qr16
  obtain ⟨q18, qr18⟩ := and_e qr17
  have q19 := qr18
  obtain ⟨cs, ecs, hcs⟩ := own_neI q1 q2
  have S1 := Sta.start ecs (Or.inl (Cond.before_iff.mpr q0))
  have S2 := Sta.start (own_eqI q12) (Or.inl (Cond.before_iff.mpr q11))
  have S3 := Sta.start (own_eqI q15) (Or.inl (Cond.before_iff.mpr q14))
  have S4 := Sta.start (own_eqI q18) (Or.inl (Cond.before_iff.mpr q17))
  obtain ⟨fm, efm, hfm⟩ := own_refV q8
  have S5 := Sta.start efm (Or.inl (Cond.before_iff.mpr q7))
  have hcw : Jvm.Lit.compactW.before _ s = true := Cond.before_iff.mpr q2
  have hH : Jvm.Lit.constHeld s "java/lang/String" 7 := hcalls.1 _ (List.mem_of_getElem? (i := 0) rfl)
  obtain ⟨n, o, h1, h2, h3, _, L, rfl, ⟨⟨rfl, -⟩, N⟩, hq, -⟩ := rm1 l s _ hw tables_1 i0 i1 i2 i3 i4 cs fm s.heap s.heap.size (Nat.le_refl _) (Old.start s) S1 S2 S3 S4 S5 hcs hfm hH hcw p e ha hc hk s m _ below hf ((Spec.applies_iff_loose hf).mp happ).1 ⟨rfl, State.Warmed39.refl s, rfl, IB.start⟩ trivial
  refine ⟨n, _, h1, h2, h3, hpost _ _ _ _ _ _ ⟨Cond.after_iff.mpr rfl, Cond.after_iff.mpr (eq_i res_at (Term.int_eval (1)) rfl), trivial⟩ ⟨hq.1, hq.2.1, hq.2.2.1, (hq.2.2.2.sift fun y hy => Or.inr (N y hy)).mono (by decide) (by decide)⟩⟩
theorem main_1_1 : Claimed_1_1 := comes_1 fun _ _ _ _ _ _ h hF => ⟨h.1, hF⟩
theorem main_1_2 : Claimed_1_2 := comes_1 fun _ _ _ _ _ _ h hF => ⟨h.2.1, hF⟩
end Jvm.Pilot.@@N@@
namespace Jvm.Pilot.@@N@@
open Jvm Jvm.ClassFile Sem Op Lib Jvm.Free Jvm.Stand Jvm.Pilot.@@N@@.Jvm.D
/-! MADE BY PROGRAM (witnessworld.py) out of the Statement's table words and the real class files: 21 classes; the members and pool entries that the words name. The judged class is class 1, her method 5. -/
namespace start1
open Jvm.ClassFile
def u (s : String) : CpInfo := .utf8 (stringToUtf16 s)
/-- a pool by its gaps: so many unusable entries, then the entry; so many at the end -/
def gap : Nat → List CpInfo → List CpInfo
  | 0, r => r
  | n + 1, r => .unusable :: gap n r
def poolList (es : List (Nat × CpInfo)) (last : Nat) : List CpInfo := es.foldr (fun e r => gap e.1 (e.2 :: r)) (gap last [])
def pool (es : List (Nat × CpInfo)) (last : Nat) : Array CpInfo := ⟨poolList es last⟩
def fileOf (pool : Array CpInfo) (this : Nat) (attrs : Array Attribute := #[]) (ms : Array MethodInfo := #[]) (fl : Nat := 33) (sup : Nat := 0) (ifs : Array Nat := #[]) (fds : Array FieldInfo := #[]) : ClassFile where
  minorVersion := 0
  majorVersion := 65
  constantPool := pool
  accessFlags := fl
  thisClass := this
  superClass := sup
  interfaces := ifs
  fields := fds
  methods := ms
  attributes := attrs
def plain (name : String) (sup : Option ClassId) : Class where
  name := name
  kind := .ordinary
  loader := none
  accessFlags := 33
  super := sup
  interfaces := #[]
  cf := none
  fields := #[]
  methods := #[]
  instanceTypes := #[]
  staticTypes := #[]
  resolved := #[]
  callSites := []
  init := .initialized
  statics := none
  mirror := none

def pool0 : Array CpInfo := pool [(5, u "<init>"), (0, u "()V"), (1, .class_ 10), (1, u "java/lang/Object")] 113

def k0c0 : Code := { maxStack := 0, maxLocals := 1, code := object_method_1_code, exceptionTable := #[], attributes := #[] }
def k0m0 : Method := { name := "<init>", desc := "()V", sig := { parameters := [], returnType := none }, accessFlags := 1, code := some k0c0 }
/-- java/lang/Object -/
def k0 : Class := { plain "java/lang/Object" none with
  accessFlags := 33
  interfaces := #[]
  cf := some (fileOf pool0 8 #[] #[{ accessFlags := 1, nameIndex := 5, descriptorIndex := 6, attributes := #[] }] 33 0 #[] #[])
  fields := #[]
  methods := #[k0m0]
  instanceTypes := #[]
  staticTypes := #[]
  resolved := Array.replicate 124 none
  statics := none }

def pool1 : Array CpInfo := pool [(2, .class_ 4), (1, u "java/lang/Object"), (0, u "<init>"), (0, u "()V"), (0, .integer 55296), (0, .integer 56319), (0, .integer 56320), (0, .integer 57343), (0, .methodref 12 13), (0, .class_ 14), (0, .nameAndType 15 16), (0, u "com/example/consentry/consentry/io/UnicodeIsTextPinLaw"), (0, u "isHigh"), (0, u "(C)Z"), (0, .methodref 12 18), (0, .nameAndType 19 16), (0, u "isLow"), (0, .integer 2147483647), (0, .methodref 12 22), (0, .nameAndType 23 24), (0, u "draw"), (0, u "(I)C"), (0, .class_ 26), (0, u "java/lang/String"), (0, .methodref 25 28), (0, .nameAndType 5 29), (0, u "([C)V"), (0, .methodref 12 31), (0, .nameAndType 32 33), (0, u "okAt"), (0, u "(ZZCCZC)Z"), (0, .methodref 35 36), (0, .class_ 37), (0, .nameAndType 38 39), (0, u "com/example/consentry/consentry/io/Unicode"), (0, u "isText"), (0, u "(Ljava/lang/String;)Z"), (3, u "law"), (0, u "(IIIII)Z")] 4

def k1m0 : Method := { name := "<init>", desc := "()V", sig := { parameters := [], returnType := none }, accessFlags := 2, code := none }
def k1c1 : Code := { maxStack := 2, maxLocals := 1, code := method_2_code, exceptionTable := #[], attributes := #[] }
def k1m1 : Method := { name := "isHigh", desc := "(C)Z", sig := { parameters := [.char], returnType := some .boolean }, accessFlags := 10, code := some k1c1 }
def k1c2 : Code := { maxStack := 2, maxLocals := 1, code := method_3_code, exceptionTable := #[], attributes := #[] }
def k1m2 : Method := { name := "isLow", desc := "(C)Z", sig := { parameters := [.char], returnType := some .boolean }, accessFlags := 10, code := some k1c2 }
def k1c3 : Code := { maxStack := 3, maxLocals := 1, code := method_4_code, exceptionTable := #[], attributes := #[] }
def k1m3 : Method := { name := "draw", desc := "(I)C", sig := { parameters := [.int], returnType := some .char }, accessFlags := 10, code := some k1c3 }
def k1c4 : Code := { maxStack := 1, maxLocals := 6, code := method_5_code, exceptionTable := #[], attributes := #[] }
def k1m4 : Method := { name := "okAt", desc := "(ZZCCZC)Z", sig := { parameters := [.boolean, .boolean, .char, .char, .boolean, .char], returnType := some .boolean }, accessFlags := 10, code := some k1c4 }
def k1c5 : Code := { maxStack := 6, maxLocals := 13, code := code, exceptionTable := #[], attributes := #[] }
def k1m5 : Method := { name := "law", desc := "(IIIII)Z", sig := { parameters := [.int, .int, .int, .int, .int], returnType := some .boolean }, accessFlags := 9, code := some k1c5 }
/-- com/example/consentry/consentry/io/UnicodeIsTextPinLaw -/
def k1 : Class := { plain "com/example/consentry/consentry/io/UnicodeIsTextPinLaw" (some 0) with
  accessFlags := 49
  interfaces := #[]
  cf := some (fileOf pool1 12 #[] #[{ accessFlags := 2, nameIndex := 5, descriptorIndex := 6, attributes := #[] }, { accessFlags := 10, nameIndex := 15, descriptorIndex := 16, attributes := #[] }, { accessFlags := 10, nameIndex := 19, descriptorIndex := 16, attributes := #[] }, { accessFlags := 10, nameIndex := 23, descriptorIndex := 24, attributes := #[] }, { accessFlags := 10, nameIndex := 32, descriptorIndex := 33, attributes := #[] }, { accessFlags := 9, nameIndex := 43, descriptorIndex := 44, attributes := #[] }] 49 2 #[] #[])
  fields := #[]
  methods := #[k1m0, k1m1, k1m2, k1m3, k1m4, k1m5]
  instanceTypes := #[]
  staticTypes := #[]
  resolved := Array.replicate 49 none
  statics := none }

def pool2 : Array CpInfo := pool [(1, .class_ 2), (0, u "java/io/Serializable"), (0, .class_ 4), (0, u "java/lang/Object")] 2

/-- java/io/Serializable -/
def k2 : Class := { plain "java/io/Serializable" (some 0) with
  accessFlags := 1537
  interfaces := #[]
  cf := some (fileOf pool2 1 #[] #[] 1537 3 #[] #[])
  fields := #[]
  methods := #[]
  instanceTypes := #[]
  staticTypes := #[]
  resolved := Array.replicate 7 none
  statics := none }

def pool3 : Array CpInfo := pool [(1, .class_ 2), (0, u "java/lang/Comparable"), (0, .class_ 4), (0, u "java/lang/Object")] 7

/-- java/lang/Comparable -/
def k3 : Class := { plain "java/lang/Comparable" (some 0) with
  accessFlags := 1537
  interfaces := #[]
  cf := some (fileOf pool3 1 #[] #[] 1537 3 #[] #[])
  fields := #[]
  methods := #[]
  instanceTypes := #[]
  staticTypes := #[]
  resolved := Array.replicate 12 none
  statics := none }

def pool4 : Array CpInfo := pool [(2, .class_ 4), (1, u "java/lang/CharSequence"), (42, .class_ 48), (0, u "java/lang/CharSequence$1CodePointIterator"), (10, .class_ 60), (0, u "java/lang/CharSequence$1CharIterator"), (5, .class_ 67), (0, u "java/lang/Object")] 63

/-- java/lang/CharSequence -/
def k4 : Class := { plain "java/lang/CharSequence" (some 0) with
  accessFlags := 1537
  interfaces := #[]
  cf := some (fileOf pool4 2 #[.nestMembers #[47, 59]] #[] 1537 66 #[] #[])
  fields := #[]
  methods := #[]
  instanceTypes := #[]
  staticTypes := #[]
  resolved := Array.replicate 131 none
  statics := none }

def pool5 : Array CpInfo := pool [(1, .class_ 2), (0, u "java/lang/constant/Constable"), (0, .class_ 4), (0, u "java/lang/Object")] 6

/-- java/lang/constant/Constable -/
def k5 : Class := { plain "java/lang/constant/Constable" (some 0) with
  accessFlags := 1537
  interfaces := #[]
  cf := some (fileOf pool5 1 #[] #[] 1537 3 #[] #[])
  fields := #[]
  methods := #[]
  instanceTypes := #[]
  staticTypes := #[]
  resolved := Array.replicate 11 none
  statics := none }

def pool6 : Array CpInfo := pool [(1, .class_ 2), (0, u "java/lang/constant/ConstantDesc"), (0, .class_ 4), (0, u "java/lang/Object")] 32

/-- java/lang/constant/ConstantDesc -/
def k6 : Class := { plain "java/lang/constant/ConstantDesc" (some 0) with
  accessFlags := 1537
  interfaces := #[]
  cf := some (fileOf pool6 1 #[] #[] 1537 3 #[] #[])
  fields := #[]
  methods := #[]
  instanceTypes := #[]
  staticTypes := #[]
  resolved := Array.replicate 37 none
  statics := none }

def pool7 : Array CpInfo := pool [(1, .methodref 2 3), (0, .class_ 4), (0, .nameAndType 5 6), (0, u "java/lang/Object"), (0, u "<init>"), (0, u "()V"), (0, .string 8), (0, u ""), (0, .fieldref 10 11), (0, .class_ 12), (0, .nameAndType 13 14), (0, u "java/lang/String"), (0, u "value"), (0, u "[B"), (0, .fieldref 10 16), (0, .nameAndType 17 18), (0, u "coder"), (0, u "B"), (2, u "hash"), (0, u "I"), (2, u "hashIsZero"), (0, u "Z"), (0, .methodref 10 28), (0, .nameAndType 5 29), (0, u "([CIILjava/lang/Void;)V"), (8, .fieldref 10 39), (0, .nameAndType 40 26), (0, u "COMPACT_STRINGS"), (1, .class_ 44), (1, u "java/lang/StringUTF16"), (0, u "compress"), (1, .methodref 42 48), (0, .nameAndType 49 50), (0, u "coderFromArrayLen"), (0, u "([BI)B"), (56, .class_ 109), (1, u "java/lang/StringLatin1"), (32, u "()Z"), (34, .methodref 42 178), (0, .nameAndType 45 179), (0, u "([CII)[B"), (154, u "()I"), (0, .methodref 10 336), (0, .nameAndType 17 337), (0, u "()B"), (25, u "([BI)C"), (27, u "(II)V"), (35, u "(I)C"), (64, .methodref 10 493), (0, .nameAndType 494 142), (0, u "isLatin1"), (0, .methodref 107 496), (0, .nameAndType 497 363), (0, u "charAt"), (0, .methodref 42 496), (2, u "checkIndex"), (5, u "length"), (67, .class_ 576), (0, u "java/lang/CharSequence"), (22, u "CASE_INSENSITIVE_ORDER"), (0, u "Ljava/util/Comparator;"), (409, u "([C)V"), (42, .fieldref 1054 1055), (0, .class_ 1056), (0, .nameAndType 1057 1058), (0, u "jdk/internal/util/Preconditions"), (0, u "SIOOBE_FORMATTER"), (0, u "Ljava/util/function/BiFunction;"), (0, .methodref 1054 1060), (0, .nameAndType 501 1061), (0, u "(IILjava/util/function/BiFunction;)I"), (39, u "serialPersistentFields"), (0, u "[Ljava/io/ObjectStreamField;"), (0, .class_ 1104), (0, u "java/lang/String$CaseInsensitiveComparator"), (1, .class_ 1107), (0, u "java/io/Serializable"), (0, .class_ 1109), (0, u "java/lang/Comparable"), (0, .class_ 1111), (0, u "java/lang/constant/Constable"), (0, .class_ 1113), (0, u "java/lang/constant/ConstantDesc"), (2, u "serialVersionUID"), (0, u "J"), (3, u "REPL"), (0, u "C"), (2, u "LATIN1"), (1, u "UTF16")] 323

def k7m0 : Method := { name := "<init>", desc := "()V", sig := { parameters := [], returnType := none }, accessFlags := 1, code := none }
def k7c1 : Code := { maxStack := 5, maxLocals := 2, code := jdk_42_method_3_code, exceptionTable := #[], attributes := #[] }
def k7m1 : Method := { name := "<init>", desc := "([C)V", sig := { parameters := [(.array .char)], returnType := none }, accessFlags := 1, code := some k7c1 }
def k7c2 : Code := { maxStack := 2, maxLocals := 1, code := jdk_42_method_54_code, exceptionTable := #[], attributes := #[] }
def k7m2 : Method := { name := "length", desc := "()I", sig := { parameters := [], returnType := some .int }, accessFlags := 1, code := some k7c2 }
def k7c3 : Code := { maxStack := 2, maxLocals := 2, code := jdk_42_method_56_code, exceptionTable := #[], attributes := #[] }
def k7m3 : Method := { name := "charAt", desc := "(I)C", sig := { parameters := [.int], returnType := some .char }, accessFlags := 1, code := some k7c3 }
def k7c4 : Code := { maxStack := 4, maxLocals := 6, code := jdk_42_method_149_code, exceptionTable := #[], attributes := #[] }
def k7m4 : Method := { name := "<init>", desc := "([CIILjava/lang/Void;)V", sig := { parameters := [(.array .char), .int, .int, (.object "java/lang/Void")], returnType := none }, accessFlags := 2, code := some k7c4 }
def k7c5 : Code := { maxStack := 1, maxLocals := 1, code := jdk_42_method_152_code, exceptionTable := #[], attributes := #[] }
def k7m5 : Method := { name := "coder", desc := "()B", sig := { parameters := [], returnType := some .byte }, accessFlags := 0, code := some k7c5 }
def k7c6 : Code := { maxStack := 1, maxLocals := 1, code := jdk_42_method_154_code, exceptionTable := #[], attributes := #[] }
def k7m6 : Method := { name := "isLatin1", desc := "()Z", sig := { parameters := [], returnType := some .boolean }, accessFlags := 0, code := some k7c6 }
def k7c7 : Code := { maxStack := 3, maxLocals := 2, code := jdk_42_method_155_code, exceptionTable := #[], attributes := #[] }
def k7m7 : Method := { name := "checkIndex", desc := "(II)V", sig := { parameters := [.int, .int], returnType := none }, accessFlags := 8, code := some k7c7 }
/-- java/lang/String -/
def k7 : Class := { plain "java/lang/String" (some 0) with
  accessFlags := 49
  interfaces := #[2, 3, 4, 5, 6]
  cf := some (fileOf pool7 10 #[.nestMembers #[1103]] #[{ accessFlags := 1, nameIndex := 5, descriptorIndex := 6, attributes := #[] }, { accessFlags := 1, nameIndex := 5, descriptorIndex := 1010, attributes := #[] }, { accessFlags := 1, nameIndex := 507, descriptorIndex := 334, attributes := #[] }, { accessFlags := 1, nameIndex := 497, descriptorIndex := 427, attributes := #[] }, { accessFlags := 2, nameIndex := 5, descriptorIndex := 29, attributes := #[] }, { accessFlags := 0, nameIndex := 17, descriptorIndex := 337, attributes := #[] }, { accessFlags := 0, nameIndex := 494, descriptorIndex := 142, attributes := #[] }, { accessFlags := 8, nameIndex := 501, descriptorIndex := 391, attributes := #[] }] 49 2 #[1106, 1108, 575, 1110, 1112] #[{ accessFlags := 18, nameIndex := 13, descriptorIndex := 14, attributes := #[] }, { accessFlags := 18, nameIndex := 17, descriptorIndex := 18, attributes := #[] }, { accessFlags := 2, nameIndex := 21, descriptorIndex := 22, attributes := #[] }, { accessFlags := 2, nameIndex := 25, descriptorIndex := 26, attributes := #[] }, { accessFlags := 26, nameIndex := 1116, descriptorIndex := 1117, attributes := #[] }, { accessFlags := 24, nameIndex := 40, descriptorIndex := 26, attributes := #[] }, { accessFlags := 26, nameIndex := 1101, descriptorIndex := 1102, attributes := #[] }, { accessFlags := 26, nameIndex := 1121, descriptorIndex := 1122, attributes := #[] }, { accessFlags := 25, nameIndex := 599, descriptorIndex := 600, attributes := #[] }, { accessFlags := 24, nameIndex := 1125, descriptorIndex := 18, attributes := #[] }, { accessFlags := 24, nameIndex := 1127, descriptorIndex := 18, attributes := #[] }])
  fields := #[{ name := "value", type := (.array .byte), accessFlags := 18, slot := 0, constantValue := 0 }, { name := "coder", type := .byte, accessFlags := 18, slot := 1, constantValue := 0 }, { name := "hash", type := .int, accessFlags := 2, slot := 2, constantValue := 0 }, { name := "hashIsZero", type := .boolean, accessFlags := 2, slot := 3, constantValue := 0 }, { name := "serialVersionUID", type := .long, accessFlags := 26, slot := 0, constantValue := 0 }, { name := "COMPACT_STRINGS", type := .boolean, accessFlags := 24, slot := 1, constantValue := 0 }, { name := "serialPersistentFields", type := (.array (.object "java/io/ObjectStreamField")), accessFlags := 26, slot := 2, constantValue := 0 }, { name := "REPL", type := .char, accessFlags := 26, slot := 3, constantValue := 0 }, { name := "CASE_INSENSITIVE_ORDER", type := (.object "java/util/Comparator"), accessFlags := 25, slot := 4, constantValue := 0 }, { name := "LATIN1", type := .byte, accessFlags := 24, slot := 5, constantValue := 0 }, { name := "UTF16", type := .byte, accessFlags := 24, slot := 6, constantValue := 0 }]
  methods := #[k7m0, k7m1, k7m2, k7m3, k7m4, k7m5, k7m6, k7m7]
  instanceTypes := #[(.array .byte), .byte, .int, .boolean]
  staticTypes := #[.long, .boolean, (.array (.object "java/io/ObjectStreamField")), .char, (.object "java/util/Comparator"), .byte, .byte]
  resolved := Array.replicate 1451 none
  statics := some 0 }

def pool8 : Array CpInfo := pool [(2, .class_ 4), (1, u "java/lang/Object"), (0, u "<init>"), (0, u "()V"), (0, .methodref 8 9), (0, .class_ 10), (0, .nameAndType 11 12), (0, u "java/lang/String"), (0, u "length"), (0, u "()I"), (0, .methodref 8 14), (0, .nameAndType 15 16), (0, u "charAt"), (0, u "(I)C"), (0, .methodref 18 19), (0, .class_ 20), (0, .nameAndType 21 22), (0, u "java/lang/Character"), (0, u "isHighSurrogate"), (0, u "(C)Z"), (0, .methodref 18 24), (0, .nameAndType 25 22), (0, u "isLowSurrogate"), (0, .methodref 18 27), (0, .nameAndType 28 22), (0, u "isSurrogate"), (0, .class_ 30), (0, u "com/example/consentry/consentry/io/Unicode"), (2, u "isText"), (0, u "(Ljava/lang/String;)Z")] 3

def k8m0 : Method := { name := "<init>", desc := "()V", sig := { parameters := [], returnType := none }, accessFlags := 2, code := none }
def k8c1 : Code := { maxStack := 3, maxLocals := 3, code := prog_29_method_2_code, exceptionTable := #[], attributes := #[] }
def k8m1 : Method := { name := "isText", desc := "(Ljava/lang/String;)Z", sig := { parameters := [(.object "java/lang/String")], returnType := some .boolean }, accessFlags := 9, code := some k8c1 }
/-- com/example/consentry/consentry/io/Unicode -/
def k8 : Class := { plain "com/example/consentry/consentry/io/Unicode" (some 0) with
  accessFlags := 49
  interfaces := #[]
  cf := some (fileOf pool8 29 #[] #[{ accessFlags := 2, nameIndex := 5, descriptorIndex := 6, attributes := #[] }, { accessFlags := 9, nameIndex := 33, descriptorIndex := 34, attributes := #[] }] 49 2 #[] #[])
  fields := #[]
  methods := #[k8m0, k8m1]
  instanceTypes := #[]
  staticTypes := #[]
  resolved := Array.replicate 38 none
  statics := none }

def pool9 : Array CpInfo := pool [(3, .class_ 4), (0, u "java/lang/String"), (1, .class_ 8), (1, u "java/lang/Object"), (0, u "<init>"), (0, u "()V"), (0, .methodref 12 13), (0, .class_ 14), (0, .nameAndType 15 16), (0, u "java/lang/StringUTF16"), (0, u "newBytesLength"), (0, u "(I)I"), (3, .integer 1073741823), (23, .fieldref 12 45), (0, .nameAndType 46 47), (0, u "$assertionsDisabled"), (0, u "Z"), (0, .methodref 12 49), (0, .nameAndType 50 51), (0, u "length"), (0, u "([B)I"), (7, .fieldref 12 60), (0, .nameAndType 61 62), (0, u "HI_BYTE_SHIFT"), (0, u "I"), (0, .fieldref 12 64), (0, .nameAndType 65 62), (0, u "LO_BYTE_SHIFT"), (1, .methodref 12 68), (0, .nameAndType 69 70), (0, u "checkIndex"), (0, u "(I[B)V"), (0, .methodref 12 72), (0, .nameAndType 73 74), (0, u "getChar"), (0, u "([BI)C"), (32, .methodref 12 108), (0, .nameAndType 109 110), (0, u "newBytesFor"), (0, u "(I)[B"), (0, .methodref 12 112), (0, .nameAndType 113 114), (0, u "putChar"), (0, u "([BII)V"), (0, .methodref 12 116), (0, .nameAndType 117 118), (0, u "compress"), (0, u "([CI[BII)I"), (0, .methodref 12 120), (0, .nameAndType 121 122), (0, u "toBytes"), (0, u "([CII)[B"), (138, u "coderFromArrayLen"), (0, u "([BI)B"), (106, .class_ 371), (1, u "java/lang/StringUTF16$LinesSpliterator"), (20, u "charAt"), (21, .methodref 3 415), (0, .nameAndType 69 416), (0, u "(II)V"), (13, u "MAX_LENGTH"), (196, .class_ 628), (0, u "java/lang/StringUTF16$CodePointsSpliterator"), (0, .class_ 630), (0, u "java/lang/StringUTF16$CharsSpliterator")] 4

def k9m0 : Method := { name := "<init>", desc := "()V", sig := { parameters := [], returnType := none }, accessFlags := 0, code := none }
def k9c1 : Code := { maxStack := 1, maxLocals := 1, code := jdk_52_method_2_code, exceptionTable := #[], attributes := #[] }
def k9m1 : Method := { name := "newBytesFor", desc := "(I)[B", sig := { parameters := [.int], returnType := some (.array .byte) }, accessFlags := 9, code := some k9c1 }
def k9c2 : Code := { maxStack := 4, maxLocals := 1, code := jdk_52_method_3_code, exceptionTable := #[], attributes := #[] }
def k9m2 : Method := { name := "newBytesLength", desc := "(I)I", sig := { parameters := [.int], returnType := some .int }, accessFlags := 9, code := some k9c2 }
def k9c3 : Code := { maxStack := 4, maxLocals := 3, code := jdk_52_method_4_code, exceptionTable := #[], attributes := #[] }
def k9m3 : Method := { name := "putChar", desc := "([BII)V", sig := { parameters := [(.array .byte), .int, .int], returnType := none }, accessFlags := 8, code := some k9c3 }
def k9c4 : Code := { maxStack := 3, maxLocals := 2, code := jdk_52_method_5_code, exceptionTable := #[], attributes := #[] }
def k9m4 : Method := { name := "getChar", desc := "([BI)C", sig := { parameters := [(.array .byte), .int], returnType := some .char }, accessFlags := 8, code := some k9c4 }
def k9c5 : Code := { maxStack := 2, maxLocals := 1, code := jdk_52_method_6_code, exceptionTable := #[], attributes := #[] }
def k9m5 : Method := { name := "length", desc := "([B)I", sig := { parameters := [(.array .byte)], returnType := some .int }, accessFlags := 9, code := some k9c5 }
def k9c6 : Code := { maxStack := 4, maxLocals := 5, code := jdk_52_method_14_code, exceptionTable := #[], attributes := #[] }
def k9m6 : Method := { name := "toBytes", desc := "([CII)[B", sig := { parameters := [(.array .char), .int, .int], returnType := some (.array .byte) }, accessFlags := 9, code := some k9c6 }
def k9c7 : Code := { maxStack := 2, maxLocals := 2, code := jdk_52_method_15_code, exceptionTable := #[], attributes := #[] }
def k9m7 : Method := { name := "coderFromArrayLen", desc := "([BI)B", sig := { parameters := [(.array .byte), .int], returnType := some .byte }, accessFlags := 8, code := some k9c7 }
def k9c8 : Code := { maxStack := 5, maxLocals := 6, code := jdk_52_method_16_code, exceptionTable := #[], attributes := #[] }
def k9m8 : Method := { name := "compress", desc := "([CII)[B", sig := { parameters := [(.array .char), .int, .int], returnType := some (.array .byte) }, accessFlags := 9, code := some k9c8 }
def k9c9 : Code := { maxStack := 3, maxLocals := 7, code := jdk_52_method_21_code, exceptionTable := #[], attributes := #[] }
def k9m9 : Method := { name := "compress", desc := "([CI[BII)I", sig := { parameters := [(.array .char), .int, (.array .byte), .int, .int], returnType := some .int }, accessFlags := 9, code := some k9c9 }
def k9c10 : Code := { maxStack := 2, maxLocals := 2, code := jdk_52_method_83_code, exceptionTable := #[], attributes := #[] }
def k9m10 : Method := { name := "charAt", desc := "([BI)C", sig := { parameters := [(.array .byte), .int], returnType := some .char }, accessFlags := 9, code := some k9c10 }
def k9c11 : Code := { maxStack := 2, maxLocals := 2, code := jdk_52_method_91_code, exceptionTable := #[], attributes := #[] }
def k9m11 : Method := { name := "checkIndex", desc := "(I[B)V", sig := { parameters := [.int, (.array .byte)], returnType := none }, accessFlags := 9, code := some k9c11 }
/-- java/lang/StringUTF16 -/
def k9 : Class := { plain "java/lang/StringUTF16" (some 0) with
  accessFlags := 48
  interfaces := #[]
  cf := some (fileOf pool9 12 #[.nestMembers #[627, 629, 369]] #[{ accessFlags := 0, nameIndex := 9, descriptorIndex := 10, attributes := #[] }, { accessFlags := 9, nameIndex := 109, descriptorIndex := 110, attributes := #[] }, { accessFlags := 9, nameIndex := 15, descriptorIndex := 16, attributes := #[] }, { accessFlags := 8, nameIndex := 113, descriptorIndex := 114, attributes := #[] }, { accessFlags := 8, nameIndex := 73, descriptorIndex := 74, attributes := #[] }, { accessFlags := 9, nameIndex := 50, descriptorIndex := 51, attributes := #[] }, { accessFlags := 9, nameIndex := 121, descriptorIndex := 122, attributes := #[] }, { accessFlags := 8, nameIndex := 261, descriptorIndex := 262, attributes := #[] }, { accessFlags := 9, nameIndex := 117, descriptorIndex := 122, attributes := #[] }, { accessFlags := 9, nameIndex := 117, descriptorIndex := 118, attributes := #[] }, { accessFlags := 9, nameIndex := 392, descriptorIndex := 74, attributes := #[] }, { accessFlags := 9, nameIndex := 69, descriptorIndex := 70, attributes := #[] }] 48 6 #[] #[{ accessFlags := 26, nameIndex := 61, descriptorIndex := 62, attributes := #[] }, { accessFlags := 26, nameIndex := 65, descriptorIndex := 62, attributes := #[] }, { accessFlags := 24, nameIndex := 430, descriptorIndex := 62, attributes := #[] }, { accessFlags := 4120, nameIndex := 46, descriptorIndex := 47, attributes := #[] }])
  fields := #[{ name := "HI_BYTE_SHIFT", type := .int, accessFlags := 26, slot := 0, constantValue := 0 }, { name := "LO_BYTE_SHIFT", type := .int, accessFlags := 26, slot := 1, constantValue := 0 }, { name := "MAX_LENGTH", type := .int, accessFlags := 24, slot := 2, constantValue := 0 }, { name := "$assertionsDisabled", type := .boolean, accessFlags := 4120, slot := 3, constantValue := 0 }]
  methods := #[k9m0, k9m1, k9m2, k9m3, k9m4, k9m5, k9m6, k9m7, k9m8, k9m9, k9m10, k9m11]
  instanceTypes := #[]
  staticTypes := #[.int, .int, .int, .boolean]
  resolved := Array.replicate 635 none
  statics := some 1 }

def pool10 : Array CpInfo := pool [(1, .class_ 2), (0, u "java/lang/String"), (1, .class_ 6), (1, u "java/lang/Object"), (0, u "<init>"), (0, u "()V"), (0, .methodref 1 10), (0, .nameAndType 11 12), (0, u "checkIndex"), (0, u "(II)V"), (1, .class_ 16), (1, u "java/lang/StringLatin1"), (36, u "([BI)C"), (67, u "$assertionsDisabled"), (0, u "Z"), (98, .class_ 223), (1, u "java/lang/StringLatin1$LinesSpliterator"), (28, u "charAt"), (137, .class_ 391), (0, u "java/lang/StringLatin1$CharsSpliterator")] 3

def k10m0 : Method := { name := "<init>", desc := "()V", sig := { parameters := [], returnType := none }, accessFlags := 0, code := none }
def k10c1 : Code := { maxStack := 2, maxLocals := 2, code := jdk_43_method_2_code, exceptionTable := #[], attributes := #[] }
def k10m1 : Method := { name := "charAt", desc := "([BI)C", sig := { parameters := [(.array .byte), .int], returnType := some .char }, accessFlags := 9, code := some k10c1 }
/-- java/lang/StringLatin1 -/
def k10 : Class := { plain "java/lang/StringLatin1" (some 0) with
  accessFlags := 48
  interfaces := #[]
  cf := some (fileOf pool10 14 #[.nestMembers #[390, 221]] #[{ accessFlags := 0, nameIndex := 7, descriptorIndex := 8, attributes := #[] }, { accessFlags := 9, nameIndex := 252, descriptorIndex := 53, attributes := #[] }] 48 4 #[] #[{ accessFlags := 4120, nameIndex := 121, descriptorIndex := 122, attributes := #[] }])
  fields := #[{ name := "$assertionsDisabled", type := .boolean, accessFlags := 4120, slot := 0, constantValue := 0 }]
  methods := #[k10m0, k10m1]
  instanceTypes := #[]
  staticTypes := #[.boolean]
  resolved := Array.replicate 395 none
  statics := none }

def pool11 : Array CpInfo := pool [(2, .class_ 4), (1, u "java/lang/Object"), (0, u "<init>"), (0, u "()V"), (17, .class_ 26), (1, u "jdk/internal/util/Preconditions"), (6, u "checkIndex"), (21, .class_ 56), (0, u "jdk/internal/util/Preconditions$4"), (57, .class_ 115), (0, u "jdk/internal/util/Preconditions$1"), (7, u "SIOOBE_FORMATTER"), (0, u "Ljava/util/function/BiFunction;"), (0, .class_ 126), (0, u "jdk/internal/util/Preconditions$2"), (3, u "AIOOBE_FORMATTER"), (0, .class_ 132), (0, u "jdk/internal/util/Preconditions$3"), (3, u "IOOBE_FORMATTER"), (41, u "(IILjava/util/function/BiFunction;)I")] 15

def k11m0 : Method := { name := "<init>", desc := "()V", sig := { parameters := [], returnType := none }, accessFlags := 1, code := none }
def k11c1 : Code := { maxStack := 3, maxLocals := 3, code := jdk_41_method_11_code, exceptionTable := #[], attributes := #[] }
def k11m1 : Method := { name := "checkIndex", desc := "(IILjava/util/function/BiFunction;)I", sig := { parameters := [.int, .int, (.object "java/util/function/BiFunction")], returnType := some .int }, accessFlags := 9, code := some k11c1 }
/-- jdk/internal/util/Preconditions -/
def k11 : Class := { plain "jdk/internal/util/Preconditions" (some 0) with
  accessFlags := 33
  interfaces := #[]
  cf := some (fileOf pool11 24 #[.nestMembers #[55, 131, 125, 114]] #[{ accessFlags := 1, nameIndex := 5, descriptorIndex := 6, attributes := #[] }, { accessFlags := 9, nameIndex := 33, descriptorIndex := 178, attributes := #[] }] 33 2 #[] #[{ accessFlags := 25, nameIndex := 123, descriptorIndex := 124, attributes := #[] }, { accessFlags := 25, nameIndex := 130, descriptorIndex := 124, attributes := #[] }, { accessFlags := 25, nameIndex := 136, descriptorIndex := 124, attributes := #[] }])
  fields := #[{ name := "SIOOBE_FORMATTER", type := (.object "java/util/function/BiFunction"), accessFlags := 25, slot := 0, constantValue := 0 }, { name := "AIOOBE_FORMATTER", type := (.object "java/util/function/BiFunction"), accessFlags := 25, slot := 1, constantValue := 0 }, { name := "IOOBE_FORMATTER", type := (.object "java/util/function/BiFunction"), accessFlags := 25, slot := 2, constantValue := 0 }]
  methods := #[k11m0, k11m1]
  instanceTypes := #[]
  staticTypes := #[(.object "java/util/function/BiFunction"), (.object "java/util/function/BiFunction"), (.object "java/util/function/BiFunction")]
  resolved := Array.replicate 194 none
  statics := some 2 }

def pool12 : Array CpInfo := pool [(1, .class_ 2), (0, u "java/lang/Character"), (18, u "value"), (0, u "C"), (19, .class_ 44), (1, u "java/lang/Object"), (3, .class_ 50), (1, u "java/lang/Character$CharacterCache"), (24, .integer 55296), (0, .integer 56320), (0, .integer 57344), (2, u "isHighSurrogate"), (0, u "(C)Z"), (2, u "isLowSurrogate"), (199, u "$assertionsDisabled"), (0, u "Z"), (21, .class_ 309), (1, u "java/lang/Character$UnicodeBlock"), (73, u "TYPE"), (0, u "Ljava/lang/Class;"), (0, .class_ 386), (0, u "java/io/Serializable"), (0, .class_ 388), (0, u "java/lang/Comparable"), (0, .class_ 390), (0, u "java/lang/constant/Constable"), (0, u "MIN_RADIX"), (0, u "I"), (2, u "MAX_RADIX"), (1, u "MIN_VALUE"), (1, u "MAX_VALUE"), (3, u "UNASSIGNED"), (0, u "B"), (0, u "UPPERCASE_LETTER"), (1, u "LOWERCASE_LETTER"), (0, u "TITLECASE_LETTER"), (1, u "MODIFIER_LETTER"), (1, u "OTHER_LETTER"), (1, u "NON_SPACING_MARK"), (1, u "ENCLOSING_MARK"), (1, u "COMBINING_SPACING_MARK"), (1, u "DECIMAL_DIGIT_NUMBER"), (1, u "LETTER_NUMBER"), (1, u "OTHER_NUMBER"), (1, u "SPACE_SEPARATOR"), (1, u "LINE_SEPARATOR"), (1, u "PARAGRAPH_SEPARATOR"), (1, u "CONTROL"), (1, u "FORMAT"), (1, u "PRIVATE_USE"), (1, u "SURROGATE"), (1, u "DASH_PUNCTUATION"), (1, u "START_PUNCTUATION"), (1, u "END_PUNCTUATION"), (1, u "CONNECTOR_PUNCTUATION"), (1, u "OTHER_PUNCTUATION"), (1, u "MATH_SYMBOL"), (1, u "CURRENCY_SYMBOL"), (1, u "MODIFIER_SYMBOL"), (1, u "OTHER_SYMBOL"), (1, u "INITIAL_QUOTE_PUNCTUATION"), (1, u "FINAL_QUOTE_PUNCTUATION"), (1, u "ERROR"), (1, u "DIRECTIONALITY_UNDEFINED"), (0, u "DIRECTIONALITY_LEFT_TO_RIGHT"), (0, u "DIRECTIONALITY_RIGHT_TO_LEFT"), (0, u "DIRECTIONALITY_RIGHT_TO_LEFT_ARABIC"), (0, u "DIRECTIONALITY_EUROPEAN_NUMBER"), (0, u "DIRECTIONALITY_EUROPEAN_NUMBER_SEPARATOR"), (0, u "DIRECTIONALITY_EUROPEAN_NUMBER_TERMINATOR"), (0, u "DIRECTIONALITY_ARABIC_NUMBER"), (0, u "DIRECTIONALITY_COMMON_NUMBER_SEPARATOR"), (0, u "DIRECTIONALITY_NONSPACING_MARK"), (0, u "DIRECTIONALITY_BOUNDARY_NEUTRAL"), (0, u "DIRECTIONALITY_PARAGRAPH_SEPARATOR"), (0, u "DIRECTIONALITY_SEGMENT_SEPARATOR"), (0, u "DIRECTIONALITY_WHITESPACE"), (0, u "DIRECTIONALITY_OTHER_NEUTRALS"), (0, u "DIRECTIONALITY_LEFT_TO_RIGHT_EMBEDDING"), (0, u "DIRECTIONALITY_LEFT_TO_RIGHT_OVERRIDE"), (0, u "DIRECTIONALITY_RIGHT_TO_LEFT_EMBEDDING"), (0, u "DIRECTIONALITY_RIGHT_TO_LEFT_OVERRIDE"), (1, u "DIRECTIONALITY_POP_DIRECTIONAL_FORMAT"), (0, u "DIRECTIONALITY_LEFT_TO_RIGHT_ISOLATE"), (0, u "DIRECTIONALITY_RIGHT_TO_LEFT_ISOLATE"), (0, u "DIRECTIONALITY_FIRST_STRONG_ISOLATE"), (0, u "DIRECTIONALITY_POP_DIRECTIONAL_ISOLATE"), (0, u "MIN_HIGH_SURROGATE"), (0, u "MAX_HIGH_SURROGATE"), (1, u "MIN_LOW_SURROGATE"), (0, u "MAX_LOW_SURROGATE"), (1, u "MIN_SURROGATE"), (0, u "MAX_SURROGATE"), (0, u "MIN_SUPPLEMENTARY_CODE_POINT"), (0, u "MIN_CODE_POINT"), (0, u "MAX_CODE_POINT"), (1, u "serialVersionUID"), (0, u "J"), (2, u "SIZE"), (0, u "BYTES"), (24, u "isSurrogate"), (63, .class_ 596), (0, u "java/lang/Character$UnicodeScript"), (0, .class_ 598), (0, u "java/lang/Character$Subset")] 5

def k12c0 : Code := { maxStack := 2, maxLocals := 1, code := jdk_89_method_14_code, exceptionTable := #[], attributes := #[] }
def k12m0 : Method := { name := "isHighSurrogate", desc := "(C)Z", sig := { parameters := [.char], returnType := some .boolean }, accessFlags := 9, code := some k12c0 }
def k12c1 : Code := { maxStack := 2, maxLocals := 1, code := jdk_89_method_15_code, exceptionTable := #[], attributes := #[] }
def k12m1 : Method := { name := "isLowSurrogate", desc := "(C)Z", sig := { parameters := [.char], returnType := some .boolean }, accessFlags := 9, code := some k12c1 }
def k12c2 : Code := { maxStack := 2, maxLocals := 1, code := jdk_89_method_16_code, exceptionTable := #[], attributes := #[] }
def k12m2 : Method := { name := "isSurrogate", desc := "(C)Z", sig := { parameters := [.char], returnType := some .boolean }, accessFlags := 9, code := some k12c2 }
/-- java/lang/Character -/
def k12 : Class := { plain "java/lang/Character" (some 0) with
  accessFlags := 49
  interfaces := #[2, 3, 5]
  cf := some (fileOf pool12 1 #[.nestMembers #[48, 595, 307, 597]] #[{ accessFlags := 9, nameIndex := 80, descriptorIndex := 81, attributes := #[] }, { accessFlags := 9, nameIndex := 84, descriptorIndex := 81, attributes := #[] }, { accessFlags := 9, nameIndex := 531, descriptorIndex := 81, attributes := #[] }] 49 42 #[385, 387, 389] #[{ accessFlags := 25, nameIndex := 391, descriptorIndex := 392, attributes := #[] }, { accessFlags := 25, nameIndex := 395, descriptorIndex := 392, attributes := #[] }, { accessFlags := 25, nameIndex := 397, descriptorIndex := 22, attributes := #[] }, { accessFlags := 25, nameIndex := 399, descriptorIndex := 22, attributes := #[] }, { accessFlags := 25, nameIndex := 383, descriptorIndex := 384, attributes := #[] }, { accessFlags := 25, nameIndex := 403, descriptorIndex := 404, attributes := #[] }, { accessFlags := 25, nameIndex := 405, descriptorIndex := 404, attributes := #[] }, { accessFlags := 25, nameIndex := 407, descriptorIndex := 404, attributes := #[] }, { accessFlags := 25, nameIndex := 408, descriptorIndex := 404, attributes := #[] }, { accessFlags := 25, nameIndex := 410, descriptorIndex := 404, attributes := #[] }, { accessFlags := 25, nameIndex := 412, descriptorIndex := 404, attributes := #[] }, { accessFlags := 25, nameIndex := 414, descriptorIndex := 404, attributes := #[] }, { accessFlags := 25, nameIndex := 416, descriptorIndex := 404, attributes := #[] }, { accessFlags := 25, nameIndex := 418, descriptorIndex := 404, attributes := #[] }, { accessFlags := 25, nameIndex := 420, descriptorIndex := 404, attributes := #[] }, { accessFlags := 25, nameIndex := 422, descriptorIndex := 404, attributes := #[] }, { accessFlags := 25, nameIndex := 424, descriptorIndex := 404, attributes := #[] }, { accessFlags := 25, nameIndex := 426, descriptorIndex := 404, attributes := #[] }, { accessFlags := 25, nameIndex := 428, descriptorIndex := 404, attributes := #[] }, { accessFlags := 25, nameIndex := 430, descriptorIndex := 404, attributes := #[] }, { accessFlags := 25, nameIndex := 432, descriptorIndex := 404, attributes := #[] }, { accessFlags := 25, nameIndex := 434, descriptorIndex := 404, attributes := #[] }, { accessFlags := 25, nameIndex := 436, descriptorIndex := 404, attributes := #[] }, { accessFlags := 25, nameIndex := 438, descriptorIndex := 404, attributes := #[] }, { accessFlags := 25, nameIndex := 440, descriptorIndex := 404, attributes := #[] }, { accessFlags := 25, nameIndex := 442, descriptorIndex := 404, attributes := #[] }, { accessFlags := 25, nameIndex := 444, descriptorIndex := 404, attributes := #[] }, { accessFlags := 25, nameIndex := 446, descriptorIndex := 404, attributes := #[] }, { accessFlags := 25, nameIndex := 448, descriptorIndex := 404, attributes := #[] }, { accessFlags := 25, nameIndex := 450, descriptorIndex := 404, attributes := #[] }, { accessFlags := 25, nameIndex := 452, descriptorIndex := 404, attributes := #[] }, { accessFlags := 25, nameIndex := 454, descriptorIndex := 404, attributes := #[] }, { accessFlags := 25, nameIndex := 456, descriptorIndex := 404, attributes := #[] }, { accessFlags := 25, nameIndex := 458, descriptorIndex := 404, attributes := #[] }, { accessFlags := 25, nameIndex := 460, descriptorIndex := 404, attributes := #[] }, { accessFlags := 24, nameIndex := 462, descriptorIndex := 392, attributes := #[] }, { accessFlags := 25, nameIndex := 464, descriptorIndex := 404, attributes := #[] }, { accessFlags := 25, nameIndex := 465, descriptorIndex := 404, attributes := #[] }, { accessFlags := 25, nameIndex := 466, descriptorIndex := 404, attributes := #[] }, { accessFlags := 25, nameIndex := 467, descriptorIndex := 404, attributes := #[] }, { accessFlags := 25, nameIndex := 468, descriptorIndex := 404, attributes := #[] }, { accessFlags := 25, nameIndex := 469, descriptorIndex := 404, attributes := #[] }, { accessFlags := 25, nameIndex := 470, descriptorIndex := 404, attributes := #[] }, { accessFlags := 25, nameIndex := 471, descriptorIndex := 404, attributes := #[] }, { accessFlags := 25, nameIndex := 472, descriptorIndex := 404, attributes := #[] }, { accessFlags := 25, nameIndex := 473, descriptorIndex := 404, attributes := #[] }, { accessFlags := 25, nameIndex := 474, descriptorIndex := 404, attributes := #[] }, { accessFlags := 25, nameIndex := 475, descriptorIndex := 404, attributes := #[] }, { accessFlags := 25, nameIndex := 476, descriptorIndex := 404, attributes := #[] }, { accessFlags := 25, nameIndex := 477, descriptorIndex := 404, attributes := #[] }, { accessFlags := 25, nameIndex := 478, descriptorIndex := 404, attributes := #[] }, { accessFlags := 25, nameIndex := 479, descriptorIndex := 404, attributes := #[] }, { accessFlags := 25, nameIndex := 480, descriptorIndex := 404, attributes := #[] }, { accessFlags := 25, nameIndex := 481, descriptorIndex := 404, attributes := #[] }, { accessFlags := 25, nameIndex := 482, descriptorIndex := 404, attributes := #[] }, { accessFlags := 25, nameIndex := 484, descriptorIndex := 404, attributes := #[] }, { accessFlags := 25, nameIndex := 485, descriptorIndex := 404, attributes := #[] }, { accessFlags := 25, nameIndex := 486, descriptorIndex := 404, attributes := #[] }, { accessFlags := 25, nameIndex := 487, descriptorIndex := 404, attributes := #[] }, { accessFlags := 25, nameIndex := 488, descriptorIndex := 404, attributes := #[] }, { accessFlags := 25, nameIndex := 489, descriptorIndex := 22, attributes := #[] }, { accessFlags := 25, nameIndex := 490, descriptorIndex := 22, attributes := #[] }, { accessFlags := 25, nameIndex := 492, descriptorIndex := 22, attributes := #[] }, { accessFlags := 25, nameIndex := 493, descriptorIndex := 22, attributes := #[] }, { accessFlags := 25, nameIndex := 495, descriptorIndex := 22, attributes := #[] }, { accessFlags := 25, nameIndex := 496, descriptorIndex := 22, attributes := #[] }, { accessFlags := 25, nameIndex := 497, descriptorIndex := 392, attributes := #[] }, { accessFlags := 25, nameIndex := 498, descriptorIndex := 392, attributes := #[] }, { accessFlags := 25, nameIndex := 499, descriptorIndex := 392, attributes := #[] }, { accessFlags := 18, nameIndex := 21, descriptorIndex := 22, attributes := #[] }, { accessFlags := 26, nameIndex := 501, descriptorIndex := 502, attributes := #[] }, { accessFlags := 25, nameIndex := 505, descriptorIndex := 392, attributes := #[] }, { accessFlags := 25, nameIndex := 506, descriptorIndex := 392, attributes := #[] }, { accessFlags := 4120, nameIndex := 284, descriptorIndex := 285, attributes := #[] }])
  fields := #[{ name := "MIN_RADIX", type := .int, accessFlags := 25, slot := 0, constantValue := 0 }, { name := "MAX_RADIX", type := .int, accessFlags := 25, slot := 1, constantValue := 0 }, { name := "MIN_VALUE", type := .char, accessFlags := 25, slot := 2, constantValue := 0 }, { name := "MAX_VALUE", type := .char, accessFlags := 25, slot := 3, constantValue := 0 }, { name := "TYPE", type := (.object "java/lang/Class"), accessFlags := 25, slot := 4, constantValue := 0 }, { name := "UNASSIGNED", type := .byte, accessFlags := 25, slot := 5, constantValue := 0 }, { name := "UPPERCASE_LETTER", type := .byte, accessFlags := 25, slot := 6, constantValue := 0 }, { name := "LOWERCASE_LETTER", type := .byte, accessFlags := 25, slot := 7, constantValue := 0 }, { name := "TITLECASE_LETTER", type := .byte, accessFlags := 25, slot := 8, constantValue := 0 }, { name := "MODIFIER_LETTER", type := .byte, accessFlags := 25, slot := 9, constantValue := 0 }, { name := "OTHER_LETTER", type := .byte, accessFlags := 25, slot := 10, constantValue := 0 }, { name := "NON_SPACING_MARK", type := .byte, accessFlags := 25, slot := 11, constantValue := 0 }, { name := "ENCLOSING_MARK", type := .byte, accessFlags := 25, slot := 12, constantValue := 0 }, { name := "COMBINING_SPACING_MARK", type := .byte, accessFlags := 25, slot := 13, constantValue := 0 }, { name := "DECIMAL_DIGIT_NUMBER", type := .byte, accessFlags := 25, slot := 14, constantValue := 0 }, { name := "LETTER_NUMBER", type := .byte, accessFlags := 25, slot := 15, constantValue := 0 }, { name := "OTHER_NUMBER", type := .byte, accessFlags := 25, slot := 16, constantValue := 0 }, { name := "SPACE_SEPARATOR", type := .byte, accessFlags := 25, slot := 17, constantValue := 0 }, { name := "LINE_SEPARATOR", type := .byte, accessFlags := 25, slot := 18, constantValue := 0 }, { name := "PARAGRAPH_SEPARATOR", type := .byte, accessFlags := 25, slot := 19, constantValue := 0 }, { name := "CONTROL", type := .byte, accessFlags := 25, slot := 20, constantValue := 0 }, { name := "FORMAT", type := .byte, accessFlags := 25, slot := 21, constantValue := 0 }, { name := "PRIVATE_USE", type := .byte, accessFlags := 25, slot := 22, constantValue := 0 }, { name := "SURROGATE", type := .byte, accessFlags := 25, slot := 23, constantValue := 0 }, { name := "DASH_PUNCTUATION", type := .byte, accessFlags := 25, slot := 24, constantValue := 0 }, { name := "START_PUNCTUATION", type := .byte, accessFlags := 25, slot := 25, constantValue := 0 }, { name := "END_PUNCTUATION", type := .byte, accessFlags := 25, slot := 26, constantValue := 0 }, { name := "CONNECTOR_PUNCTUATION", type := .byte, accessFlags := 25, slot := 27, constantValue := 0 }, { name := "OTHER_PUNCTUATION", type := .byte, accessFlags := 25, slot := 28, constantValue := 0 }, { name := "MATH_SYMBOL", type := .byte, accessFlags := 25, slot := 29, constantValue := 0 }, { name := "CURRENCY_SYMBOL", type := .byte, accessFlags := 25, slot := 30, constantValue := 0 }, { name := "MODIFIER_SYMBOL", type := .byte, accessFlags := 25, slot := 31, constantValue := 0 }, { name := "OTHER_SYMBOL", type := .byte, accessFlags := 25, slot := 32, constantValue := 0 }, { name := "INITIAL_QUOTE_PUNCTUATION", type := .byte, accessFlags := 25, slot := 33, constantValue := 0 }, { name := "FINAL_QUOTE_PUNCTUATION", type := .byte, accessFlags := 25, slot := 34, constantValue := 0 }, { name := "ERROR", type := .int, accessFlags := 24, slot := 35, constantValue := 0 }, { name := "DIRECTIONALITY_UNDEFINED", type := .byte, accessFlags := 25, slot := 36, constantValue := 0 }, { name := "DIRECTIONALITY_LEFT_TO_RIGHT", type := .byte, accessFlags := 25, slot := 37, constantValue := 0 }, { name := "DIRECTIONALITY_RIGHT_TO_LEFT", type := .byte, accessFlags := 25, slot := 38, constantValue := 0 }, { name := "DIRECTIONALITY_RIGHT_TO_LEFT_ARABIC", type := .byte, accessFlags := 25, slot := 39, constantValue := 0 }, { name := "DIRECTIONALITY_EUROPEAN_NUMBER", type := .byte, accessFlags := 25, slot := 40, constantValue := 0 }, { name := "DIRECTIONALITY_EUROPEAN_NUMBER_SEPARATOR", type := .byte, accessFlags := 25, slot := 41, constantValue := 0 }, { name := "DIRECTIONALITY_EUROPEAN_NUMBER_TERMINATOR", type := .byte, accessFlags := 25, slot := 42, constantValue := 0 }, { name := "DIRECTIONALITY_ARABIC_NUMBER", type := .byte, accessFlags := 25, slot := 43, constantValue := 0 }, { name := "DIRECTIONALITY_COMMON_NUMBER_SEPARATOR", type := .byte, accessFlags := 25, slot := 44, constantValue := 0 }, { name := "DIRECTIONALITY_NONSPACING_MARK", type := .byte, accessFlags := 25, slot := 45, constantValue := 0 }, { name := "DIRECTIONALITY_BOUNDARY_NEUTRAL", type := .byte, accessFlags := 25, slot := 46, constantValue := 0 }, { name := "DIRECTIONALITY_PARAGRAPH_SEPARATOR", type := .byte, accessFlags := 25, slot := 47, constantValue := 0 }, { name := "DIRECTIONALITY_SEGMENT_SEPARATOR", type := .byte, accessFlags := 25, slot := 48, constantValue := 0 }, { name := "DIRECTIONALITY_WHITESPACE", type := .byte, accessFlags := 25, slot := 49, constantValue := 0 }, { name := "DIRECTIONALITY_OTHER_NEUTRALS", type := .byte, accessFlags := 25, slot := 50, constantValue := 0 }, { name := "DIRECTIONALITY_LEFT_TO_RIGHT_EMBEDDING", type := .byte, accessFlags := 25, slot := 51, constantValue := 0 }, { name := "DIRECTIONALITY_LEFT_TO_RIGHT_OVERRIDE", type := .byte, accessFlags := 25, slot := 52, constantValue := 0 }, { name := "DIRECTIONALITY_RIGHT_TO_LEFT_EMBEDDING", type := .byte, accessFlags := 25, slot := 53, constantValue := 0 }, { name := "DIRECTIONALITY_RIGHT_TO_LEFT_OVERRIDE", type := .byte, accessFlags := 25, slot := 54, constantValue := 0 }, { name := "DIRECTIONALITY_POP_DIRECTIONAL_FORMAT", type := .byte, accessFlags := 25, slot := 55, constantValue := 0 }, { name := "DIRECTIONALITY_LEFT_TO_RIGHT_ISOLATE", type := .byte, accessFlags := 25, slot := 56, constantValue := 0 }, { name := "DIRECTIONALITY_RIGHT_TO_LEFT_ISOLATE", type := .byte, accessFlags := 25, slot := 57, constantValue := 0 }, { name := "DIRECTIONALITY_FIRST_STRONG_ISOLATE", type := .byte, accessFlags := 25, slot := 58, constantValue := 0 }, { name := "DIRECTIONALITY_POP_DIRECTIONAL_ISOLATE", type := .byte, accessFlags := 25, slot := 59, constantValue := 0 }, { name := "MIN_HIGH_SURROGATE", type := .char, accessFlags := 25, slot := 60, constantValue := 0 }, { name := "MAX_HIGH_SURROGATE", type := .char, accessFlags := 25, slot := 61, constantValue := 0 }, { name := "MIN_LOW_SURROGATE", type := .char, accessFlags := 25, slot := 62, constantValue := 0 }, { name := "MAX_LOW_SURROGATE", type := .char, accessFlags := 25, slot := 63, constantValue := 0 }, { name := "MIN_SURROGATE", type := .char, accessFlags := 25, slot := 64, constantValue := 0 }, { name := "MAX_SURROGATE", type := .char, accessFlags := 25, slot := 65, constantValue := 0 }, { name := "MIN_SUPPLEMENTARY_CODE_POINT", type := .int, accessFlags := 25, slot := 66, constantValue := 0 }, { name := "MIN_CODE_POINT", type := .int, accessFlags := 25, slot := 67, constantValue := 0 }, { name := "MAX_CODE_POINT", type := .int, accessFlags := 25, slot := 68, constantValue := 0 }, { name := "value", type := .char, accessFlags := 18, slot := 0, constantValue := 0 }, { name := "serialVersionUID", type := .long, accessFlags := 26, slot := 69, constantValue := 0 }, { name := "SIZE", type := .int, accessFlags := 25, slot := 70, constantValue := 0 }, { name := "BYTES", type := .int, accessFlags := 25, slot := 71, constantValue := 0 }, { name := "$assertionsDisabled", type := .boolean, accessFlags := 4120, slot := 72, constantValue := 0 }]
  methods := #[k12m0, k12m1, k12m2]
  instanceTypes := #[.char]
  staticTypes := #[.int, .int, .char, .char, (.object "java/lang/Class"), .byte, .byte, .byte, .byte, .byte, .byte, .byte, .byte, .byte, .byte, .byte, .byte, .byte, .byte, .byte, .byte, .byte, .byte, .byte, .byte, .byte, .byte, .byte, .byte, .byte, .byte, .byte, .byte, .byte, .byte, .int, .byte, .byte, .byte, .byte, .byte, .byte, .byte, .byte, .byte, .byte, .byte, .byte, .byte, .byte, .byte, .byte, .byte, .byte, .byte, .byte, .byte, .byte, .byte, .byte, .char, .char, .char, .char, .char, .char, .int, .int, .int, .long, .int, .int, .boolean]
  resolved := Array.replicate 604 none
  statics := none }

def pool13 : Array CpInfo := pool [(9, u "<init>"), (6, .class_ 18), (1, u "java/lang/Object"), (0, u "()V"), (1, .class_ 23), (1, u "jdk/internal/util/ArraysSupport"), (0, u "LOG2_ARRAY_LONG_INDEX_SCALE"), (0, u "I"), (2, u "U"), (0, u "Ljdk/internal/misc/Unsafe;"), (8, u "BIG_ENDIAN"), (0, u "Z"), (8, u "LOG2_BYTE_BIT_SIZE"), (4, u "LOG2_ARRAY_INT_INDEX_SCALE"), (54, u "JLA"), (0, u "Ljdk/internal/access/JavaLangAccess;"), (11, u "LOG2_ARRAY_BOOLEAN_INDEX_SCALE"), (9, u "LOG2_ARRAY_BYTE_INDEX_SCALE"), (5, u "LOG2_ARRAY_CHAR_INDEX_SCALE"), (5, u "LOG2_ARRAY_SHORT_INDEX_SCALE"), (18, u "LOG2_ARRAY_FLOAT_INDEX_SCALE"), (24, u "LOG2_ARRAY_DOUBLE_INDEX_SCALE"), (89, u "T_BOOLEAN"), (2, u "T_CHAR"), (1, u "T_FLOAT"), (1, u "T_DOUBLE"), (1, u "T_BYTE"), (1, u "T_SHORT"), (1, u "T_INT"), (1, u "T_LONG"), (1, u "SOFT_MAX_ARRAY_LENGTH")] 83

def k13m0 : Method := { name := "<init>", desc := "()V", sig := { parameters := [], returnType := none }, accessFlags := 2, code := none }
/-- jdk/internal/util/ArraysSupport -/
def k13 : Class := { plain "jdk/internal/util/ArraysSupport" (some 0) with
  accessFlags := 33
  interfaces := #[]
  cf := some (fileOf pool13 21 #[] #[{ accessFlags := 2, nameIndex := 9, descriptorIndex := 19, attributes := #[] }] 33 16 #[] #[{ accessFlags := 24, nameIndex := 28, descriptorIndex := 29, attributes := #[] }, { accessFlags := 26, nameIndex := 38, descriptorIndex := 39, attributes := #[] }, { accessFlags := 25, nameIndex := 121, descriptorIndex := 25, attributes := #[] }, { accessFlags := 25, nameIndex := 131, descriptorIndex := 25, attributes := #[] }, { accessFlags := 25, nameIndex := 137, descriptorIndex := 25, attributes := #[] }, { accessFlags := 25, nameIndex := 143, descriptorIndex := 25, attributes := #[] }, { accessFlags := 25, nameIndex := 53, descriptorIndex := 25, attributes := #[] }, { accessFlags := 25, nameIndex := 24, descriptorIndex := 25, attributes := #[] }, { accessFlags := 25, nameIndex := 162, descriptorIndex := 25, attributes := #[] }, { accessFlags := 25, nameIndex := 187, descriptorIndex := 25, attributes := #[] }, { accessFlags := 26, nameIndex := 48, descriptorIndex := 25, attributes := #[] }, { accessFlags := 25, nameIndex := 277, descriptorIndex := 25, attributes := #[] }, { accessFlags := 25, nameIndex := 280, descriptorIndex := 25, attributes := #[] }, { accessFlags := 25, nameIndex := 282, descriptorIndex := 25, attributes := #[] }, { accessFlags := 25, nameIndex := 284, descriptorIndex := 25, attributes := #[] }, { accessFlags := 25, nameIndex := 286, descriptorIndex := 25, attributes := #[] }, { accessFlags := 25, nameIndex := 288, descriptorIndex := 25, attributes := #[] }, { accessFlags := 25, nameIndex := 290, descriptorIndex := 25, attributes := #[] }, { accessFlags := 25, nameIndex := 292, descriptorIndex := 25, attributes := #[] }, { accessFlags := 26, nameIndex := 108, descriptorIndex := 109, attributes := #[] }, { accessFlags := 25, nameIndex := 294, descriptorIndex := 25, attributes := #[] }])
  fields := #[{ name := "U", type := (.object "jdk/internal/misc/Unsafe"), accessFlags := 24, slot := 0, constantValue := 0 }, { name := "BIG_ENDIAN", type := .boolean, accessFlags := 26, slot := 1, constantValue := 0 }, { name := "LOG2_ARRAY_BOOLEAN_INDEX_SCALE", type := .int, accessFlags := 25, slot := 2, constantValue := 0 }, { name := "LOG2_ARRAY_BYTE_INDEX_SCALE", type := .int, accessFlags := 25, slot := 3, constantValue := 0 }, { name := "LOG2_ARRAY_CHAR_INDEX_SCALE", type := .int, accessFlags := 25, slot := 4, constantValue := 0 }, { name := "LOG2_ARRAY_SHORT_INDEX_SCALE", type := .int, accessFlags := 25, slot := 5, constantValue := 0 }, { name := "LOG2_ARRAY_INT_INDEX_SCALE", type := .int, accessFlags := 25, slot := 6, constantValue := 0 }, { name := "LOG2_ARRAY_LONG_INDEX_SCALE", type := .int, accessFlags := 25, slot := 7, constantValue := 0 }, { name := "LOG2_ARRAY_FLOAT_INDEX_SCALE", type := .int, accessFlags := 25, slot := 8, constantValue := 0 }, { name := "LOG2_ARRAY_DOUBLE_INDEX_SCALE", type := .int, accessFlags := 25, slot := 9, constantValue := 0 }, { name := "LOG2_BYTE_BIT_SIZE", type := .int, accessFlags := 26, slot := 10, constantValue := 0 }, { name := "T_BOOLEAN", type := .int, accessFlags := 25, slot := 11, constantValue := 0 }, { name := "T_CHAR", type := .int, accessFlags := 25, slot := 12, constantValue := 0 }, { name := "T_FLOAT", type := .int, accessFlags := 25, slot := 13, constantValue := 0 }, { name := "T_DOUBLE", type := .int, accessFlags := 25, slot := 14, constantValue := 0 }, { name := "T_BYTE", type := .int, accessFlags := 25, slot := 15, constantValue := 0 }, { name := "T_SHORT", type := .int, accessFlags := 25, slot := 16, constantValue := 0 }, { name := "T_INT", type := .int, accessFlags := 25, slot := 17, constantValue := 0 }, { name := "T_LONG", type := .int, accessFlags := 25, slot := 18, constantValue := 0 }, { name := "JLA", type := (.object "jdk/internal/access/JavaLangAccess"), accessFlags := 26, slot := 19, constantValue := 0 }, { name := "SOFT_MAX_ARRAY_LENGTH", type := .int, accessFlags := 25, slot := 20, constantValue := 0 }]
  methods := #[k13m0]
  instanceTypes := #[]
  staticTypes := #[(.object "jdk/internal/misc/Unsafe"), .boolean, .int, .int, .int, .int, .int, .int, .int, .int, .int, .int, .int, .int, .int, .int, .int, .int, .int, (.object "jdk/internal/access/JavaLangAccess"), .int]
  resolved := Array.replicate 378 none
  statics := none }

def pool14 : Array CpInfo := pool [(1, u "java/lang/Cloneable"), (0, .class_ 1), (0, u "java/lang/Object"), (0, .class_ 3)] 3

/-- java/lang/Cloneable -/
def k14 : Class := { plain "java/lang/Cloneable" (some 0) with
  accessFlags := 1537
  interfaces := #[]
  cf := some (fileOf pool14 2 #[] #[] 1537 4 #[] #[])
  fields := #[]
  methods := #[]
  instanceTypes := #[]
  staticTypes := #[]
  resolved := Array.replicate 8 none
  statics := none }

/-- the primitive byte -/
def k15 : Class := { plain "byte" none with kind := .primitive 'B', accessFlags := 0x411 }
/-- [B -/
def k16 : Class := { plain "[B" (some 0) with kind := .array 15 .byte, interfaces := #[14, 2], accessFlags := 1041 }

/-- the primitive char -/
def k17 : Class := { plain "char" none with kind := .primitive 'C', accessFlags := 0x411 }
/-- [C -/
def k18 : Class := { plain "[C" (some 0) with kind := .array 17 .char, interfaces := #[14, 2], accessFlags := 1041 }

/-- the primitive int -/
def k19 : Class := { plain "int" none with kind := .primitive 'I', accessFlags := 0x411 }
/-- [I -/
def k20 : Class := { plain "[I" (some 0) with kind := .array 19 .int, interfaces := #[14, 2], accessFlags := 1041 }

def heap : Heap := #[{ cls := 7, slots := #[.long 0, .int 1, .null, .int 0, .null, .int 0, .int 0], vm := .statics 7 },
  { cls := 9, slots := #[.int 0, .int 8, .int 0, .int 1], vm := .statics 9 },
  { cls := 11, slots := #[.null, .null, .null], vm := .statics 11 }]
def classes : Array Class := #[k0, k1, k2, k3, k4, k5, k6, k7, k8, k9, k10, k11, k12, k13, k14, k15, k16, k17, k18, k19, k20]
def interned : List (Array UInt16 × Addr) := []
def slotsUsed : Nat := 14
def theMethod : MethodId := ⟨1, 5⟩
def args0 : Array Value := #[.int 5, .int 6, .int 7, .int 8, .int 9]
def aboutOver (below : List Frame) : State where
  vm := { classes := classes, interned := interned.toArray }
  heap := heap
  slotsUsed := slotsUsed
  threads := #[{ frames := .invoking theMethod args0 :: below }]
def below0 : List Frame := [.native { method := ⟨0, 0⟩, args := #[] }]
def about1 : State := aboutOver below0
def p0 : Program := .bare "" "" ""
def e0 : Env := launch0.env 0 0 0
theorem w_frames : about1.frames = Frame.invoking theMethod args0 :: below0 := rfl
set_option maxRecDepth 65536 in
theorem w_args : argsFit about1.vm theMethod args0 = true := by decide +kernel
set_option maxRecDepth 65536 in
theorem w_heap : heapFits about1 = true := by decide +kernel
set_option maxRecDepth 65536 in
theorem w_runnable : about1.curStatus? = some .runnable := by decide +kernel
set_option maxRecDepth 65536 in
theorem w_alone : about1.alone = true := by decide +kernel
set_option maxRecDepth 65536 in
theorem w_named : about1.methodNamed? x = some theMethod := by decide +kernel
set_option maxRecDepth 65536 in
theorem w_hears : about1.hears theMethod below0 = true := by decide +kernel
set_option maxRecDepth 65536 in
theorem w_ripe : about1.ripe theMethod args0 below0 = true := by decide +kernel
theorem w_running : about1.status = .running := rfl
set_option maxRecDepth 65536 in
theorem w_room : about1.hasRoom e0.platform room_1 = true :=
  launch0.hasRoom_least _ room_1 (by decide +kernel) (by decide +kernel) (by decide +kernel) (by decide +kernel) (by decide +kernel) (by decide +kernel)
theorem allAtoms_all (ts : List Jvm.Cond) (a : Array Jvm.Value) (st : Jvm.State) : (allAtoms ts).before a st = ts.all (fun c => c.before a st) := by
  induction ts with
  | nil => rfl
  | cons c t ih =>
    show (Jvm.Cond.and c (allAtoms t)).before a st = _
    rw [Jvm.Cond.before_and, ih, List.all_cons]
def words1 : List Jvm.Cond := Jvm.Cond.code x code maxLocals ret :: tables_1
/-- a 'code' word, met by the world's own term for the bytes: nothing is compared byte by byte -/
theorem code_word {y : MethodName} {bytes : ByteArray} {mx : Nat} {rt : Option FieldType} {a : Array Value} {s : State} {m : MethodId} {meth : Method} {c : Code} (h1 : s.methodNamed? y = some m) (h2 : s.vm.method? m = some meth) (h3 : meth.code = some c) (h4 : c.code = bytes)
    (h5 : (c.maxLocals == mx && c.exceptionTable.isEmpty && decide (c.maxStack ≤ mostOperands) && decide (meth.sig.returnType = rt) && !meth.locks && decide (parseMethodDescriptor y.desc = some meth.sig)) = true) : (Jvm.Cond.code y bytes mx rt).before a s = true := by
  simp only [Bool.and_eq_true, beq_iff_eq, Bool.not_eq_true', decide_eq_true_eq] at h5
  obtain ⟨⟨⟨⟨⟨g1, g2⟩, g3⟩, g4⟩, g5⟩, g6⟩ := h5
  simp [Cond.before, Cond.holds, Cond.value, h1, h2, h3, h4, g1, g2, g3, g4, g5, g6]
def isCode : Jvm.Cond → Bool
  | .code _ _ _ _ => true
  | _ => false
theorem all_split {L : List Jvm.Cond} {P : Jvm.Cond → Bool} (h1 : L.all (fun c => isCode c || P c) = true) (h2 : ∀ c ∈ L.filter isCode, P c = true) : L.all P = true := by
  refine List.all_eq_true.mpr fun c hc => ?_
  have h := List.all_eq_true.mp h1 c hc
  rcases Bool.eq_false_or_eq_true (isCode c) with hi | hi
  · exact h2 c (List.mem_filter.mpr ⟨hc, hi⟩)
  · simpa [hi] using h
set_option maxRecDepth 65536 in
theorem w_c0 : (Jvm.Cond.code x code maxLocals ret).before args0 about1 = true := code_word (m := ⟨1, 5⟩) (meth := k1m5) (c := k1c5) (by decide +kernel) rfl rfl rfl (by decide +kernel)
set_option maxRecDepth 65536 in
theorem w_c1 : (Jvm.Cond.code ({ cls := "com/example/consentry/consentry/io/UnicodeIsTextPinLaw", name := "draw", desc := "(I)C" } : Jvm.MethodName) method_4_code (1 : Nat) (Option.some Jvm.ClassFile.FieldType.char)).before args0 about1 = true := code_word (m := ⟨1, 3⟩) (meth := k1m3) (c := k1c3) (by decide +kernel) rfl rfl rfl (by decide +kernel)
set_option maxRecDepth 65536 in
theorem w_c2 : (Jvm.Cond.code ({ cls := "java/lang/String", name := "<init>", desc := "([C)V" } : Jvm.MethodName) jdk_42_method_3_code (2 : Nat) (Option.none : Option Jvm.ClassFile.FieldType)).before args0 about1 = true := code_word (m := ⟨7, 1⟩) (meth := k7m1) (c := k7c1) (by decide +kernel) rfl rfl rfl (by decide +kernel)
set_option maxRecDepth 65536 in
theorem w_c3 : (Jvm.Cond.code ({ cls := "java/lang/String", name := "<init>", desc := "([CIILjava/lang/Void;)V" } : Jvm.MethodName) jdk_42_method_149_code (6 : Nat) (Option.none : Option Jvm.ClassFile.FieldType)).before args0 about1 = true := code_word (m := ⟨7, 4⟩) (meth := k7m4) (c := k7c4) (by decide +kernel) rfl rfl rfl (by decide +kernel)
set_option maxRecDepth 65536 in
theorem w_c4 : (Jvm.Cond.code ({ cls := "java/lang/Object", name := "<init>", desc := "()V" } : Jvm.MethodName) object_method_1_code (1 : Nat) (Option.none : Option Jvm.ClassFile.FieldType)).before args0 about1 = true := code_word (m := ⟨0, 0⟩) (meth := k0m0) (c := k0c0) (by decide +kernel) rfl rfl rfl (by decide +kernel)
set_option maxRecDepth 65536 in
theorem w_c5 : (Jvm.Cond.code ({ cls := "com/example/consentry/consentry/io/UnicodeIsTextPinLaw", name := "okAt", desc := "(ZZCCZC)Z" } : Jvm.MethodName) method_5_code (6 : Nat) (Option.some Jvm.ClassFile.FieldType.boolean)).before args0 about1 = true := code_word (m := ⟨1, 4⟩) (meth := k1m4) (c := k1c4) (by decide +kernel) rfl rfl rfl (by decide +kernel)
set_option maxRecDepth 65536 in
theorem w_c6 : (Jvm.Cond.code ({ cls := "com/example/consentry/consentry/io/Unicode", name := "isText", desc := "(Ljava/lang/String;)Z" } : Jvm.MethodName) prog_29_method_2_code (3 : Nat) (Option.some Jvm.ClassFile.FieldType.boolean)).before args0 about1 = true := code_word (m := ⟨8, 1⟩) (meth := k8m1) (c := k8c1) (by decide +kernel) rfl rfl rfl (by decide +kernel)
set_option maxRecDepth 65536 in
theorem w_c7 : (Jvm.Cond.code ({ cls := "java/lang/String", name := "length", desc := "()I" } : Jvm.MethodName) jdk_42_method_54_code (1 : Nat) (Option.some Jvm.ClassFile.FieldType.int)).before args0 about1 = true := code_word (m := ⟨7, 2⟩) (meth := k7m2) (c := k7c2) (by decide +kernel) rfl rfl rfl (by decide +kernel)
set_option maxRecDepth 65536 in
theorem w_c8 : (Jvm.Cond.code ({ cls := "java/lang/String", name := "coder", desc := "()B" } : Jvm.MethodName) jdk_42_method_152_code (1 : Nat) (Option.some Jvm.ClassFile.FieldType.byte)).before args0 about1 = true := code_word (m := ⟨7, 5⟩) (meth := k7m5) (c := k7c5) (by decide +kernel) rfl rfl rfl (by decide +kernel)
set_option maxRecDepth 65536 in
theorem w_c9 : (Jvm.Cond.code ({ cls := "java/lang/StringUTF16", name := "compress", desc := "([CII)[B" } : Jvm.MethodName) jdk_52_method_16_code (6 : Nat) (Option.some (Jvm.ClassFile.FieldType.array Jvm.ClassFile.FieldType.byte))).before args0 about1 = true := code_word (m := ⟨9, 8⟩) (meth := k9m8) (c := k9c8) (by decide +kernel) rfl rfl rfl (by decide +kernel)
set_option maxRecDepth 65536 in
theorem w_c10 : (Jvm.Cond.code ({ cls := "java/lang/StringUTF16", name := "compress", desc := "([CI[BII)I" } : Jvm.MethodName) jdk_52_method_21_code (7 : Nat) (Option.some Jvm.ClassFile.FieldType.int)).before args0 about1 = true := code_word (m := ⟨9, 9⟩) (meth := k9m9) (c := k9c9) (by decide +kernel) rfl rfl rfl (by decide +kernel)
set_option maxRecDepth 65536 in
theorem w_c11 : (Jvm.Cond.code ({ cls := "java/lang/StringUTF16", name := "coderFromArrayLen", desc := "([BI)B" } : Jvm.MethodName) jdk_52_method_15_code (2 : Nat) (Option.some Jvm.ClassFile.FieldType.byte)).before args0 about1 = true := code_word (m := ⟨9, 7⟩) (meth := k9m7) (c := k9c7) (by decide +kernel) rfl rfl rfl (by decide +kernel)
set_option maxRecDepth 65536 in
theorem w_c12 : (Jvm.Cond.code ({ cls := "com/example/consentry/consentry/io/UnicodeIsTextPinLaw", name := "isHigh", desc := "(C)Z" } : Jvm.MethodName) method_2_code (1 : Nat) (Option.some Jvm.ClassFile.FieldType.boolean)).before args0 about1 = true := code_word (m := ⟨1, 1⟩) (meth := k1m1) (c := k1c1) (by decide +kernel) rfl rfl rfl (by decide +kernel)
set_option maxRecDepth 65536 in
theorem w_c13 : (Jvm.Cond.code ({ cls := "com/example/consentry/consentry/io/UnicodeIsTextPinLaw", name := "isLow", desc := "(C)Z" } : Jvm.MethodName) method_3_code (1 : Nat) (Option.some Jvm.ClassFile.FieldType.boolean)).before args0 about1 = true := code_word (m := ⟨1, 2⟩) (meth := k1m2) (c := k1c2) (by decide +kernel) rfl rfl rfl (by decide +kernel)
set_option maxRecDepth 65536 in
theorem w_c14 : (Jvm.Cond.code ({ cls := "java/lang/String", name := "charAt", desc := "(I)C" } : Jvm.MethodName) jdk_42_method_56_code (2 : Nat) (Option.some Jvm.ClassFile.FieldType.char)).before args0 about1 = true := code_word (m := ⟨7, 3⟩) (meth := k7m3) (c := k7c3) (by decide +kernel) rfl rfl rfl (by decide +kernel)
set_option maxRecDepth 65536 in
theorem w_c15 : (Jvm.Cond.code ({ cls := "java/lang/String", name := "isLatin1", desc := "()Z" } : Jvm.MethodName) jdk_42_method_154_code (1 : Nat) (Option.some Jvm.ClassFile.FieldType.boolean)).before args0 about1 = true := code_word (m := ⟨7, 6⟩) (meth := k7m6) (c := k7c6) (by decide +kernel) rfl rfl rfl (by decide +kernel)
set_option maxRecDepth 65536 in
theorem w_c16 : (Jvm.Cond.code ({ cls := "java/lang/StringLatin1", name := "charAt", desc := "([BI)C" } : Jvm.MethodName) jdk_43_method_2_code (2 : Nat) (Option.some Jvm.ClassFile.FieldType.char)).before args0 about1 = true := code_word (m := ⟨10, 1⟩) (meth := k10m1) (c := k10c1) (by decide +kernel) rfl rfl rfl (by decide +kernel)
set_option maxRecDepth 65536 in
theorem w_c17 : (Jvm.Cond.code ({ cls := "java/lang/String", name := "checkIndex", desc := "(II)V" } : Jvm.MethodName) jdk_42_method_155_code (2 : Nat) (Option.none : Option Jvm.ClassFile.FieldType)).before args0 about1 = true := code_word (m := ⟨7, 7⟩) (meth := k7m7) (c := k7c7) (by decide +kernel) rfl rfl rfl (by decide +kernel)
set_option maxRecDepth 65536 in
theorem w_c18 : (Jvm.Cond.code ({ cls := "jdk/internal/util/Preconditions", name := "checkIndex", desc := "(IILjava/util/function/BiFunction;)I" } : Jvm.MethodName) jdk_41_method_11_code (3 : Nat) (Option.some Jvm.ClassFile.FieldType.int)).before args0 about1 = true := code_word (m := ⟨11, 1⟩) (meth := k11m1) (c := k11c1) (by decide +kernel) rfl rfl rfl (by decide +kernel)
set_option maxRecDepth 65536 in
theorem w_c19 : (Jvm.Cond.code ({ cls := "java/lang/Character", name := "isHighSurrogate", desc := "(C)Z" } : Jvm.MethodName) jdk_89_method_14_code (1 : Nat) (Option.some Jvm.ClassFile.FieldType.boolean)).before args0 about1 = true := code_word (m := ⟨12, 0⟩) (meth := k12m0) (c := k12c0) (by decide +kernel) rfl rfl rfl (by decide +kernel)
set_option maxRecDepth 65536 in
theorem w_c20 : (Jvm.Cond.code ({ cls := "java/lang/Character", name := "isSurrogate", desc := "(C)Z" } : Jvm.MethodName) jdk_89_method_16_code (1 : Nat) (Option.some Jvm.ClassFile.FieldType.boolean)).before args0 about1 = true := code_word (m := ⟨12, 2⟩) (meth := k12m2) (c := k12c2) (by decide +kernel) rfl rfl rfl (by decide +kernel)
set_option maxRecDepth 65536 in
theorem w_c21 : (Jvm.Cond.code ({ cls := "java/lang/StringUTF16", name := "toBytes", desc := "([CII)[B" } : Jvm.MethodName) jdk_52_method_14_code (5 : Nat) (Option.some (Jvm.ClassFile.FieldType.array Jvm.ClassFile.FieldType.byte))).before args0 about1 = true := code_word (m := ⟨9, 6⟩) (meth := k9m6) (c := k9c6) (by decide +kernel) rfl rfl rfl (by decide +kernel)
set_option maxRecDepth 65536 in
theorem w_c22 : (Jvm.Cond.code ({ cls := "java/lang/StringUTF16", name := "newBytesFor", desc := "(I)[B" } : Jvm.MethodName) jdk_52_method_2_code (1 : Nat) (Option.some (Jvm.ClassFile.FieldType.array Jvm.ClassFile.FieldType.byte))).before args0 about1 = true := code_word (m := ⟨9, 1⟩) (meth := k9m1) (c := k9c1) (by decide +kernel) rfl rfl rfl (by decide +kernel)
set_option maxRecDepth 65536 in
theorem w_c23 : (Jvm.Cond.code ({ cls := "java/lang/StringUTF16", name := "newBytesLength", desc := "(I)I" } : Jvm.MethodName) jdk_52_method_3_code (1 : Nat) (Option.some Jvm.ClassFile.FieldType.int)).before args0 about1 = true := code_word (m := ⟨9, 2⟩) (meth := k9m2) (c := k9c2) (by decide +kernel) rfl rfl rfl (by decide +kernel)
set_option maxRecDepth 65536 in
theorem w_c24 : (Jvm.Cond.code ({ cls := "java/lang/StringUTF16", name := "putChar", desc := "([BII)V" } : Jvm.MethodName) jdk_52_method_4_code (3 : Nat) (Option.none : Option Jvm.ClassFile.FieldType)).before args0 about1 = true := code_word (m := ⟨9, 3⟩) (meth := k9m3) (c := k9c3) (by decide +kernel) rfl rfl rfl (by decide +kernel)
set_option maxRecDepth 65536 in
theorem w_c25 : (Jvm.Cond.code ({ cls := "java/lang/StringUTF16", name := "getChar", desc := "([BI)C" } : Jvm.MethodName) jdk_52_method_5_code (2 : Nat) (Option.some Jvm.ClassFile.FieldType.char)).before args0 about1 = true := code_word (m := ⟨9, 4⟩) (meth := k9m4) (c := k9c4) (by decide +kernel) rfl rfl rfl (by decide +kernel)
set_option maxRecDepth 65536 in
theorem w_c26 : (Jvm.Cond.code ({ cls := "java/lang/StringUTF16", name := "charAt", desc := "([BI)C" } : Jvm.MethodName) jdk_52_method_83_code (2 : Nat) (Option.some Jvm.ClassFile.FieldType.char)).before args0 about1 = true := code_word (m := ⟨9, 10⟩) (meth := k9m10) (c := k9c10) (by decide +kernel) rfl rfl rfl (by decide +kernel)
set_option maxRecDepth 65536 in
theorem w_c27 : (Jvm.Cond.code ({ cls := "java/lang/StringUTF16", name := "checkIndex", desc := "(I[B)V" } : Jvm.MethodName) jdk_52_method_91_code (2 : Nat) (Option.none : Option Jvm.ClassFile.FieldType)).before args0 about1 = true := code_word (m := ⟨9, 11⟩) (meth := k9m11) (c := k9c11) (by decide +kernel) rfl rfl rfl (by decide +kernel)
set_option maxRecDepth 65536 in
theorem w_c28 : (Jvm.Cond.code ({ cls := "java/lang/StringUTF16", name := "length", desc := "([B)I" } : Jvm.MethodName) jdk_52_method_6_code (1 : Nat) (Option.some Jvm.ClassFile.FieldType.int)).before args0 about1 = true := code_word (m := ⟨9, 5⟩) (meth := k9m5) (c := k9c5) (by decide +kernel) rfl rfl rfl (by decide +kernel)
set_option maxRecDepth 65536 in
theorem w_c29 : (Jvm.Cond.code ({ cls := "java/lang/Character", name := "isLowSurrogate", desc := "(C)Z" } : Jvm.MethodName) jdk_89_method_15_code (1 : Nat) (Option.some Jvm.ClassFile.FieldType.boolean)).before args0 about1 = true := code_word (m := ⟨12, 1⟩) (meth := k12m1) (c := k12c1) (by decide +kernel) rfl rfl rfl (by decide +kernel)
def codes1 : List Jvm.Cond := [Jvm.Cond.code x code maxLocals ret, Jvm.Cond.code ({ cls := "com/example/consentry/consentry/io/UnicodeIsTextPinLaw", name := "draw", desc := "(I)C" } : Jvm.MethodName) method_4_code (1 : Nat) (Option.some Jvm.ClassFile.FieldType.char), Jvm.Cond.code ({ cls := "java/lang/String", name := "<init>", desc := "([C)V" } : Jvm.MethodName) jdk_42_method_3_code (2 : Nat) (Option.none : Option Jvm.ClassFile.FieldType), Jvm.Cond.code ({ cls := "java/lang/String", name := "<init>", desc := "([CIILjava/lang/Void;)V" } : Jvm.MethodName) jdk_42_method_149_code (6 : Nat) (Option.none : Option Jvm.ClassFile.FieldType), Jvm.Cond.code ({ cls := "java/lang/Object", name := "<init>", desc := "()V" } : Jvm.MethodName) object_method_1_code (1 : Nat) (Option.none : Option Jvm.ClassFile.FieldType), Jvm.Cond.code ({ cls := "com/example/consentry/consentry/io/UnicodeIsTextPinLaw", name := "okAt", desc := "(ZZCCZC)Z" } : Jvm.MethodName) method_5_code (6 : Nat) (Option.some Jvm.ClassFile.FieldType.boolean), Jvm.Cond.code ({ cls := "com/example/consentry/consentry/io/Unicode", name := "isText", desc := "(Ljava/lang/String;)Z" } : Jvm.MethodName) prog_29_method_2_code (3 : Nat) (Option.some Jvm.ClassFile.FieldType.boolean), Jvm.Cond.code ({ cls := "java/lang/String", name := "length", desc := "()I" } : Jvm.MethodName) jdk_42_method_54_code (1 : Nat) (Option.some Jvm.ClassFile.FieldType.int), Jvm.Cond.code ({ cls := "java/lang/String", name := "coder", desc := "()B" } : Jvm.MethodName) jdk_42_method_152_code (1 : Nat) (Option.some Jvm.ClassFile.FieldType.byte), Jvm.Cond.code ({ cls := "java/lang/StringUTF16", name := "compress", desc := "([CII)[B" } : Jvm.MethodName) jdk_52_method_16_code (6 : Nat) (Option.some (Jvm.ClassFile.FieldType.array Jvm.ClassFile.FieldType.byte)), Jvm.Cond.code ({ cls := "java/lang/StringUTF16", name := "compress", desc := "([CI[BII)I" } : Jvm.MethodName) jdk_52_method_21_code (7 : Nat) (Option.some Jvm.ClassFile.FieldType.int), Jvm.Cond.code ({ cls := "java/lang/StringUTF16", name := "coderFromArrayLen", desc := "([BI)B" } : Jvm.MethodName) jdk_52_method_15_code (2 : Nat) (Option.some Jvm.ClassFile.FieldType.byte), Jvm.Cond.code ({ cls := "com/example/consentry/consentry/io/UnicodeIsTextPinLaw", name := "isHigh", desc := "(C)Z" } : Jvm.MethodName) method_2_code (1 : Nat) (Option.some Jvm.ClassFile.FieldType.boolean), Jvm.Cond.code ({ cls := "com/example/consentry/consentry/io/UnicodeIsTextPinLaw", name := "isLow", desc := "(C)Z" } : Jvm.MethodName) method_3_code (1 : Nat) (Option.some Jvm.ClassFile.FieldType.boolean), Jvm.Cond.code ({ cls := "java/lang/String", name := "charAt", desc := "(I)C" } : Jvm.MethodName) jdk_42_method_56_code (2 : Nat) (Option.some Jvm.ClassFile.FieldType.char), Jvm.Cond.code ({ cls := "java/lang/String", name := "isLatin1", desc := "()Z" } : Jvm.MethodName) jdk_42_method_154_code (1 : Nat) (Option.some Jvm.ClassFile.FieldType.boolean), Jvm.Cond.code ({ cls := "java/lang/StringLatin1", name := "charAt", desc := "([BI)C" } : Jvm.MethodName) jdk_43_method_2_code (2 : Nat) (Option.some Jvm.ClassFile.FieldType.char), Jvm.Cond.code ({ cls := "java/lang/String", name := "checkIndex", desc := "(II)V" } : Jvm.MethodName) jdk_42_method_155_code (2 : Nat) (Option.none : Option Jvm.ClassFile.FieldType), Jvm.Cond.code ({ cls := "jdk/internal/util/Preconditions", name := "checkIndex", desc := "(IILjava/util/function/BiFunction;)I" } : Jvm.MethodName) jdk_41_method_11_code (3 : Nat) (Option.some Jvm.ClassFile.FieldType.int), Jvm.Cond.code ({ cls := "java/lang/Character", name := "isHighSurrogate", desc := "(C)Z" } : Jvm.MethodName) jdk_89_method_14_code (1 : Nat) (Option.some Jvm.ClassFile.FieldType.boolean), Jvm.Cond.code ({ cls := "java/lang/Character", name := "isSurrogate", desc := "(C)Z" } : Jvm.MethodName) jdk_89_method_16_code (1 : Nat) (Option.some Jvm.ClassFile.FieldType.boolean), Jvm.Cond.code ({ cls := "java/lang/StringUTF16", name := "toBytes", desc := "([CII)[B" } : Jvm.MethodName) jdk_52_method_14_code (5 : Nat) (Option.some (Jvm.ClassFile.FieldType.array Jvm.ClassFile.FieldType.byte)), Jvm.Cond.code ({ cls := "java/lang/StringUTF16", name := "newBytesFor", desc := "(I)[B" } : Jvm.MethodName) jdk_52_method_2_code (1 : Nat) (Option.some (Jvm.ClassFile.FieldType.array Jvm.ClassFile.FieldType.byte)), Jvm.Cond.code ({ cls := "java/lang/StringUTF16", name := "newBytesLength", desc := "(I)I" } : Jvm.MethodName) jdk_52_method_3_code (1 : Nat) (Option.some Jvm.ClassFile.FieldType.int), Jvm.Cond.code ({ cls := "java/lang/StringUTF16", name := "putChar", desc := "([BII)V" } : Jvm.MethodName) jdk_52_method_4_code (3 : Nat) (Option.none : Option Jvm.ClassFile.FieldType), Jvm.Cond.code ({ cls := "java/lang/StringUTF16", name := "getChar", desc := "([BI)C" } : Jvm.MethodName) jdk_52_method_5_code (2 : Nat) (Option.some Jvm.ClassFile.FieldType.char), Jvm.Cond.code ({ cls := "java/lang/StringUTF16", name := "charAt", desc := "([BI)C" } : Jvm.MethodName) jdk_52_method_83_code (2 : Nat) (Option.some Jvm.ClassFile.FieldType.char), Jvm.Cond.code ({ cls := "java/lang/StringUTF16", name := "checkIndex", desc := "(I[B)V" } : Jvm.MethodName) jdk_52_method_91_code (2 : Nat) (Option.none : Option Jvm.ClassFile.FieldType), Jvm.Cond.code ({ cls := "java/lang/StringUTF16", name := "length", desc := "([B)I" } : Jvm.MethodName) jdk_52_method_6_code (1 : Nat) (Option.some Jvm.ClassFile.FieldType.int), Jvm.Cond.code ({ cls := "java/lang/Character", name := "isLowSurrogate", desc := "(C)Z" } : Jvm.MethodName) jdk_89_method_15_code (1 : Nat) (Option.some Jvm.ClassFile.FieldType.boolean)]
set_option maxRecDepth 65536 in
theorem codes_eq : words1.filter isCode = codes1 := rfl
theorem w_codes : ∀ c ∈ words1.filter isCode, c.before args0 about1 = true := by
  rw [codes_eq]
  intro c hc
  simp only [codes1, List.mem_cons, List.not_mem_nil, or_false] at hc
  rcases hc with rfl | rfl | rfl | rfl | rfl | rfl | rfl | rfl | rfl | rfl | rfl | rfl | rfl | rfl | rfl | rfl | rfl | rfl | rfl | rfl | rfl | rfl | rfl | rfl | rfl | rfl | rfl | rfl | rfl | rfl
  · exact w_c0
  · exact w_c1
  · exact w_c2
  · exact w_c3
  · exact w_c4
  · exact w_c5
  · exact w_c6
  · exact w_c7
  · exact w_c8
  · exact w_c9
  · exact w_c10
  · exact w_c11
  · exact w_c12
  · exact w_c13
  · exact w_c14
  · exact w_c15
  · exact w_c16
  · exact w_c17
  · exact w_c18
  · exact w_c19
  · exact w_c20
  · exact w_c21
  · exact w_c22
  · exact w_c23
  · exact w_c24
  · exact w_c25
  · exact w_c26
  · exact w_c27
  · exact w_c28
  · exact w_c29
set_option maxRecDepth 65536 in
theorem w_t1 : (words1.take 24).all (fun c => isCode c || c.before args0 about1) = true := by decide +kernel
set_option maxRecDepth 65536 in
theorem w_t2 : ((words1.drop 24).take 24).all (fun c => isCode c || c.before args0 about1) = true := by decide +kernel
set_option maxRecDepth 65536 in
theorem w_t3 : (((words1.drop 24).drop 24).take 24).all (fun c => isCode c || c.before args0 about1) = true := by decide +kernel
set_option maxRecDepth 65536 in
theorem w_t4 : ((((words1.drop 24).drop 24).drop 24).take 24).all (fun c => isCode c || c.before args0 about1) = true := by decide +kernel
set_option maxRecDepth 65536 in
theorem w_t5 : (((((words1.drop 24).drop 24).drop 24).drop 24).take 24).all (fun c => isCode c || c.before args0 about1) = true := by decide +kernel
set_option maxRecDepth 65536 in
theorem w_t6 : (((((words1.drop 24).drop 24).drop 24).drop 24).drop 24).all (fun c => isCode c || c.before args0 about1) = true := by decide +kernel
theorem w_tables : (allAtoms (Jvm.Cond.code x code maxLocals ret :: tables_1)).before args0 about1 = true := by
  rw [allAtoms_all]
  show words1.all (fun c => c.before args0 about1) = true
  refine all_split ?_ w_codes
  rw [← List.take_append_drop 24 words1, List.all_append, w_t1, ← List.take_append_drop 24 (words1.drop 24), List.all_append, w_t2, ← List.take_append_drop 24 ((words1.drop 24).drop 24), List.all_append, w_t3, ← List.take_append_drop 24 (((words1.drop 24).drop 24).drop 24), List.all_append, w_t4, ← List.take_append_drop 24 ((((words1.drop 24).drop 24).drop 24).drop 24), List.all_append, w_t5, w_t6]
  rfl
set_option maxRecDepth 65536 in
theorem w_rest : rest_1_c.before args0 about1 = true := by decide +kernel
set_option maxRecDepth 65536 in
theorem w_case : (Jvm.Cond.and given_1 narrow_1).before args0 about1 = true := by decide +kernel
set_option maxRecDepth 65536 in
theorem w_consts : constsHeld consts_1 about1 := Jvm.Lit.constsHeldB_iff.mp (by decide +kernel)
theorem w_applies : (headSpec (Jvm.Cond.code x code maxLocals ret :: tables_1) room_1).applies x e0.platform about1 = true :=
  (Spec.applies_iff w_frames).mpr ⟨w_running, w_runnable, w_alone, w_named, w_hears, w_ripe, w_room, w_tables⟩
theorem atStart : AtStart classFile x code maxLocals ret World_1 tables_1 room_1 Calls_1 rest_1 Pre_1 launch0 p0 e0 about1 theMethod args0 below0 :=
  ⟨lists_1, trivial, launch0.admits_env _ _ _, launch0.least_env, fairChoices_fair.cas, fairChoices_fair.clock, w_frames, w_args, w_heap, w_applies, ⟨w_consts, trivial⟩, w_rest, w_case⟩
end start1
theorem witness_1 : WitnessClaimed_1 := ⟨start1.p0, start1.e0, start1.about1, start1.theMethod, start1.args0, start1.below0, start1.atStart⟩
end Jvm.Pilot.@@N@@
