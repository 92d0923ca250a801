import JvmDerived
import JvmDerived.Pilot.@@N@@Statement
import JvmDerived.Pilot.@@N@@Code
set_option linter.unusedVariables false
set_option linter.unusedSimpArgs false
namespace Jvm.RoadKit
open Sem ClassFile Op Lib Jvm.Stand Jvm.Free Jvm.LawKit
/-- what a walk knows of the method that it walks -/
def Own (Z : State) (y : MethodName) (bytes : ByteArray) (maxL : Nat) (ret : Option FieldType) (p : Program) (s : State) (m : MethodId) (meth : Method) (c : Code) : Prop :=
  p.tables.exec = Jvm.exec ∧ c.code = bytes ∧ c.maxLocals = maxL ∧ s.vm.findClass y.cls = some m.cls ∧ meth.name = y.name ∧ Z.Warmed39 s.vm ∧ meth.sig.returnType = ret ∧ meth.locks = false
/-- how the start s over which the walk stands belongs to the true start s0 (wd: strings may have been interned since) -/
def GoRel (wd : Bool) (s0 s : State) (k : Nat) : Prop := match wd with
  | false => s0 = s
  | true => ∃ (vm0 : Vm) (k0 : Nat), s = s0.setVm vm0 ∧ s0.Since vm0 k0 ∧ k0 ≤ k
/-- the frame of the end -/
def GoEnd (wd : Bool) (s0 : State) (o : Outcome) (t : State) (L : List Loc) (K N : Nat) : Prop := match wd with
  | false => FrameEnd s0 o t L K N
  | true => ReturnedEndW s0 o t L K N
theorem GoRel.mono {wd : Bool} {s0 s : State} {k k' : Nat} (h : GoRel wd s0 s k) (q : k ≤ k') : GoRel wd s0 s k' := by
  cases wd
  · exact h
  · obtain ⟨vm0, k0, h1, h2, h3⟩ := h; exact ⟨vm0, k0, h1, h2, Nat.le_trans h3 q⟩
theorem GoRel.refl (wd : Bool) (s : State) (k : Nat) : GoRel wd s s k := by
  cases wd
  · rfl
  · exact ⟨s.vm, 0, rfl, (State.WarmedH.refl s).since 0, Nat.zero_le _⟩
theorem GoEnd.grow {wd : Bool} {s0 t : State} {o : Outcome} {L : List Loc} {K N : Nat} (h : GoEnd wd s0 o t L K N) : s0.heap.size ≤ t.heap.size := by
  cases wd
  · exact h.2.2.2.1
  · exact h.2.2.2.2.1
theorem GoRel.ended {wd : Bool} {s0 s : State} {v : Option Value} {U : State} {locs : List Loc} {c k c' k' : Nat} (h : GoRel wd s0 s U.heap.size) (hW : s.WarmedH U.vm) (hs : s.sameButNew ({ U with vm := s.vm } : State) locs c k) (hc : c ≤ c') (hk : k ≤ k') : GoEnd wd s0 (.returned v) U locs c' k' := by
  cases wd
  · obtain rfl : s0 = s := h
    exact ⟨⟨_, rfl⟩, hW, hs.mono hc hk⟩
  · obtain ⟨vm0, k0, rfl, h2, h3⟩ := h
    obtain ⟨q1, q2, q3⟩ := h2.ended hW h3 hs
    exact ⟨⟨_, rfl⟩, q1, q2, q3.mono hc hk⟩
/-- from pc, Ls, st over the heap h (so many cells and slots made so far) the walk comes to its end, and Q holds of what it returns and of the heap there; what it wrote lies at or above n0 -/
def Go (wd : Bool) (l : Launch) (R : Room) (Z : State) (y : MethodName) (bytes : ByteArray) (maxL : Nat) (ret : Option FieldType) (n0 K N : Nat) (Q : Option Value → Heap → Prop) (h : Heap) (cells slots pc : Nat) (Ls : Array Slot) (st : List Value) : Prop :=
  ∀ (p : Program) (e : Env) (s0 s : State) (m : MethodId) (args : Array Value) (below : List Frame) (meth : Method) (c : Code) (T : State) (locs : List Loc),
    GoRel wd s0 s h.size → Own Z y bytes maxL ret p s m meth c → Stand p l e R s m args below meth c T locs cells slots → T.heap = h → Fr n0 locs →
    ∃ s₂ o, Steps p.tables e below (T.setTop (mkF m pc Ls st)) s₂ ∧ s₂.status = .running ∧ Ended s₂ below o ∧ ∃ v L, o = .returned v ∧ (Q v s₂.heap ∧ Fr n0 L) ∧ GoEnd wd s0 o s₂ L K N
section GoLaws
variable {wd : Bool} {l : Launch} {R : Room} {Z : State} {y : MethodName} {bytes : ByteArray} {maxL : Nat} {ret : Option FieldType} {n0 K N : Nat} {Q : Option Value → Heap → Prop} {h : Heap} {cells slots pc pc' : Nat} {Ls Ls' : Array Slot} {st st' : List Value} {a0 : Array Value}
theorem Go.of (k : Go wd l R Z y bytes maxL ret n0 K N Q h cells slots pc' Ls' st')
    (q : ∀ (p : Program) (e : Env) (s : State) (m : MethodId) (args : Array Value) (below : List Frame) (meth : Method) (c : Code) (T : State) (locs : List Loc), Own Z y bytes maxL ret p s m meth c → Stand p l e R s m args below meth c T locs cells slots → T.heap = h →
      ∀ target, Steps p.tables e below (T.setTop (mkF m pc' Ls' st')) target → Steps p.tables e below (T.setTop (mkF m pc Ls st)) target) : Go wd l R Z y bytes maxL ret n0 K N Q h cells slots pc Ls st := by
  intro p e s0 s m args below meth c T locs hR O X eT F
  obtain ⟨s₂, o, h1, r⟩ := k p e s0 s m args below meth c T locs hR O X eT F
  exact ⟨s₂, o, q p e s m args below meth c T locs O X eT _ h1, r⟩
theorem Go.weaken {Q' : Option Value → Heap → Prop} (hQ : ∀ v h, Q' v h → Q v h) (k : Go wd l R Z y bytes maxL ret n0 K N Q' h cells slots pc Ls st) : Go wd l R Z y bytes maxL ret n0 K N Q h cells slots pc Ls st := by
  intro p e s0 s m args below meth c T locs hR O X eT F
  obtain ⟨s₂, o, h1, h2, h3, v, L, h4, h5, h6⟩ := k p e s0 s m args below meth c T locs hR O X eT F
  exact ⟨s₂, o, h1, h2, h3, v, L, h4, ⟨hQ _ _ h5.1, h5.2⟩, h6⟩
/-! plain steps -/
theorem Go.iload {k : Nat} {v : Int32} (hd : decode bytes pc = .ok (.iload k, 2)) (hl : Ls[k]? = some (.val (.int v))) (hp : pc + 2 = pc') (q : Go wd l R Z y bytes maxL ret n0 K N Q h cells slots pc' Ls (.int v :: st)) : Go wd l R Z y bytes maxL ret n0 K N Q h cells slots pc Ls st := by
  subst hp; exact Go.of q fun p e s m args below meth c T locs O X eT t hr => XS.iload X.here O.1 rfl (hb O.2.1 hd) hl hr
theorem Go.iloadN {k : Fin 4} {v : Int32} (hd : decode bytes pc = .ok (.iload_n k, 1)) (hl : Ls[k.val]? = some (.val (.int v))) (hp : pc + 1 = pc') (q : Go wd l R Z y bytes maxL ret n0 K N Q h cells slots pc' Ls (.int v :: st)) : Go wd l R Z y bytes maxL ret n0 K N Q h cells slots pc Ls st := by
  subst hp; exact Go.of q fun p e s m args below meth c T locs O X eT t hr => XS.iloadN X.here O.1 rfl (hb O.2.1 hd) hl hr
theorem Go.lload {k : Nat} {v : Int64} (hd : decode bytes pc = .ok (.lload k, 2)) (hl : Ls[k]? = some (.val (.long v))) (hp : pc + 2 = pc') (q : Go wd l R Z y bytes maxL ret n0 K N Q h cells slots pc' Ls (.long v :: st)) : Go wd l R Z y bytes maxL ret n0 K N Q h cells slots pc Ls st := by
  subst hp; exact Go.of q fun p e s m args below meth c T locs O X eT t hr => XS.lload X.here O.1 rfl (hb O.2.1 hd) hl hr
theorem Go.lloadN {k : Fin 4} {v : Int64} (hd : decode bytes pc = .ok (.lload_n k, 1)) (hl : Ls[k.val]? = some (.val (.long v))) (hp : pc + 1 = pc') (q : Go wd l R Z y bytes maxL ret n0 K N Q h cells slots pc' Ls (.long v :: st)) : Go wd l R Z y bytes maxL ret n0 K N Q h cells slots pc Ls st := by
  subst hp; exact Go.of q fun p e s m args below meth c T locs O X eT t hr => XS.lloadN X.here O.1 rfl (hb O.2.1 hd) hl hr
theorem Go.aload {k : Nat} {v : Value} (hd : decode bytes pc = .ok (.aload k, 2)) (hl : Ls[k]? = some (.val v)) (hv : v.isRef = true) (hp : pc + 2 = pc') (q : Go wd l R Z y bytes maxL ret n0 K N Q h cells slots pc' Ls (v :: st)) : Go wd l R Z y bytes maxL ret n0 K N Q h cells slots pc Ls st := by
  subst hp; exact Go.of q fun p e s m args below meth c T locs O X eT t hr => XS.aload X.here O.1 rfl (hb O.2.1 hd) hl hv hr
theorem Go.aloadN {k : Fin 4} {v : Value} (hd : decode bytes pc = .ok (.aload_n k, 1)) (hl : Ls[k.val]? = some (.val v)) (hv : v.isRef = true) (hp : pc + 1 = pc') (q : Go wd l R Z y bytes maxL ret n0 K N Q h cells slots pc' Ls (v :: st)) : Go wd l R Z y bytes maxL ret n0 K N Q h cells slots pc Ls st := by
  subst hp; exact Go.of q fun p e s m args below meth c T locs O X eT t hr => XS.aloadN X.here O.1 rfl (hb O.2.1 hd) hl hv hr
theorem Go.istore {k : Nat} {v : Int32} (hd : decode bytes pc = .ok (.istore k, 2)) (hl : storeLocals Ls k (.int v) = some Ls') (hp : pc + 2 = pc') (q : Go wd l R Z y bytes maxL ret n0 K N Q h cells slots pc' Ls' st) : Go wd l R Z y bytes maxL ret n0 K N Q h cells slots pc Ls (.int v :: st) := by
  subst hp; exact Go.of q fun p e s m args below meth c T locs O X eT t hr => XS.istore X.here O.1 rfl (hb O.2.1 hd) rfl hl hr
theorem Go.istoreN {k : Fin 4} {v : Int32} (hd : decode bytes pc = .ok (.istore_n k, 1)) (hl : storeLocals Ls k.val (.int v) = some Ls') (hp : pc + 1 = pc') (q : Go wd l R Z y bytes maxL ret n0 K N Q h cells slots pc' Ls' st) : Go wd l R Z y bytes maxL ret n0 K N Q h cells slots pc Ls (.int v :: st) := by
  subst hp; exact Go.of q fun p e s m args below meth c T locs O X eT t hr => XS.istoreN X.here O.1 rfl (hb O.2.1 hd) rfl hl hr
theorem Go.lstore {k : Nat} {v : Int64} (hd : decode bytes pc = .ok (.lstore k, 2)) (hl : storeLocals Ls k (.long v) = some Ls') (hp : pc + 2 = pc') (q : Go wd l R Z y bytes maxL ret n0 K N Q h cells slots pc' Ls' st) : Go wd l R Z y bytes maxL ret n0 K N Q h cells slots pc Ls (.long v :: st) := by
  subst hp; exact Go.of q fun p e s m args below meth c T locs O X eT t hr => XS.lstore X.here O.1 rfl (hb O.2.1 hd) rfl hl hr
theorem Go.lstoreN {k : Fin 4} {v : Int64} (hd : decode bytes pc = .ok (.lstore_n k, 1)) (hl : storeLocals Ls k.val (.long v) = some Ls') (hp : pc + 1 = pc') (q : Go wd l R Z y bytes maxL ret n0 K N Q h cells slots pc' Ls' st) : Go wd l R Z y bytes maxL ret n0 K N Q h cells slots pc Ls (.long v :: st) := by
  subst hp; exact Go.of q fun p e s m args below meth c T locs O X eT t hr => XS.lstoreN X.here O.1 rfl (hb O.2.1 hd) rfl hl hr
theorem Go.astore {k : Nat} {v : Value} (hd : decode bytes pc = .ok (.astore k, 2)) (hv : v.isRef = true) (hl : storeLocals Ls k v = some Ls') (hp : pc + 2 = pc') (q : Go wd l R Z y bytes maxL ret n0 K N Q h cells slots pc' Ls' st) : Go wd l R Z y bytes maxL ret n0 K N Q h cells slots pc Ls (v :: st) := by
  subst hp; exact Go.of q fun p e s m args below meth c T locs O X eT t hr => XS.astore X.here O.1 rfl (hb O.2.1 hd) rfl hv hl hr
theorem Go.astoreN {k : Fin 4} {v : Value} (hd : decode bytes pc = .ok (.astore_n k, 1)) (hv : v.isRef = true) (hl : storeLocals Ls k.val v = some Ls') (hp : pc + 1 = pc') (q : Go wd l R Z y bytes maxL ret n0 K N Q h cells slots pc' Ls' st) : Go wd l R Z y bytes maxL ret n0 K N Q h cells slots pc Ls (v :: st) := by
  subst hp; exact Go.of q fun p e s m args below meth c T locs O X eT t hr => XS.astoreN X.here O.1 rfl (hb O.2.1 hd) rfl hv hl hr
theorem Go.iinc {k : Nat} {cst : Int} {v w : Int32} (hd : decode bytes pc = .ok (.iinc k cst, 3)) (hl : Ls[k]? = some (.val (.int v))) (hw : v + Int32.ofInt cst = w) (hl' : storeLocals Ls k (.int w) = some Ls') (hp : pc + 3 = pc') (q : Go wd l R Z y bytes maxL ret n0 K N Q h cells slots pc' Ls' st) : Go wd l R Z y bytes maxL ret n0 K N Q h cells slots pc Ls st := by
  subst hp hw; exact Go.of q fun p e s m args below meth c T locs O X eT t hr => XS.iinc X.here O.1 rfl (hb O.2.1 hd) hl hl' hr
theorem Go.iconst {i : Int} {v : Int32} (hd : decode bytes pc = .ok (.iconst i, 1)) (hv : Int32.ofInt i = v) (hp : pc + 1 = pc') (q : Go wd l R Z y bytes maxL ret n0 K N Q h cells slots pc' Ls (.int v :: st)) : Go wd l R Z y bytes maxL ret n0 K N Q h cells slots pc Ls st := by
  subst hp hv; exact Go.of q fun p e s m args below meth c T locs O X eT t hr => XS.iconst X.here O.1 rfl (hb O.2.1 hd) hr
theorem Go.bipush {i : Int} {v : Int32} (hd : decode bytes pc = .ok (.bipush i, 2)) (hv : (Int8.ofInt i).toInt32 = v) (hp : pc + 2 = pc') (q : Go wd l R Z y bytes maxL ret n0 K N Q h cells slots pc' Ls (.int v :: st)) : Go wd l R Z y bytes maxL ret n0 K N Q h cells slots pc Ls st := by
  subst hp hv; exact Go.of q fun p e s m args below meth c T locs O X eT t hr => XS.bipush X.here O.1 rfl (hb O.2.1 hd) hr
theorem Go.sipush {i : Int} {v : Int32} (hd : decode bytes pc = .ok (.sipush i, 3)) (hv : (Int16.ofInt i).toInt32 = v) (hp : pc + 3 = pc') (q : Go wd l R Z y bytes maxL ret n0 K N Q h cells slots pc' Ls (.int v :: st)) : Go wd l R Z y bytes maxL ret n0 K N Q h cells slots pc Ls st := by
  subst hp hv; exact Go.of q fun p e s m args below meth c T locs O X eT t hr => XS.sipush X.here O.1 rfl (hb O.2.1 hd) hr
theorem Go.lconst {k : Fin 2} {v : Int64} (hd : decode bytes pc = .ok (.lconst k, 1)) (hv : Int64.ofNat k = v) (hp : pc + 1 = pc') (q : Go wd l R Z y bytes maxL ret n0 K N Q h cells slots pc' Ls (.long v :: st)) : Go wd l R Z y bytes maxL ret n0 K N Q h cells slots pc Ls st := by
  subst hp hv; exact Go.of q fun p e s m args below meth c T locs O X eT t hr => XS.lconst X.here O.1 rfl (hb O.2.1 hd) hr
theorem Go.aconstNull (hd : decode bytes pc = .ok (.aconst_null, 1)) (hp : pc + 1 = pc') (q : Go wd l R Z y bytes maxL ret n0 K N Q h cells slots pc' Ls (.null :: st)) : Go wd l R Z y bytes maxL ret n0 K N Q h cells slots pc Ls st := by
  subst hp; exact Go.of q fun p e s m args below meth c T locs O X eT t hr => XS.aconstNull X.here O.1 rfl (hb O.2.1 hd) hr
theorem Go.dup {v : Value} (hd : decode bytes pc = .ok (.dup, 1)) (hv : v.category = 1) (hp : pc + 1 = pc') (q : Go wd l R Z y bytes maxL ret n0 K N Q h cells slots pc' Ls (v :: v :: st)) : Go wd l R Z y bytes maxL ret n0 K N Q h cells slots pc Ls (v :: st) := by
  subst hp; exact Go.of q fun p e s m args below meth c T locs O X eT t hr => XS.dup X.here O.1 rfl (hb O.2.1 hd) rfl hv hr
theorem Go.dupX1 {v w : Value} (hd : decode bytes pc = .ok (.dup_x1, 1)) (hv : v.category = 1) (hw : w.category = 1) (hp : pc + 1 = pc') (q : Go wd l R Z y bytes maxL ret n0 K N Q h cells slots pc' Ls (v :: w :: v :: st)) : Go wd l R Z y bytes maxL ret n0 K N Q h cells slots pc Ls (v :: w :: st) := by
  subst hp; exact Go.of q fun p e s m args below meth c T locs O X eT t hr => XS.dupX1 X.here O.1 rfl (hb O.2.1 hd) rfl hv hw hr
theorem Go.dup2 {v w : Value} (hd : decode bytes pc = .ok (.dup2, 1)) (hv : v.category = 1) (hw : w.category = 1) (hp : pc + 1 = pc') (q : Go wd l R Z y bytes maxL ret n0 K N Q h cells slots pc' Ls (v :: w :: v :: w :: st)) : Go wd l R Z y bytes maxL ret n0 K N Q h cells slots pc Ls (v :: w :: st) := by
  subst hp; exact Go.of q fun p e s m args below meth c T locs O X eT t hr => XT.dup2 X.here O.1 rfl (hb O.2.1 hd) rfl hv hw hr
theorem Go.pop {v : Value} (hd : decode bytes pc = .ok (.pop, 1)) (hv : v.category = 1) (hp : pc + 1 = pc') (q : Go wd l R Z y bytes maxL ret n0 K N Q h cells slots pc' Ls st) : Go wd l R Z y bytes maxL ret n0 K N Q h cells slots pc Ls (v :: st) := by
  subst hp; exact Go.of q fun p e s m args below meth c T locs O X eT t hr => XS.pop X.here O.1 rfl (hb O.2.1 hd) rfl hv hr
theorem Go.goto {o : Int} (hd : decode bytes pc = .ok (.goto o, 3)) (ho : 0 ≤ (pc : Int) + o) (hp : ((pc : Int) + o).toNat = pc') (q : Go wd l R Z y bytes maxL ret n0 K N Q h cells slots pc' Ls st) : Go wd l R Z y bytes maxL ret n0 K N Q h cells slots pc Ls st :=
  Go.of q fun p e s m args below meth c T locs O X eT t hr => XS.goto X.here O.1 rfl (pc0 := pc) rfl (hb O.2.1 hd) ho hp hr
theorem Go.iadd {a : Int32} {b : Int32} (hd : decode bytes pc = .ok (.iadd, 1)) (hp : pc + 1 = pc') (q : Go wd l R Z y bytes maxL ret n0 K N Q h cells slots pc' Ls (.int (a + b) :: st)) : Go wd l R Z y bytes maxL ret n0 K N Q h cells slots pc Ls (.int b :: .int a :: st) := by
  subst hp; exact Go.of q fun p e s m args below meth c T locs O X eT t hr => XS.iadd X.here O.1 rfl (hb O.2.1 hd) rfl hr
theorem Go.isub {a : Int32} {b : Int32} (hd : decode bytes pc = .ok (.isub, 1)) (hp : pc + 1 = pc') (q : Go wd l R Z y bytes maxL ret n0 K N Q h cells slots pc' Ls (.int (a - b) :: st)) : Go wd l R Z y bytes maxL ret n0 K N Q h cells slots pc Ls (.int b :: .int a :: st) := by
  subst hp; exact Go.of q fun p e s m args below meth c T locs O X eT t hr => XS.isub X.here O.1 rfl (hb O.2.1 hd) rfl hr
theorem Go.imul {a : Int32} {b : Int32} (hd : decode bytes pc = .ok (.imul, 1)) (hp : pc + 1 = pc') (q : Go wd l R Z y bytes maxL ret n0 K N Q h cells slots pc' Ls (.int (a * b) :: st)) : Go wd l R Z y bytes maxL ret n0 K N Q h cells slots pc Ls (.int b :: .int a :: st) := by
  subst hp; exact Go.of q fun p e s m args below meth c T locs O X eT t hr => XS.imul X.here O.1 rfl (hb O.2.1 hd) rfl hr
theorem Go.iand {a : Int32} {b : Int32} (hd : decode bytes pc = .ok (.iand, 1)) (hp : pc + 1 = pc') (q : Go wd l R Z y bytes maxL ret n0 K N Q h cells slots pc' Ls (.int (a &&& b) :: st)) : Go wd l R Z y bytes maxL ret n0 K N Q h cells slots pc Ls (.int b :: .int a :: st) := by
  subst hp; exact Go.of q fun p e s m args below meth c T locs O X eT t hr => XS.iand X.here O.1 rfl (hb O.2.1 hd) rfl hr
theorem Go.ior {a : Int32} {b : Int32} (hd : decode bytes pc = .ok (.ior, 1)) (hp : pc + 1 = pc') (q : Go wd l R Z y bytes maxL ret n0 K N Q h cells slots pc' Ls (.int (a ||| b) :: st)) : Go wd l R Z y bytes maxL ret n0 K N Q h cells slots pc Ls (.int b :: .int a :: st) := by
  subst hp; exact Go.of q fun p e s m args below meth c T locs O X eT t hr => XS.ior X.here O.1 rfl (hb O.2.1 hd) rfl hr
theorem Go.ixor {a : Int32} {b : Int32} (hd : decode bytes pc = .ok (.ixor, 1)) (hp : pc + 1 = pc') (q : Go wd l R Z y bytes maxL ret n0 K N Q h cells slots pc' Ls (.int (a ^^^ b) :: st)) : Go wd l R Z y bytes maxL ret n0 K N Q h cells slots pc Ls (.int b :: .int a :: st) := by
  subst hp; exact Go.of q fun p e s m args below meth c T locs O X eT t hr => XS.ixor X.here O.1 rfl (hb O.2.1 hd) rfl hr
theorem Go.ishl {a : Int32} {b : Int32} (hd : decode bytes pc = .ok (.ishl, 1)) (hp : pc + 1 = pc') (q : Go wd l R Z y bytes maxL ret n0 K N Q h cells slots pc' Ls (.int (a <<< (b &&& 31)) :: st)) : Go wd l R Z y bytes maxL ret n0 K N Q h cells slots pc Ls (.int b :: .int a :: st) := by
  subst hp; exact Go.of q fun p e s m args below meth c T locs O X eT t hr => XS.ishl X.here O.1 rfl (hb O.2.1 hd) rfl hr
theorem Go.ishr {a : Int32} {b : Int32} (hd : decode bytes pc = .ok (.ishr, 1)) (hp : pc + 1 = pc') (q : Go wd l R Z y bytes maxL ret n0 K N Q h cells slots pc' Ls (.int (a >>> (b &&& 31)) :: st)) : Go wd l R Z y bytes maxL ret n0 K N Q h cells slots pc Ls (.int b :: .int a :: st) := by
  subst hp; exact Go.of q fun p e s m args below meth c T locs O X eT t hr => XS.ishr X.here O.1 rfl (hb O.2.1 hd) rfl hr
theorem Go.iushr {a : Int32} {b : Int32} (hd : decode bytes pc = .ok (.iushr, 1)) (hp : pc + 1 = pc') (q : Go wd l R Z y bytes maxL ret n0 K N Q h cells slots pc' Ls (.int ((a.toUInt32 >>> (b &&& 31).toUInt32).toInt32) :: st)) : Go wd l R Z y bytes maxL ret n0 K N Q h cells slots pc Ls (.int b :: .int a :: st) := by
  subst hp; exact Go.of q fun p e s m args below meth c T locs O X eT t hr => XS.iushr X.here O.1 rfl (hb O.2.1 hd) rfl hr
theorem Go.idiv {a : Int32} {b : Int32} (hd : decode bytes pc = .ok (.idiv, 1)) (hy : b ≠ 0) (hp : pc + 1 = pc') (q : Go wd l R Z y bytes maxL ret n0 K N Q h cells slots pc' Ls (.int (a / b) :: st)) : Go wd l R Z y bytes maxL ret n0 K N Q h cells slots pc Ls (.int b :: .int a :: st) := by
  subst hp; exact Go.of q fun p e s m args below meth c T locs O X eT t hr => XS.idiv X.here O.1 rfl (hb O.2.1 hd) rfl hy hr
theorem Go.ladd {a : Int64} {b : Int64} (hd : decode bytes pc = .ok (.ladd, 1)) (hp : pc + 1 = pc') (q : Go wd l R Z y bytes maxL ret n0 K N Q h cells slots pc' Ls (.long (a + b) :: st)) : Go wd l R Z y bytes maxL ret n0 K N Q h cells slots pc Ls (.long b :: .long a :: st) := by
  subst hp; exact Go.of q fun p e s m args below meth c T locs O X eT t hr => XS.ladd X.here O.1 rfl (hb O.2.1 hd) rfl hr
theorem Go.lsub {a : Int64} {b : Int64} (hd : decode bytes pc = .ok (.lsub, 1)) (hp : pc + 1 = pc') (q : Go wd l R Z y bytes maxL ret n0 K N Q h cells slots pc' Ls (.long (a - b) :: st)) : Go wd l R Z y bytes maxL ret n0 K N Q h cells slots pc Ls (.long b :: .long a :: st) := by
  subst hp; exact Go.of q fun p e s m args below meth c T locs O X eT t hr => XS.lsub X.here O.1 rfl (hb O.2.1 hd) rfl hr
theorem Go.lmul {a : Int64} {b : Int64} (hd : decode bytes pc = .ok (.lmul, 1)) (hp : pc + 1 = pc') (q : Go wd l R Z y bytes maxL ret n0 K N Q h cells slots pc' Ls (.long (a * b) :: st)) : Go wd l R Z y bytes maxL ret n0 K N Q h cells slots pc Ls (.long b :: .long a :: st) := by
  subst hp; exact Go.of q fun p e s m args below meth c T locs O X eT t hr => XS.lmul X.here O.1 rfl (hb O.2.1 hd) rfl hr
theorem Go.land {a : Int64} {b : Int64} (hd : decode bytes pc = .ok (.land, 1)) (hp : pc + 1 = pc') (q : Go wd l R Z y bytes maxL ret n0 K N Q h cells slots pc' Ls (.long (a &&& b) :: st)) : Go wd l R Z y bytes maxL ret n0 K N Q h cells slots pc Ls (.long b :: .long a :: st) := by
  subst hp; exact Go.of q fun p e s m args below meth c T locs O X eT t hr => XS.land X.here O.1 rfl (hb O.2.1 hd) rfl hr
theorem Go.lor {a : Int64} {b : Int64} (hd : decode bytes pc = .ok (.lor, 1)) (hp : pc + 1 = pc') (q : Go wd l R Z y bytes maxL ret n0 K N Q h cells slots pc' Ls (.long (a ||| b) :: st)) : Go wd l R Z y bytes maxL ret n0 K N Q h cells slots pc Ls (.long b :: .long a :: st) := by
  subst hp; exact Go.of q fun p e s m args below meth c T locs O X eT t hr => XS.lor X.here O.1 rfl (hb O.2.1 hd) rfl hr
theorem Go.lxor {a : Int64} {b : Int64} (hd : decode bytes pc = .ok (.lxor, 1)) (hp : pc + 1 = pc') (q : Go wd l R Z y bytes maxL ret n0 K N Q h cells slots pc' Ls (.long (a ^^^ b) :: st)) : Go wd l R Z y bytes maxL ret n0 K N Q h cells slots pc Ls (.long b :: .long a :: st) := by
  subst hp; exact Go.of q fun p e s m args below meth c T locs O X eT t hr => XS.lxor X.here O.1 rfl (hb O.2.1 hd) rfl hr
theorem Go.lshl {a : Int64} {b : Int32} (hd : decode bytes pc = .ok (.lshl, 1)) (hp : pc + 1 = pc') (q : Go wd l R Z y bytes maxL ret n0 K N Q h cells slots pc' Ls (.long (a <<< (b &&& 0x3f).toInt64) :: st)) : Go wd l R Z y bytes maxL ret n0 K N Q h cells slots pc Ls (.int b :: .long a :: st) := by
  subst hp; exact Go.of q fun p e s m args below meth c T locs O X eT t hr => XS.lshl X.here O.1 rfl (hb O.2.1 hd) rfl hr
theorem Go.lshr {a : Int64} {b : Int32} (hd : decode bytes pc = .ok (.lshr, 1)) (hp : pc + 1 = pc') (q : Go wd l R Z y bytes maxL ret n0 K N Q h cells slots pc' Ls (.long (a >>> (b &&& 0x3f).toInt64) :: st)) : Go wd l R Z y bytes maxL ret n0 K N Q h cells slots pc Ls (.int b :: .long a :: st) := by
  subst hp; exact Go.of q fun p e s m args below meth c T locs O X eT t hr => XS.lshr X.here O.1 rfl (hb O.2.1 hd) rfl hr
theorem Go.lushr {a : Int64} {b : Int32} (hd : decode bytes pc = .ok (.lushr, 1)) (hp : pc + 1 = pc') (q : Go wd l R Z y bytes maxL ret n0 K N Q h cells slots pc' Ls (.long ((a.toUInt64 >>> (b &&& 0x3f).toInt64.toUInt64).toInt64) :: st)) : Go wd l R Z y bytes maxL ret n0 K N Q h cells slots pc Ls (.int b :: .long a :: st) := by
  subst hp; exact Go.of q fun p e s m args below meth c T locs O X eT t hr => XS.lushr X.here O.1 rfl (hb O.2.1 hd) rfl hr
theorem Go.ldiv {a : Int64} {b : Int64} (hd : decode bytes pc = .ok (.ldiv, 1)) (hy : b ≠ 0) (hp : pc + 1 = pc') (q : Go wd l R Z y bytes maxL ret n0 K N Q h cells slots pc' Ls (.long (a / b) :: st)) : Go wd l R Z y bytes maxL ret n0 K N Q h cells slots pc Ls (.long b :: .long a :: st) := by
  subst hp; exact Go.of q fun p e s m args below meth c T locs O X eT t hr => XS.ldiv X.here O.1 rfl (hb O.2.1 hd) rfl hy hr
theorem Go.i2b {a : Int32} (hd : decode bytes pc = .ok (.i2b, 1)) (hp : pc + 1 = pc') (q : Go wd l R Z y bytes maxL ret n0 K N Q h cells slots pc' Ls (.int (a.toInt8.toInt32) :: st)) : Go wd l R Z y bytes maxL ret n0 K N Q h cells slots pc Ls (.int a :: st) := by
  subst hp; exact Go.of q fun p e s m args below meth c T locs O X eT t hr => XS.i2b X.here O.1 rfl (hb O.2.1 hd) rfl hr
theorem Go.i2c {a : Int32} (hd : decode bytes pc = .ok (.i2c, 1)) (hp : pc + 1 = pc') (q : Go wd l R Z y bytes maxL ret n0 K N Q h cells slots pc' Ls (.int (a.toUInt32.toUInt16.toUInt32.toInt32) :: st)) : Go wd l R Z y bytes maxL ret n0 K N Q h cells slots pc Ls (.int a :: st) := by
  subst hp; exact Go.of q fun p e s m args below meth c T locs O X eT t hr => XS.i2c X.here O.1 rfl (hb O.2.1 hd) rfl hr
theorem Go.i2s {a : Int32} (hd : decode bytes pc = .ok (.i2s, 1)) (hp : pc + 1 = pc') (q : Go wd l R Z y bytes maxL ret n0 K N Q h cells slots pc' Ls (.int (a.toInt16.toInt32) :: st)) : Go wd l R Z y bytes maxL ret n0 K N Q h cells slots pc Ls (.int a :: st) := by
  subst hp; exact Go.of q fun p e s m args below meth c T locs O X eT t hr => XS.i2s X.here O.1 rfl (hb O.2.1 hd) rfl hr
theorem Go.i2l {a : Int32} (hd : decode bytes pc = .ok (.i2l, 1)) (hp : pc + 1 = pc') (q : Go wd l R Z y bytes maxL ret n0 K N Q h cells slots pc' Ls (.long (a.toInt64) :: st)) : Go wd l R Z y bytes maxL ret n0 K N Q h cells slots pc Ls (.int a :: st) := by
  subst hp; exact Go.of q fun p e s m args below meth c T locs O X eT t hr => XS.i2l X.here O.1 rfl (hb O.2.1 hd) rfl hr
theorem Go.l2i {a : Int64} (hd : decode bytes pc = .ok (.l2i, 1)) (hp : pc + 1 = pc') (q : Go wd l R Z y bytes maxL ret n0 K N Q h cells slots pc' Ls (.int (a.toInt32) :: st)) : Go wd l R Z y bytes maxL ret n0 K N Q h cells slots pc Ls (.long a :: st) := by
  subst hp; exact Go.of q fun p e s m args below meth c T locs O X eT t hr => XS.l2i X.here O.1 rfl (hb O.2.1 hd) rfl hr
theorem Go.lneg {a : Int64} (hd : decode bytes pc = .ok (.lneg, 1)) (hp : pc + 1 = pc') (q : Go wd l R Z y bytes maxL ret n0 K N Q h cells slots pc' Ls (.long (-a) :: st)) : Go wd l R Z y bytes maxL ret n0 K N Q h cells slots pc Ls (.long a :: st) := by
  subst hp; exact Go.of q fun p e s m args below meth c T locs O X eT t hr => XS.lneg X.here O.1 rfl (hb O.2.1 hd) rfl hr
theorem Go.ineg {a : Int32} (hd : decode bytes pc = .ok (.ineg, 1)) (hp : pc + 1 = pc') (q : Go wd l R Z y bytes maxL ret n0 K N Q h cells slots pc' Ls (.int (-a) :: st)) : Go wd l R Z y bytes maxL ret n0 K N Q h cells slots pc Ls (.int a :: st) := by
  subst hp; exact Go.of q fun p e s m args below meth c T locs O X eT t hr => XS.ineg X.here O.1 rfl (hb O.2.1 hd) rfl hr
theorem Go.irem {a b : Int32} (hd : decode bytes pc = .ok (.irem, 1)) (hy : b ≠ 0) (hp : pc + 1 = pc') (q : Go wd l R Z y bytes maxL ret n0 K N Q h cells slots pc' Ls (.int (a % b) :: st)) : Go wd l R Z y bytes maxL ret n0 K N Q h cells slots pc Ls (.int b :: .int a :: st) := by
  subst hp; exact Go.of q fun p e s m args below meth c T locs O X eT t hr => iremM X O.1 rfl (hb O.2.1 hd) rfl hy hr
theorem Go.lrem {a b : Int64} (hd : decode bytes pc = .ok (.lrem, 1)) (hy : b ≠ 0) (hp : pc + 1 = pc') (q : Go wd l R Z y bytes maxL ret n0 K N Q h cells slots pc' Ls (.long (a % b) :: st)) : Go wd l R Z y bytes maxL ret n0 K N Q h cells slots pc Ls (.long b :: .long a :: st) := by
  subst hp; rw [← lrem_mod] at q; exact Go.of q fun p e s m args below meth c T locs O X eT t hr => XS.lrem X.here O.1 rfl (hb O.2.1 hd) rfl hy hr
theorem c_lremM (x y : Int64) (d : Int) (hy : y.toInt = d) : (0 ≤ x.toInt → (x % y).toInt = x.toInt % d) ∧ (x.toInt < 0 → (x % y).toInt = -((-x.toInt) % d)) := by rw [Int64.toInt_mod, hy]; exact tr _ _
/-! branches -/
def jc : ClassFile.Cond → Int32 → Int32 → Prop
  | .eq, x, y => x.toInt = y.toInt
  | .ne, x, y => x.toInt ≠ y.toInt
  | .lt, x, y => x.toInt < y.toInt
  | .ge, x, y => y.toInt ≤ x.toInt
  | .gt, x, y => y.toInt < x.toInt
  | .le, x, y => x.toInt ≤ y.toInt
def jn : ClassFile.Cond → Int32 → Int32 → Prop
  | .eq, x, y => x.toInt ≠ y.toInt
  | .ne, x, y => x.toInt = y.toInt
  | .lt, x, y => y.toInt ≤ x.toInt
  | .ge, x, y => x.toInt < y.toInt
  | .gt, x, y => x.toInt ≤ y.toInt
  | .le, x, y => y.toInt < x.toInt
def zc : ClassFile.Cond → Int32 → Prop
  | .eq, x => x.toInt = 0
  | .ne, x => x.toInt ≠ 0
  | .lt, x => x.toInt < 0
  | .ge, x => 0 ≤ x.toInt
  | .gt, x => 0 < x.toInt
  | .le, x => x.toInt ≤ 0
def zn : ClassFile.Cond → Int32 → Prop
  | .eq, x => x.toInt ≠ 0
  | .ne, x => x.toInt = 0
  | .lt, x => 0 ≤ x.toInt
  | .ge, x => x.toInt < 0
  | .gt, x => x.toInt ≤ 0
  | .le, x => 0 < x.toInt
def wc : ClassFile.Cond → Int64 → Int64 → Prop
  | .eq, x, y => x.toInt = y.toInt
  | .ne, x, y => x.toInt ≠ y.toInt
  | .lt, x, y => x.toInt < y.toInt
  | .ge, x, y => y.toInt ≤ x.toInt
  | .gt, x, y => y.toInt < x.toInt
  | .le, x, y => x.toInt ≤ y.toInt
def wn : ClassFile.Cond → Int64 → Int64 → Prop
  | .eq, x, y => x.toInt ≠ y.toInt
  | .ne, x, y => x.toInt = y.toInt
  | .lt, x, y => y.toInt ≤ x.toInt
  | .ge, x, y => x.toInt < y.toInt
  | .gt, x, y => x.toInt ≤ y.toInt
  | .le, x, y => y.toInt < x.toInt
theorem jc_or (cd : ClassFile.Cond) (x y : Int32) : (if_icmp.holds cd x y = true ∧ jc cd x y) ∨ (if_icmp.holds cd x y = false ∧ jn cd x y) := by
  have i : x = y ↔ x.toInt = y.toInt := Int32.toInt_inj.symm
  cases cd <;> simp only [if_icmp.holds, jc, jn, beq_iff_eq, bne_iff_ne, beq_eq_false_iff_ne, bne_eq_false_iff_eq, decide_eq_true_eq, decide_eq_false_iff_not, Int32.lt_iff_toInt_lt, Int32.le_iff_toInt_le, ge_iff_le, gt_iff_lt, ne_eq, i] <;> omega
theorem zc_or (cd : ClassFile.Cond) (x : Int32) : (ifCond.holds cd x = true ∧ zc cd x) ∨ (ifCond.holds cd x = false ∧ zn cd x) := by
  have z : (0 : Int32).toInt = 0 := rfl
  rcases jc_or cd x 0 with ⟨q, r⟩ | ⟨q, r⟩
  · left; rw [if0]; refine ⟨q, ?_⟩; cases cd <;> simp only [jc, zc, z] at r ⊢ <;> exact r
  · right; rw [if0]; refine ⟨q, ?_⟩; cases cd <;> simp only [jn, zn, z] at r ⊢ <;> exact r
theorem wc_or (cd : ClassFile.Cond) (x y : Int64) : (ifCond.holds cd (lcmpW x y) = true ∧ wc cd x y) ∨ (ifCond.holds cd (lcmpW x y) = false ∧ wn cd x y) := by
  have e := c_lcmp x y
  rcases zc_or cd (lcmpW x y) with ⟨q, r⟩ | ⟨q, r⟩
  · left; refine ⟨q, ?_⟩; cases cd <;> simp only [zc, wc, ne_eq] at r ⊢ <;> omega
  · right; refine ⟨q, ?_⟩; cases cd <;> simp only [zn, wn, ne_eq] at r ⊢ <;> omega
theorem Go.icmp {cd : ClassFile.Cond} {o : Int} {x z : Int32} {pc1 pc2 : Nat} (hd : decode bytes pc = .ok (.if_icmp cd o, 3)) (ho : 0 ≤ (pc : Int) + o) (hp : ((pc : Int) + o).toNat = pc1) (hp2 : pc + 3 = pc2)
    (q1 : jc cd x z → Go wd l R Z y bytes maxL ret n0 K N Q h cells slots pc1 Ls st) (q2 : jn cd x z → Go wd l R Z y bytes maxL ret n0 K N Q h cells slots pc2 Ls st) : Go wd l R Z y bytes maxL ret n0 K N Q h cells slots pc Ls (.int z :: .int x :: st) := by
  rcases jc_or cd x z with ⟨hc, r⟩ | ⟨hc, r⟩
  · exact Go.of (q1 r) fun p e s m args below meth c T locs O X eT t hr => XS.icmpYes X.here O.1 rfl (pc0 := pc) rfl (hb O.2.1 hd) rfl hc ho hp hr
  · subst hp2; exact Go.of (q2 r) fun p e s m args below meth c T locs O X eT t hr => XS.icmpNo X.here O.1 rfl (hb O.2.1 hd) rfl hc hr
theorem Go.ifc {cd : ClassFile.Cond} {o : Int} {x : Int32} {pc1 pc2 : Nat} (hd : decode bytes pc = .ok (.ifCond cd o, 3)) (ho : 0 ≤ (pc : Int) + o) (hp : ((pc : Int) + o).toNat = pc1) (hp2 : pc + 3 = pc2)
    (q1 : zc cd x → Go wd l R Z y bytes maxL ret n0 K N Q h cells slots pc1 Ls st) (q2 : zn cd x → Go wd l R Z y bytes maxL ret n0 K N Q h cells slots pc2 Ls st) : Go wd l R Z y bytes maxL ret n0 K N Q h cells slots pc Ls (.int x :: st) := by
  rcases zc_or cd x with ⟨hc, r⟩ | ⟨hc, r⟩
  · exact Go.of (q1 r) fun p e s m args below meth c T locs O X eT t hr => XS.ifYes X.here O.1 rfl (pc0 := pc) rfl (hb O.2.1 hd) rfl hc ho hp hr
  · subst hp2; exact Go.of (q2 r) fun p e s m args below meth c T locs O X eT t hr => XS.ifNo X.here O.1 rfl (hb O.2.1 hd) rfl hc hr
theorem Go.lcmp {a b : Int64} (hd : decode bytes pc = .ok (.lcmp, 1)) (hp : pc + 1 = pc') (q : Go wd l R Z y bytes maxL ret n0 K N Q h cells slots pc' Ls (.int (lcmpW a b) :: st)) : Go wd l R Z y bytes maxL ret n0 K N Q h cells slots pc Ls (.long b :: .long a :: st) := by
  subst hp; exact Go.of q fun p e s m args below meth c T locs O X eT t hr => XS.lcmp X.here O.1 rfl (hb O.2.1 hd) rfl hr
theorem Go.ifw {cd : ClassFile.Cond} {o : Int} {a b : Int64} {pc1 pc2 : Nat} (hd : decode bytes pc = .ok (.ifCond cd o, 3)) (ho : 0 ≤ (pc : Int) + o) (hp : ((pc : Int) + o).toNat = pc1) (hp2 : pc + 3 = pc2)
    (q1 : wc cd a b → Go wd l R Z y bytes maxL ret n0 K N Q h cells slots pc1 Ls st) (q2 : wn cd a b → Go wd l R Z y bytes maxL ret n0 K N Q h cells slots pc2 Ls st) : Go wd l R Z y bytes maxL ret n0 K N Q h cells slots pc Ls (.int (lcmpW a b) :: st) := by
  rcases wc_or cd a b with ⟨hc, r⟩ | ⟨hc, r⟩
  · exact Go.of (q1 r) fun p e s m args below meth c T locs O X eT t hr => XS.ifYes X.here O.1 rfl (pc0 := pc) rfl (hb O.2.1 hd) rfl hc ho hp hr
  · subst hp2; exact Go.of (q2 r) fun p e s m args below meth c T locs O X eT t hr => XS.ifNo X.here O.1 rfl (hb O.2.1 hd) rfl hc hr
theorem Go.nonnullYes {o : Int} {a : Addr} (hd : decode bytes pc = .ok (.ifnonnull o, 3)) (ho : 0 ≤ (pc : Int) + o) (hp : ((pc : Int) + o).toNat = pc') (q : Go wd l R Z y bytes maxL ret n0 K N Q h cells slots pc' Ls st) : Go wd l R Z y bytes maxL ret n0 K N Q h cells slots pc Ls (.ref a :: st) :=
  Go.of q fun p e s m args below meth c T locs O X eT t hr => XS.ifnonnullYes X.here O.1 rfl (pc0 := pc) rfl (hb O.2.1 hd) rfl ho hp hr
theorem Go.nonnullNo {o : Int} (hd : decode bytes pc = .ok (.ifnonnull o, 3)) (hp : pc + 3 = pc') (q : Go wd l R Z y bytes maxL ret n0 K N Q h cells slots pc' Ls st) : Go wd l R Z y bytes maxL ret n0 K N Q h cells slots pc Ls (.null :: st) := by
  subst hp; exact Go.of q fun p e s m args below meth c T locs O X eT t hr => XS.ifnonnullNo X.here O.1 rfl (hb O.2.1 hd) rfl hr
theorem Go.nullYes {o : Int} (hd : decode bytes pc = .ok (.ifnull o, 3)) (ho : 0 ≤ (pc : Int) + o) (hp : ((pc : Int) + o).toNat = pc') (q : Go wd l R Z y bytes maxL ret n0 K N Q h cells slots pc' Ls st) : Go wd l R Z y bytes maxL ret n0 K N Q h cells slots pc Ls (.null :: st) :=
  Go.of q fun p e s m args below meth c T locs O X eT t hr => XS.ifnullYes X.here O.1 rfl (pc0 := pc) rfl (hb O.2.1 hd) rfl ho hp hr
theorem Go.nullNo {o : Int} {a : Addr} (hd : decode bytes pc = .ok (.ifnull o, 3)) (hp : pc + 3 = pc') (q : Go wd l R Z y bytes maxL ret n0 K N Q h cells slots pc' Ls st) : Go wd l R Z y bytes maxL ret n0 K N Q h cells slots pc Ls (.ref a :: st) := by
  subst hp; exact Go.of q fun p e s m args below meth c T locs O X eT t hr => XS.ifnullNo X.here O.1 rfl (hb O.2.1 hd) rfl hr
/-- if_acmp: q1 where they are the same, q2 where they aren't -/
theorem Go.acmp {cd : ACond} {o : Int} {u w : Value} {pc1 pc2 : Nat} (hd : decode bytes pc = .ok (.if_acmp cd o, 3)) (hu : u.isRef = true) (hw : w.isRef = true) (ho : 0 ≤ (pc : Int) + o) (hp : (if acV cd true = true then ((pc : Int) + o).toNat else pc + 3) = pc1) (hp2 : (if acV cd false = true then ((pc : Int) + o).toNat else pc + 3) = pc2)
    (q1 : u = w → Go wd l R Z y bytes maxL ret n0 K N Q h cells slots pc1 Ls st) (q2 : u ≠ w → Go wd l R Z y bytes maxL ret n0 K N Q h cells slots pc2 Ls st) : Go wd l R Z y bytes maxL ret n0 K N Q h cells slots pc Ls (w :: u :: st) := by
  by_cases r : u = w
  · exact Go.of (q1 r) fun p e s m args below meth c T locs O X eT t hr => RoadKit.acmp X O.1 rfl hu hw (pc0 := pc) (same := true) rfl (hb O.2.1 hd) rfl (decide_eq_true r) ho hp.symm hr
  · exact Go.of (q2 r) fun p e s m args below meth c T locs O X eT t hr => RoadKit.acmp X O.1 rfl hu hw (pc0 := pc) (same := false) rfl (hb O.2.1 hd) rfl (decide_eq_false r) ho hp2.symm hr
/-! constants of the pool -/
theorem Go.ldcI {i : Nat} {v : Int32} (w : (Cond.constant y.cls i v).before a0 Z = true) (hd : decode bytes pc = .ok (.ldc i, 2)) (hp : pc + 2 = pc') (q : Go wd l R Z y bytes maxL ret n0 K N Q h cells slots pc' Ls (.int v :: st)) : Go wd l R Z y bytes maxL ret n0 K N Q h cells slots pc Ls st := by
  subst hp; exact Go.of q fun p e s m args below meth c T locs O X eT t hr => X.ldcInt O.1 O.2.2.2.1 (mvT O.2.2.2.2.2.1 w) (g := mkF m pc Ls st) rfl (hb O.2.1 hd) t hr
theorem Go.ldcW {i : Nat} {v : Int32} (w : (Cond.constant y.cls i v).before a0 Z = true) (hd : decode bytes pc = .ok (.ldc_w i, 3)) (hp : pc + 3 = pc') (q : Go wd l R Z y bytes maxL ret n0 K N Q h cells slots pc' Ls (.int v :: st)) : Go wd l R Z y bytes maxL ret n0 K N Q h cells slots pc Ls st := by
  subst hp; exact Go.of q fun p e s m args below meth c T locs O X eT t hr => X.ldcwInt O.1 O.2.2.2.1 (mvT O.2.2.2.2.2.1 w) (g := mkF m pc Ls st) rfl (hb O.2.1 hd) t hr
theorem Go.ldcL {i : Nat} {v : Int64} (w : (Cond.constantLong y.cls i v).before a0 Z = true) (hd : decode bytes pc = .ok (.ldc2_w i, 3)) (hp : pc + 3 = pc') (q : Go wd l R Z y bytes maxL ret n0 K N Q h cells slots pc' Ls (.long v :: st)) : Go wd l R Z y bytes maxL ret n0 K N Q h cells slots pc Ls st := by
  subst hp; exact Go.of q fun p e s m args below meth c T locs O X eT t hr => X.ldc2Long O.1 O.2.2.2.1 (mvT O.2.2.2.2.2.1 w) (g := mkF m pc Ls st) rfl (hb O.2.1 hd) t hr
/-! the ends -/
theorem Go.leave {v : Option Value} (hv : ret = none → v = none) (hQ : Q v h) (hk : cells ≤ K) (hn : slots ≤ N)
    (q : ∀ (p : Program) (e : Env) (s : State) (m : MethodId) (args : Array Value) (below : List Frame) (meth : Method) (c : Code) (T : State) (locs : List Loc) (fs : List Frame), Own Z y bytes maxL ret p s m meth c → Stand p l e R s m args below meth c T locs cells slots →
      (∀ (f : JFrame) (acts : List Action), f.method = m → f.locked = none → f.entered = [] → (doReturn e (T.setTop f) acts v).1 = T.setFrames fs) → Steps p.tables e below (T.setTop (mkF m pc Ls st)) (T.setFrames fs)) : Go wd l R Z y bytes maxL ret n0 K N Q h cells slots pc Ls st := by
  intro p e s0 s m args below meth c T locs hR O X eT F
  obtain ⟨fs, hr, hrun, hended, hW, hsame⟩ := X.leave (v := v) (fun r => hv (by rw [← O.2.2.2.2.2.2.1]; exact r)) O.2.2.2.2.2.2.2
  have hE : GoEnd wd s0 (.returned v) (T.setFrames fs) locs K N := GoRel.ended (U := T.setFrames fs) (by show GoRel wd s0 s T.heap.size; rw [eT]; exact hR) hW hsame hk hn
  refine ⟨_, _, q p e s m args below meth c T locs fs O X hr, hrun, hended, v, locs, rfl, ⟨?_, F⟩, hE⟩
  show Q v T.heap
  rw [eT]; exact hQ
theorem Go.ret0 (hd : decode bytes pc = .ok (.return_, 1)) (hr : ret = none) (hQ : Q none h) (hk : cells ≤ K) (hn : slots ≤ N) : Go wd l R Z y bytes maxL ret n0 K N Q h cells slots pc Ls [] :=
  Go.leave (v := none) (fun _ => rfl) hQ hk hn fun p e s m args below meth c T locs fs O X hl => X.returnOut O.1 (O.2.2.2.2.2.2.1.trans hr) (hb O.2.1 hd) hl
theorem Go.retI {v : Int32} (hd : decode bytes pc = .ok (.ireturn, 1)) (hr : ret = some .int) (hQ : Q (some (.int v)) h) (hk : cells ≤ K) (hn : slots ≤ N) : Go wd l R Z y bytes maxL ret n0 K N Q h cells slots pc Ls (.int v :: st) :=
  Go.leave (v := some (.int v)) (fun r => by rw [hr] at r; cases r) hQ hk hn fun p e s m args below meth c T locs fs O X hl => retOut X O.1 (O.2.2.2.2.2.2.1.trans hr) rfl (Or.inl ⟨rfl, Or.inl rfl, _, rfl⟩) (hb O.2.1 hd) hl
theorem Go.retN {v : Int32} {t : FieldType} (hd : decode bytes pc = .ok (.ireturn, 1)) (hr : ret = some t) (ht : t = .boolean ∨ t = .byte ∨ t = .char ∨ t = .short) (hv : nar t v = v) (hQ : Q (some (.int v)) h) (hk : cells ≤ K) (hn : slots ≤ N) : Go wd l R Z y bytes maxL ret n0 K N Q h cells slots pc Ls (.int v :: st) :=
  Go.leave (v := some (.int v)) (fun r => by rw [hr] at r; cases r) hQ hk hn fun p e s m args below meth c T locs fs O X hl => RoadKit.retN X O.1 (O.2.2.2.2.2.2.1.trans hr) ht (hb O.2.1 hd) (by rw [hv]; exact hl)
theorem Go.retL {v : Int64} (hd : decode bytes pc = .ok (.lreturn, 1)) (hr : ret = some .long) (hQ : Q (some (.long v)) h) (hk : cells ≤ K) (hn : slots ≤ N) : Go wd l R Z y bytes maxL ret n0 K N Q h cells slots pc Ls (.long v :: st) :=
  Go.leave (v := some (.long v)) (fun r => by rw [hr] at r; cases r) hQ hk hn fun p e s m args below meth c T locs fs O X hl => retOut X O.1 (O.2.2.2.2.2.2.1.trans hr) rfl (Or.inr (Or.inl ⟨rfl, rfl, _, rfl⟩)) (hb O.2.1 hd) hl
theorem Go.retA {v : Value} {t : FieldType} (hd : decode bytes pc = .ok (.areturn, 1)) (hr : ret = some t) (ht : t.isReference = true) (hv : v.isRef = true) (hQ : Q (some v) h) (hk : cells ≤ K) (hn : slots ≤ N) : Go wd l R Z y bytes maxL ret n0 K N Q h cells slots pc Ls (v :: st) :=
  Go.leave (v := some v) (fun r => by rw [hr] at r; cases r) hQ hk hn fun p e s m args below meth c T locs fs O X hl => retOut X O.1 (O.2.2.2.2.2.2.1.trans hr) (by cases t <;> first | rfl | (cases ht; done)) (Or.inr (Or.inr (Or.inr (Or.inr ⟨rfl, ht, hv⟩)))) (hb O.2.1 hd) hl
/-! the heap -/
theorem Go.newO {C : String} {i n : Nat} (w1 : (Cond.classLink y.cls i C).before a0 Z = true) (w2 : (Cond.instantiable C n).before a0 Z = true) (w3 : (Cond.initialized C).before a0 Z = true) (hd : decode bytes pc = .ok (.new i, 3)) (hc : cells + 1 ≤ R.cells) (hs : slots + n ≤ R.slots) (hp : pc + 3 = pc')
    (q : ∀ (h' : Heap) (a : Addr), a = h.size → Ext h h' → Exa Z h' a C → (∀ {O nm d : String} {ty : FieldType}, Laid Z a0 C O nm d → parseFieldDescriptor d = some ty → Fld Z h' a O nm d (defaultValue ty)) → Go wd l R Z y bytes maxL ret n0 K N Q h' (cells + 1) (slots + n) pc' Ls (.ref a :: st)) : Go wd l R Z y bytes maxL ret n0 K N Q h cells slots pc Ls st := by
  subst hp
  intro p e s0 s m args below meth c T locs hR O X eT F
  obtain ⟨T2, h2, X2, e2, E2, A2, D2, -, st2⟩ := RoadKit.newO X O.1 O.2.2.2.2.2.1 O.2.2.2.1 w1 w2 w3 eT (g := mkF m pc Ls st) rfl (hb O.2.1 hd) hc hs
  obtain ⟨s₂, o, h1, r⟩ := q h2 _ rfl E2 A2 D2 p e s0 s m args below meth c T2 locs (hR.mono E2.1) O X2 e2 F
  exact ⟨s₂, o, st2 _ h1, r⟩
theorem Go.initO {i W : Nat} {a : Addr} (w1 : (Cond.methodLink y.cls i Lib.objectInit).before a0 Z = true) (w2 : (Cond.instanceMethod Lib.objectInit).before a0 Z = true) (w3 : (Cond.code Lib.objectInit ⟨#[0xb1]⟩ 1 none).before a0 Z = true) (hd : decode bytes pc = .ok (.invokespecial i, 3)) (hz : Ls.size = maxL)
    (hf : 1 ≤ R.frames) (hW : (st.map fun v => v.category).sum ≤ W) (hl : W + 12 ≤ R.locals) (hp : pc + 3 = pc') (q : Go wd l R Z y bytes maxL ret n0 K N Q h cells slots pc' Ls st) : Go wd l R Z y bytes maxL ret n0 K N Q h cells slots pc Ls (.ref a :: st) := by
  subst hp
  intro p e s0 s m args below meth c T locs hR O X eT F
  obtain ⟨T2, X2, e2, st2⟩ := RoadKit.initO X O.1 O.2.2.2.2.2.1 O.2.2.2.1 w1 w2 w3 eT (g := mkF m pc Ls (.ref a :: st)) rfl (hz.trans O.2.2.1.symm) rfl (hb O.2.1 hd) hf (W := W) (by show 2 * 0 + _ ≤ _; omega) hl
  obtain ⟨s₂, o, h1, r⟩ := q p e s0 s m args below meth c T2 locs hR O X2 e2 F
  exact ⟨s₂, o, st2 _ h1, r⟩
theorem Go.getF {C n d : String} {i : Nat} {a : Addr} {v : Value} (w : (Cond.fieldLink y.cls i C n d).before a0 Z = true) (hF : Fld Z h a C n d v) (hd : decode bytes pc = .ok (.getfield i, 3)) (hp : pc + 3 = pc') (q : Go wd l R Z y bytes maxL ret n0 K N Q h cells slots pc' Ls (v :: st)) : Go wd l R Z y bytes maxL ret n0 K N Q h cells slots pc Ls (.ref a :: st) := by
  subst hp
  intro p e s0 s m args below meth c T locs hR O X eT F
  obtain ⟨T2, X2, e2, st2⟩ := RoadKit.getF X O.1 O.2.2.2.2.2.1 O.2.2.2.1 (host := "") (Or.inl w) Via.refl eT hF (g := mkF m pc Ls (.ref a :: st)) rfl rfl (hb O.2.1 hd)
  obtain ⟨s₂, o, h1, r⟩ := q p e s0 s m args below meth c T2 locs hR O X2 e2 F
  exact ⟨s₂, o, st2 _ h1, r⟩
theorem Go.getS {C n d : String} {i : Nat} {v : Value} (w : (Cond.fieldLink y.cls i C n d).before a0 Z = true) (hF : Sta Z h C n d v) (hd : decode bytes pc = .ok (.getstatic i, 3)) (hp : pc + 3 = pc') (q : Go wd l R Z y bytes maxL ret n0 K N Q h cells slots pc' Ls (v :: st)) : Go wd l R Z y bytes maxL ret n0 K N Q h cells slots pc Ls st := by
  subst hp
  intro p e s0 s m args below meth c T locs hR O X eT F
  obtain ⟨T2, X2, e2, st2⟩ := RoadKit.getS2 X O.1 O.2.2.2.2.2.1 O.2.2.2.1 (host := "") (Or.inl w) Via.refl eT hF (g := mkF m pc Ls st) rfl (hb O.2.1 hd)
  obtain ⟨s₂, o, h1, r⟩ := q p e s0 s m args below meth c T2 locs hR O X2 e2 F
  exact ⟨s₂, o, st2 _ h1, r⟩
theorem Go.putF {C n d : String} {i kk : Nat} {ty : FieldType} {a : Addr} {v old : Value} (w : (Cond.fieldLink y.cls i C n d).before a0 Z = true) (hF : Fld Z h a C n d old) (hE : Exa Z h a C) (hL : (Cond.lays C C n d).before a0 Z = true ∨ ((Cond.laysFinal C C n d).before a0 Z = true ∧ y.cls = C ∧ y.name = "<init>")) (wi : (Cond.instantiable C kk).before a0 Z = true)
    (hty : parseFieldDescriptor d = some ty) (hn : narrow ty v = v) (hf : fits ty v = true) (hd : decode bytes pc = .ok (.putfield i, 3)) (ha : n0 ≤ a) (hp : pc + 3 = pc') (q : ∀ h', Wr h h' a (slotOf Z C n d) v → Go wd l R Z y bytes maxL ret n0 K N Q h' cells slots pc' Ls st) : Go wd l R Z y bytes maxL ret n0 K N Q h cells slots pc Ls (v :: .ref a :: st) := by
  subst hp
  intro p e s0 s m args below meth c T locs hR O X eT F
  obtain ⟨T2, h2, X2, e2, W2, st2⟩ := RoadKit.putF X O.1 O.2.2.2.2.2.1 O.2.2.2.1 (host := "") (Or.inl w) Via.refl eT hF hE (hL.imp_right fun r => ⟨r.1, r.2.1, O.2.2.2.2.1.trans r.2.2⟩) wi hty hn hf (g := mkF m pc Ls (v :: .ref a :: st)) rfl rfl (hb O.2.1 hd)
  obtain ⟨s₂, o, h1, r⟩ := q h2 W2 p e s0 s m args below meth c T2 _ (hR.mono (Nat.le_of_eq W2.size.symm)) O X2 e2 (Fr.snoc X2 F ha)
  exact ⟨s₂, o, st2 _ h1, r⟩
/-! facts carried from heap to heap -/
def Sm (h h' : Heap) (a : Addr) : Prop := ∀ c : Cell, h[a]? = some c → h'[a]? = some c
theorem Sm.ext {h h' : Heap} {a : Addr} (E : Ext h h') : Sm h h' a := fun c q => E.2 a c q
theorem Sm.keep {h h' : Heap} {a : Addr} {ws : List Addr} (E : Keep h h' ws) (q : a ∉ ws) : Sm h h' a := fun c r => E.2.1 a c r q
theorem Sm.wr {h h' : Heap} {a b : Addr} {sl : Nat} {v : Value} (W : Wr h h' b sl v) (q : a ≠ b) : Sm h h' a := Sm.keep (Keep.of_wr W) (by simpa using q)
theorem Sm.trans {h h' h'' : Heap} {a : Addr} (A : Sm h h' a) (B : Sm h' h'' a) : Sm h h'' a := fun c r => B c (A c r)
theorem Fld.sm {h h' : Heap} {a : Addr} {C n d : String} {v : Value} (F : Fld Z h a C n d v) (S : Sm h h' a) : Fld Z h' a C n d v := by
  obtain ⟨cell, cf, k, i, f, h1, r⟩ := F; exact ⟨cell, cf, k, i, f, S _ h1, r⟩
theorem Exa.sm {h h' : Heap} {a : Addr} {C : String} (F : Exa Z h a C) (S : Sm h h' a) : Exa Z h' a C := by
  obtain ⟨cell, k, h1, r⟩ := F; exact ⟨cell, k, S _ h1, r⟩
theorem Arr.sm {h h' : Heap} {a : Addr} {c : Cell} {ty : FieldType} (F : Arr Z h a c ty) (S : Sm h h' a) : Arr Z h' a c ty := ⟨S _ F.1, F.2⟩
/-- the array at a holds just these values -/
def Ary (Z : State) (h : Heap) (a : Addr) (ty : FieldType) (vs : List Value) : Prop := ∃ c : Cell, Arr Z h a c ty ∧ c.slots = vs.toArray
theorem Ary.sm {h h' : Heap} {a : Addr} {ty : FieldType} {vs : List Value} (F : Ary Z h a ty vs) (S : Sm h h' a) : Ary Z h' a ty vs := by
  obtain ⟨c, A, r⟩ := F; exact ⟨c, A.sm S, r⟩
theorem Ary.lt {h : Heap} {a : Addr} {ty : FieldType} {vs : List Value} (F : Ary Z h a ty vs) : a < h.size := by
  obtain ⟨c, A, r⟩ := F; exact A.lt
theorem Ary.eq {h : Heap} {a : Addr} {ty : FieldType} {vs vs' : List Value} (F : Ary Z h a ty vs) (q : vs = vs') : Ary Z h a ty vs' := q ▸ F
theorem Ary.set {h h' : Heap} {a : Addr} {ty : FieldType} {vs : List Value} {k : Nat} {v : Value} (F : Ary Z h a ty vs) (W : Wr h h' a k v) : Ary Z h' a ty (vs.set k v) := by
  obtain ⟨c, A, r⟩ := F
  refine ⟨_, A.same W, ?_⟩
  show c.slots.setIfInBounds k v = _
  rw [r]; simp
theorem clamp_of {j : Int32} {k : Nat} (hj : j.toInt = (k : Int)) : j.toNatClampNeg = k := by
  show j.toInt.toNat = k; omega
theorem inb {j : Int32} {k : Nat} {c : Cell} {vs : List Value} (hj : j.toInt = (k : Int)) (hc : c.slots = vs.toArray) (hk : k < vs.length) : ¬ (j < 0 ∨ c.slots.size ≤ j.toNatClampNeg) := by
  have z : (0 : Int32).toInt = 0 := rfl
  rw [clamp_of hj, hc, Int32.lt_iff_toInt_lt, z]; simp; omega
theorem lt_of_get {vs : List Value} {k : Nat} {v : Value} (h : vs[k]? = some v) : k < vs.length := (List.getElem?_eq_some_iff.mp h).1
theorem Go.newA {aty : ArrayType} {n : Int32} {k : Nat} {ty : FieldType} (w : (Cond.arrayClass ty).before a0 Z = true) (hty : newarray.typeOf aty = ty) (hn : n.toInt = (k : Int)) {cap : Nat} (hcap : k ≤ cap) (hb8 : cap * 8 ≤ 536870912) (hd : decode bytes pc = .ok (.newarray aty, 2)) (hc : cells + 1 ≤ R.cells) (hs : slots + cap ≤ R.slots) (hp : pc + 2 = pc')
    (q : ∀ (h' : Heap) (a : Addr), a = h.size → Ext h h' → Ary Z h' a ty (List.replicate k (defaultValue ty)) → Go wd l R Z y bytes maxL ret n0 K N Q h' (cells + 1) (slots + cap) pc' Ls (.ref a :: st)) : Go wd l R Z y bytes maxL ret n0 K N Q h cells slots pc Ls (.int n :: st) := by
  subst hp hty
  intro p e s0 s m args below meth c T locs hR O X eT F
  have z : (0 : Int32).toInt = 0 := rfl
  have hn0 : ¬ n < 0 := by rw [Int32.lt_iff_toInt_lt, z]; omega
  obtain ⟨T2, h2, cA, X2, e2, E2, A2, st2⟩ := RoadKit.newP X O.1 O.2.2.2.2.2.1 w eT (g := mkF m pc Ls (.int n :: st)) rfl (hb O.2.1 hd) rfl hn0 (cap := cap) (by rw [clamp_of hn]; exact hcap) hb8 hc hs
  obtain ⟨s₂, o, h1, r⟩ := q h2 _ rfl E2 ⟨_, A2, by simp [newA, clamp_of hn]⟩ p e s0 s m args below meth c T2 locs (hR.mono E2.1) O X2 e2 F
  exact ⟨s₂, o, st2 _ h1, r⟩
theorem Go.alen {a : Addr} {ty : FieldType} {vs : List Value} {z : Int32} (hA : Ary Z h a ty vs) (hz : z.toInt = (vs.length : Int)) (hd : decode bytes pc = .ok (.arraylength, 1)) (hp : pc + 1 = pc') (q : Go wd l R Z y bytes maxL ret n0 K N Q h cells slots pc' Ls (.int z :: st)) : Go wd l R Z y bytes maxL ret n0 K N Q h cells slots pc Ls (.ref a :: st) := by
  subst hp
  obtain ⟨cl, A, r⟩ := hA
  have e1 : cl.slots.size.toInt32 = z := by
    have := z.toInt_lt
    rw [r]; apply Int32.toInt_inj.mp
    rw [hz]
    have q1 : vs.toArray.size = vs.length := by simp
    rw [q1]; exact len_toInt (by omega)
  exact Go.of q fun p e s m args below meth c T locs O X eT t hr => X.arraylength O.1 (cell := cl) (by rw [eT]; exact A.1) (State.isArrayOf_alike O.2.2.2.2.2.1.alike A.2.1) (g := mkF m pc Ls (.ref a :: st)) rfl (rest := st) rfl (hb O.2.1 hd) _ (by rw [e1]; exact hr)
theorem Go.ldI {a : Addr} {vs : List Value} {j : Int32} {k : Nat} {v : Value} (hA : Ary Z h a .int vs) (hj : j.toInt = (k : Int)) (hv : vs[k]? = some v) (hd : decode bytes pc = .ok (.iaload, 1)) (hp : pc + 1 = pc') (q : Go wd l R Z y bytes maxL ret n0 K N Q h cells slots pc' Ls (v :: st)) : Go wd l R Z y bytes maxL ret n0 K N Q h cells slots pc Ls (.int j :: .ref a :: st) := by
  subst hp
  obtain ⟨cl, A, r⟩ := hA
  exact Go.of q fun p e s m args below meth c T locs O X eT t hr => X.iaload O.1 (j := j) (v := v) (by rw [eT]; exact A.1) (State.isArrayOf_alike O.2.2.2.2.2.1.alike A.2.1) A.2.2 (inb hj r (lt_of_get hv)) (by rw [clamp_of hj, r]; simpa using hv) (g := mkF m pc Ls (.int j :: .ref a :: st)) rfl rfl (hb O.2.1 hd) _ hr
theorem Go.ldJ {a : Addr} {vs : List Value} {j : Int32} {k : Nat} {v : Value} (hA : Ary Z h a .long vs) (hj : j.toInt = (k : Int)) (hv : vs[k]? = some v) (hd : decode bytes pc = .ok (.laload, 1)) (hp : pc + 1 = pc') (q : Go wd l R Z y bytes maxL ret n0 K N Q h cells slots pc' Ls (v :: st)) : Go wd l R Z y bytes maxL ret n0 K N Q h cells slots pc Ls (.int j :: .ref a :: st) := by
  subst hp
  obtain ⟨cl, A, r⟩ := hA
  exact Go.of q fun p e s m args below meth c T locs O X eT t hr => X.laload O.1 (j := j) (v := v) (by rw [eT]; exact A.1) (State.isArrayOf_alike O.2.2.2.2.2.1.alike A.2.1) A.2.2 (inb hj r (lt_of_get hv)) (by rw [clamp_of hj, r]; simpa using hv) (g := mkF m pc Ls (.int j :: .ref a :: st)) rfl rfl (hb O.2.1 hd) _ hr
theorem Go.ldC {a : Addr} {vs : List Value} {j : Int32} {k : Nat} {v : Value} (hA : Ary Z h a .char vs) (hj : j.toInt = (k : Int)) (hv : vs[k]? = some v) (hd : decode bytes pc = .ok (.caload, 1)) (hp : pc + 1 = pc') (q : Go wd l R Z y bytes maxL ret n0 K N Q h cells slots pc' Ls (v :: st)) : Go wd l R Z y bytes maxL ret n0 K N Q h cells slots pc Ls (.int j :: .ref a :: st) := by
  subst hp
  obtain ⟨cl, A, r⟩ := hA
  exact Go.of q fun p e s m args below meth c T locs O X eT t hr => X.caload O.1 (j := j) (v := v) (by rw [eT]; exact A.1) (State.isArrayOf_alike O.2.2.2.2.2.1.alike A.2.1) A.2.2 (inb hj r (lt_of_get hv)) (by rw [clamp_of hj, r]; simpa using hv) (g := mkF m pc Ls (.int j :: .ref a :: st)) rfl rfl (hb O.2.1 hd) _ hr
theorem Go.ldA {a : Addr} {ty : FieldType} {vs : List Value} {j : Int32} {k : Nat} {v : Value} (hA : Ary Z h a ty vs) (hty : ty.isReference = true) (hj : j.toInt = (k : Int)) (hv : vs[k]? = some v) (hd : decode bytes pc = .ok (.aaload, 1)) (hp : pc + 1 = pc') (q : Go wd l R Z y bytes maxL ret n0 K N Q h cells slots pc' Ls (v :: st)) : Go wd l R Z y bytes maxL ret n0 K N Q h cells slots pc Ls (.int j :: .ref a :: st) := by
  subst hp
  obtain ⟨cl, A, r⟩ := hA
  exact Go.of q fun p e s m args below meth c T locs O X eT t hr => X.aaload O.1 (j := j) (v := v) (by rw [eT]; exact A.1) (State.isArrayOf_alike O.2.2.2.2.2.1.alike A.2.1) hty A.2.2 (inb hj r (lt_of_get hv)) (by rw [clamp_of hj, r]; simpa using hv) (g := mkF m pc Ls (.int j :: .ref a :: st)) rfl rfl (hb O.2.1 hd) _ hr
theorem Go.stI {a : Addr} {vs : List Value} {j v : Int32} {k : Nat} (hA : Ary Z h a .int vs) (hj : j.toInt = (k : Int)) (hk : k < vs.length) (hd : decode bytes pc = .ok (.iastore, 1)) (ha : n0 ≤ a) (hp : pc + 1 = pc')
    (q : ∀ h', Wr h h' a k (.int v) → Ary Z h' a .int (vs.set k (.int v)) → Go wd l R Z y bytes maxL ret n0 K N Q h' cells slots pc' Ls st) : Go wd l R Z y bytes maxL ret n0 K N Q h cells slots pc Ls (.int v :: .int j :: .ref a :: st) := by
  subst hp
  have hA' := hA
  obtain ⟨cl, A, r⟩ := hA
  intro p e s0 s m args below meth c T locs hR O X eT F
  obtain ⟨T2, h2, X2, e2, W2, st2⟩ := RoadKit.stI X O.1 O.2.2.2.2.2.1 eT A (j := j) (x := v) (inb hj r hk) (g := mkF m pc Ls (.int v :: .int j :: .ref a :: st)) rfl rfl (hb O.2.1 hd)
  rw [clamp_of hj] at X2 W2
  obtain ⟨s₂, o, h1, r⟩ := q h2 W2 (hA'.set W2) p e s0 s m args below meth c T2 _ (hR.mono (Nat.le_of_eq W2.size.symm)) O X2 e2 (Fr.snoc X2 F ha)
  exact ⟨s₂, o, st2 _ h1, r⟩
theorem Go.stJ {a : Addr} {vs : List Value} {j : Int32} {v : Int64} {k : Nat} (hA : Ary Z h a .long vs) (hj : j.toInt = (k : Int)) (hk : k < vs.length) (hd : decode bytes pc = .ok (.lastore, 1)) (ha : n0 ≤ a) (hp : pc + 1 = pc')
    (q : ∀ h', Wr h h' a k (.long v) → Ary Z h' a .long (vs.set k (.long v)) → Go wd l R Z y bytes maxL ret n0 K N Q h' cells slots pc' Ls st) : Go wd l R Z y bytes maxL ret n0 K N Q h cells slots pc Ls (.long v :: .int j :: .ref a :: st) := by
  subst hp
  have hA' := hA
  obtain ⟨cl, A, r⟩ := hA
  intro p e s0 s m args below meth c T locs hR O X eT F
  obtain ⟨T2, h2, X2, e2, W2, st2⟩ := RoadKit.stJ X O.1 O.2.2.2.2.2.1 eT A (j := j) (x := v) (inb hj r hk) (g := mkF m pc Ls (.long v :: .int j :: .ref a :: st)) rfl rfl (hb O.2.1 hd)
  rw [clamp_of hj] at X2 W2
  obtain ⟨s₂, o, h1, r⟩ := q h2 W2 (hA'.set W2) p e s0 s m args below meth c T2 _ (hR.mono (Nat.le_of_eq W2.size.symm)) O X2 e2 (Fr.snoc X2 F ha)
  exact ⟨s₂, o, st2 _ h1, r⟩
theorem Go.stC {a : Addr} {vs : List Value} {j v : Int32} {k : Nat} (hA : Ary Z h a .char vs) (hj : j.toInt = (k : Int)) (hk : k < vs.length) (hd : decode bytes pc = .ok (.castore, 1)) (ha : n0 ≤ a) (hp : pc + 1 = pc')
    (q : ∀ h', Wr h h' a k (.int (nar .char v)) → Ary Z h' a .char (vs.set k (.int (nar .char v))) → Go wd l R Z y bytes maxL ret n0 K N Q h' cells slots pc' Ls st) : Go wd l R Z y bytes maxL ret n0 K N Q h cells slots pc Ls (.int v :: .int j :: .ref a :: st) := by
  subst hp
  have hA' := hA
  obtain ⟨cl, A, r⟩ := hA
  intro p e s0 s m args below meth c T locs hR O X eT F
  obtain ⟨T2, h2, X2, e2, W2, st2⟩ := RoadKit.stC X O.1 O.2.2.2.2.2.1 eT A (j := j) (x := v) (inb hj r hk) (g := mkF m pc Ls (.int v :: .int j :: .ref a :: st)) rfl rfl (hb O.2.1 hd)
  rw [clamp_of hj] at X2 W2
  obtain ⟨s₂, o, h1, r⟩ := q h2 W2 (hA'.set W2) p e s0 s m args below meth c T2 _ (hR.mono (Nat.le_of_eq W2.size.symm)) O X2 e2 (Fr.snoc X2 F ha)
  exact ⟨s₂, o, st2 _ h1, r⟩
/-! a method by its contract -/
def Mt (wd : Bool) (l : Launch) (Z : State) (y : MethodName) (bytes : ByteArray) (maxL : Nat) (ret : Option FieldType) (rm : Room) (n0 : Nat) (Q : Option Value → Heap → Prop) (h : Heap) (as' : Array Value) : Prop :=
  MetFree l y (head1 [Cond.code y bytes maxL ret] rm) (fun a U => a = as' ∧ Z.Warmed39 U.vm ∧ U.heap = h) (fun _ _ _ _ _ => True) (fun _ U o U' => ∃ v L, o = .returned v ∧ ((Q v U'.heap ∧ h.size ≤ U'.heap.size) ∧ Fr n0 L) ∧ GoEnd wd U o U' L rm.cells rm.slots)
theorem met_go {rm : Room} {ws : List Jvm.Cond} {as' : Array Value} (hp : plainName y.cls = true) (hef : ∀ m, entryFrame m as' maxL = mkF m 0 Ls []) (g : Go wd l rm Z y bytes maxL ret n0 K N Q h 0 0 0 Ls []) :
    MetFree l y (head1 (Jvm.Cond.code y bytes maxL ret :: ws) rm) (fun a U => a = as' ∧ Z.Warmed39 U.vm ∧ U.heap = h) (fun _ _ _ _ _ => True) (fun _ U o U' => ∃ v L, o = .returned v ∧ ((Q v U'.heap ∧ h.size ≤ U'.heap.size) ∧ Fr n0 L) ∧ GoEnd wd U o U' L K N) := by
  refine MetFree.of_bodySF (plainFor_of_name hp) hisR ?_
  intro p e s m args below meth c s₁ Bd hml0 hP hK
  obtain ⟨rfl, hZ, hh⟩ := hP
  have O : Own Z y bytes maxL ret p s m meth c := ⟨Bd.exec, Bd.bytes, hml0, findClass_of_methodNamed Bd.named, (name_of_methodNamed Bd.named Bd.method).1, hZ, Bd.returns, Bd.notSynchronized⟩
  have X0 : Stand p l e rm s m args below meth c s₁ [] 0 0 := Stand.of_body Bd
  have e0 : s₁.heap = h := by rw [← hh, Bd.state]; rfl
  obtain ⟨s₂, o, h1, h2, h3, v, L, h4, h5, h6⟩ := g p e s s m args below meth c s₁ [] (GoRel.refl _ _ _) O X0 e0 (Fr.nil n0)
  exact ⟨s₂, o, castTop (hef m) h1, h2, h3, v, L, h4, ⟨⟨h5.1, hh ▸ h6.grow⟩, h5.2⟩, h6⟩
theorem Mt.go {rm : Room} {as' : Array Value} (hp : plainName y.cls = true) (hef : ∀ m, entryFrame m as' maxL = mkF m 0 Ls []) (g : Go wd l rm Z y bytes maxL ret n0 rm.cells rm.slots Q h 0 0 0 Ls []) : Mt wd l Z y bytes maxL ret rm n0 Q h as' := met_go (ws := []) hp hef g
variable {y2 : MethodName} {bytes2 : ByteArray} {maxL2 : Nat} {ret2 : Option FieldType} {rm : Room} {i W : Nat} {as' : Array Value} {argsL rest : List Value} {Q2 : Option Value → Heap → Prop} {ps : List FieldType} {r2 : Option FieldType}
theorem Go.callS (w1 : (Cond.methodLink y.cls i y2).before a0 Z = true) (w2 : (Cond.static y2).before a0 Z = true) (w3 : (Cond.initialized y2.cls).before a0 Z = true) (w4 : (Cond.code y2 bytes2 maxL2 ret2).before a0 Z = true) (hy : y2.cls ≠ "java/lang/invoke/MethodHandle" ∧ y2.cls ≠ "java/lang/invoke/VarHandle")
    (hM : Mt false l Z y2 bytes2 maxL2 ret2 rm n0 Q2 h argsL.toArray) (hd : decode bytes pc = .ok (.invokestatic i, 3)) (hz : Ls.size = maxL) (hpd : parseMethodDescriptor y2.desc = some ⟨ps, r2⟩) (hlen : argsL.length = ps.length) (hst : st = argsL.reverse ++ rest)
    (hW : (rest.map fun v => v.category).sum ≤ W) (hf : rm.frames + 1 ≤ R.frames) (hl : W + (maxL2 + 11) + rm.locals ≤ R.locals) (hc : cells + rm.cells ≤ R.cells) (hs : slots + rm.slots ≤ R.slots) (hp : pc + 3 = pc')
    (q : ∀ v h', Q2 v h' → Go wd l R Z y bytes maxL ret n0 K N Q h' (cells + rm.cells) (slots + rm.slots) pc' Ls (v.toList ++ rest)) : Go wd l R Z y bytes maxL ret n0 K N Q h cells slots pc Ls st := by
  subst hp hst
  intro p e s0 s m args below meth c T locs hR O X eT F
  obtain ⟨v, vm₁, ⟨T2, L2, k2, n2⟩, -, X2, ⟨Lc, hQ, l2, y2, z2⟩, st2⟩ := Jvm.LawKit.callS X O.1 (y := y2) O.2.2.2.1 (mvT O.2.2.2.2.2.1 w1) (mvT O.2.2.2.2.2.1 w2) (mvT O.2.2.2.2.2.1 w3) (mvT O.2.2.2.2.2.1 w4) hy
    (backOf (W := W) (Q := fun v h' L => (Q2 v h' ∧ h.size ≤ h'.size) ∧ Fr n0 L) hM O.2.2.2.2.2.1 w4 w3 hf hl) (g := mkF m pc Ls (argsL.reverse ++ rest)) rfl (hz.trans O.2.2.1.symm) (argsL := argsL) (rest := rest) (lenOf hpd hlen) rfl (by show 2 * 0 + _ ≤ _; omega) (hb O.2.1 hd) (fun _ _ => ⟨rfl, eT, hc, hs⟩)
  dsimp only [Pt.U, Pt.locs, Pt.cells, Pt.slots] at X2 l2 y2 z2 st2 hQ
  subst l2 y2 z2
  obtain ⟨s₂, o, h1, r⟩ := q v T2.heap hQ.1.1 p e s0 s m args below meth c T2 _ (hR.mono hQ.1.2) O X2 rfl (Fr.app F hQ.2)
  exact ⟨s₂, o, st2 _ h1, r⟩
theorem Go.callN {a : Addr} (hy1 : y2.name = "<init>") (w1 : (Cond.methodLink y.cls i y2).before a0 Z = true) (w2 : (Cond.instanceMethod y2).before a0 Z = true) (w3 : (Cond.initialized y2.cls).before a0 Z = true) (w4 : (Cond.code y2 bytes2 maxL2 none).before a0 Z = true) (hy : y2.cls ≠ "java/lang/invoke/MethodHandle" ∧ y2.cls ≠ "java/lang/invoke/VarHandle")
    (hM : Mt false l Z y2 bytes2 maxL2 none rm n0 Q2 h (.ref a :: argsL).toArray) (hd : decode bytes pc = .ok (.invokespecial i, 3)) (hz : Ls.size = maxL) (hpd : parseMethodDescriptor y2.desc = some ⟨ps, r2⟩) (hlen : argsL.length = ps.length) (hst : st = argsL.reverse ++ .ref a :: rest)
    (hW : (rest.map fun v => v.category).sum ≤ W) (hf : rm.frames + 1 ≤ R.frames) (hl : W + (maxL2 + 11) + rm.locals ≤ R.locals) (hc : cells + rm.cells ≤ R.cells) (hs : slots + rm.slots ≤ R.slots) (hp : pc + 3 = pc')
    (q : ∀ v h', Q2 v h' → Go wd l R Z y bytes maxL ret n0 K N Q h' (cells + rm.cells) (slots + rm.slots) pc' Ls (v.toList ++ rest)) : Go wd l R Z y bytes maxL ret n0 K N Q h cells slots pc Ls st := by
  subst hp hst
  intro p e s0 s m args below meth c T locs hR O X eT F
  obtain ⟨v, vm₁, ⟨T2, L2, k2, n2⟩, -, X2, ⟨Lc, hQ, l2, y2, z2⟩, st2⟩ := X.specialBack O.1 (y := y2) hy1 O.2.2.2.1 (mvT O.2.2.2.2.2.1 w1) (mvT O.2.2.2.2.2.1 w2) (mvT O.2.2.2.2.2.1 w4) hy
    (backOf (W := W) (Q := fun v h' L => (Q2 v h' ∧ h.size ≤ h'.size) ∧ Fr n0 L) hM O.2.2.2.2.2.1 w4 w3 hf hl) (g := mkF m pc Ls (argsL.reverse ++ .ref a :: rest)) rfl (hz.trans O.2.2.1.symm) (Steps.refl _) (a := a) (argsL := argsL) (rest := rest) (lenOf hpd hlen) rfl (by show 2 * 0 + _ ≤ _; omega) (hb O.2.1 hd) (fun _ _ => ⟨rfl, eT, hc, hs⟩)
  dsimp only [Pt.U, Pt.locs, Pt.cells, Pt.slots] at X2 l2 y2 z2 st2 hQ
  subst l2 y2 z2
  obtain ⟨s₂, o, h1, r⟩ := q v T2.heap hQ.1.1 p e s0 s m args below meth c T2 _ (hR.mono hQ.1.2) O X2 rfl (Fr.app F hQ.2)
  exact ⟨s₂, o, st2.trans h1, r⟩
theorem Go.callV {a : Addr} {C : String} (w1 : (Cond.methodLink y.cls i y2).before a0 Z = true) (w2 : (Cond.declares y2).before a0 Z = true) (w5 : (Cond.selects C y2 y2).before a0 Z = true) (w6 : (Cond.instanceMethod y2).before a0 Z = true) (w3 : (Cond.initialized y2.cls).before a0 Z = true) (w4 : (Cond.code y2 bytes2 maxL2 ret2).before a0 Z = true)
    (hy : y2.cls ≠ "java/lang/invoke/MethodHandle" ∧ y2.cls ≠ "java/lang/invoke/VarHandle") (hE : Exa Z h a C)
    (hM : Mt false l Z y2 bytes2 maxL2 ret2 rm n0 Q2 h (.ref a :: argsL).toArray) (hd : decode bytes pc = .ok (.invokevirtual i, 3)) (hz : Ls.size = maxL) (hpd : parseMethodDescriptor y2.desc = some ⟨ps, r2⟩) (hlen : argsL.length = ps.length) (hst : st = argsL.reverse ++ .ref a :: rest)
    (hW : (rest.map fun v => v.category).sum ≤ W) (hf : rm.frames + 1 ≤ R.frames) (hl : W + (maxL2 + 11) + rm.locals ≤ R.locals) (hc : cells + rm.cells ≤ R.cells) (hs : slots + rm.slots ≤ R.slots) (hp : pc + 3 = pc')
    (q : ∀ v h', Q2 v h' → Go wd l R Z y bytes maxL ret n0 K N Q h' (cells + rm.cells) (slots + rm.slots) pc' Ls (v.toList ++ rest)) : Go wd l R Z y bytes maxL ret n0 K N Q h cells slots pc Ls st := by
  subst hp hst
  intro p e s0 s m args below meth c T locs hR O X eT F
  obtain ⟨cq, kq, qa, qb, qc⟩ := isOf (T := T) O.2.2.2.2.2.1 eT hE
  obtain ⟨v, vm₁, ⟨T2, L2, k2, n2⟩, -, X2, ⟨Lc, hQ, l2, y2, z2⟩, st2⟩ := X.virtualBack O.1 (y := y2) (z := y2) O.2.2.2.1 (mvT O.2.2.2.2.2.1 w1) (mvT O.2.2.2.2.2.1 w2) (notFace_of_selects (args := #[]) (mvT O.2.2.2.2.2.1 w5)) (mvT O.2.2.2.2.2.1 w5) (mvT O.2.2.2.2.2.1 w6) hy
    (backOf (W := W) (Q := fun v h' L => (Q2 v h' ∧ h.size ≤ h'.size) ∧ Fr n0 L) hM O.2.2.2.2.2.1 w4 w3 hf hl) qa qc (g := mkF m pc Ls (argsL.reverse ++ .ref a :: rest)) rfl (hz.trans O.2.2.1.symm) (Steps.refl _) (argsL := argsL) (rest := rest) (lenOf hpd hlen) rfl (by show 2 * 0 + _ ≤ _; omega) (hb O.2.1 hd) (fun _ _ => ⟨rfl, eT, hc, hs⟩)
  dsimp only [Pt.U, Pt.locs, Pt.cells, Pt.slots] at X2 l2 y2 z2 st2 hQ
  subst l2 y2 z2
  obtain ⟨s₂, o, h1, r⟩ := q v T2.heap hQ.1.1 p e s0 s m args below meth c T2 _ (hR.mono hQ.1.2) O X2 rfl (Fr.app F hQ.2)
  exact ⟨s₂, o, st2.trans h1, r⟩
end GoLaws
end Jvm.RoadKit
namespace Jvm.Pilot.@@N@@
open Jvm Jvm.ClassFile Sem Op Lib Jvm.Free Jvm.Stand Jvm.LawKit Jvm.RoadKit Bundle Jvm.Pilot.@@N@@.Jvm.D
theorem d1_0 : decode prog_36_method_1_code 0 = .ok (.aload_n 0, 1) := by decide +kernel
theorem d1_1 : decode prog_36_method_1_code 1 = .ok (.iload_n 1, 1) := by decide +kernel
theorem d1_2 : decode prog_36_method_1_code 2 = .ok (.aload_n 2, 1) := by decide +kernel
theorem d1_3 : decode prog_36_method_1_code 3 = .ok (.aconst_null, 1) := by decide +kernel
theorem d1_4 : decode prog_36_method_1_code 4 = .ok (.iconst 0, 1) := by decide +kernel
theorem d1_5 : decode prog_36_method_1_code 5 = .ok (.aconst_null, 1) := by decide +kernel
theorem d1_6 : decode prog_36_method_1_code 6 = .ok (.invokespecial 1, 3) := by decide +kernel
theorem d1_9 : decode prog_36_method_1_code 9 = .ok (.return_, 1) := by decide +kernel
theorem d2_0 : decode prog_36_method_3_code 0 = .ok (.aload_n 0, 1) := by decide +kernel
theorem d2_1 : decode prog_36_method_3_code 1 = .ok (.invokespecial 7, 3) := by decide +kernel
theorem d2_4 : decode prog_36_method_3_code 4 = .ok (.aload_n 0, 1) := by decide +kernel
theorem d2_5 : decode prog_36_method_3_code 5 = .ok (.iload_n 1, 1) := by decide +kernel
theorem d2_6 : decode prog_36_method_3_code 6 = .ok (.putfield 12, 3) := by decide +kernel
theorem d2_9 : decode prog_36_method_3_code 9 = .ok (.aload_n 0, 1) := by decide +kernel
theorem d2_10 : decode prog_36_method_3_code 10 = .ok (.aload_n 2, 1) := by decide +kernel
theorem d2_11 : decode prog_36_method_3_code 11 = .ok (.putfield 16, 3) := by decide +kernel
theorem d2_14 : decode prog_36_method_3_code 14 = .ok (.aload_n 0, 1) := by decide +kernel
theorem d2_15 : decode prog_36_method_3_code 15 = .ok (.aload_n 3, 1) := by decide +kernel
theorem d2_16 : decode prog_36_method_3_code 16 = .ok (.putfield 20, 3) := by decide +kernel
theorem d2_19 : decode prog_36_method_3_code 19 = .ok (.aload_n 0, 1) := by decide +kernel
theorem d2_20 : decode prog_36_method_3_code 20 = .ok (.iload 4, 2) := by decide +kernel
theorem d2_22 : decode prog_36_method_3_code 22 = .ok (.putfield 23, 3) := by decide +kernel
theorem d2_25 : decode prog_36_method_3_code 25 = .ok (.aload_n 0, 1) := by decide +kernel
theorem d2_26 : decode prog_36_method_3_code 26 = .ok (.aload 5, 2) := by decide +kernel
theorem d2_28 : decode prog_36_method_3_code 28 = .ok (.putfield 27, 3) := by decide +kernel
theorem d2_31 : decode prog_36_method_3_code 31 = .ok (.return_, 1) := by decide +kernel
theorem d4_0 : decode prog_36_method_2_code 0 = .ok (.aload_n 0, 1) := by decide +kernel
theorem d4_1 : decode prog_36_method_2_code 1 = .ok (.iload_n 1, 1) := by decide +kernel
theorem d4_2 : decode prog_36_method_2_code 2 = .ok (.aload_n 2, 1) := by decide +kernel
theorem d4_3 : decode prog_36_method_2_code 3 = .ok (.aload_n 3, 1) := by decide +kernel
theorem d4_4 : decode prog_36_method_2_code 4 = .ok (.iload 4, 2) := by decide +kernel
theorem d4_6 : decode prog_36_method_2_code 6 = .ok (.aconst_null, 1) := by decide +kernel
theorem d4_7 : decode prog_36_method_2_code 7 = .ok (.invokespecial 1, 3) := by decide +kernel
theorem d4_10 : decode prog_36_method_2_code 10 = .ok (.return_, 1) := by decide +kernel
theorem d5_0 : decode prog_36_method_8_code 0 = .ok (.aload_n 0, 1) := by decide +kernel
theorem d5_1 : decode prog_36_method_8_code 1 = .ok (.getfield 20, 3) := by decide +kernel
theorem d5_4 : decode prog_36_method_8_code 4 = .ok (.ifnonnull 17, 3) := by decide +kernel
theorem d5_7 : decode prog_36_method_8_code 7 = .ok (.aload_n 0, 1) := by decide +kernel
theorem d5_8 : decode prog_36_method_8_code 8 = .ok (.getfield 16, 3) := by decide +kernel
theorem d5_11 : decode prog_36_method_8_code 11 = .ok (.iload_n 1, 1) := by decide +kernel
theorem d5_12 : decode prog_36_method_8_code 12 = .ok (.iaload, 1) := by decide +kernel
theorem d5_13 : decode prog_36_method_8_code 13 = .ok (.aload_n 0, 1) := by decide +kernel
theorem d5_14 : decode prog_36_method_8_code 14 = .ok (.getfield 12, 3) := by decide +kernel
theorem d5_17 : decode prog_36_method_8_code 17 = .ok (.iadd, 1) := by decide +kernel
theorem d5_18 : decode prog_36_method_8_code 18 = .ok (.goto 9, 3) := by decide +kernel
theorem d5_21 : decode prog_36_method_8_code 21 = .ok (.aload_n 0, 1) := by decide +kernel
theorem d5_22 : decode prog_36_method_8_code 22 = .ok (.getfield 20, 3) := by decide +kernel
theorem d5_25 : decode prog_36_method_8_code 25 = .ok (.iload_n 1, 1) := by decide +kernel
theorem d5_26 : decode prog_36_method_8_code 26 = .ok (.iaload, 1) := by decide +kernel
theorem d5_27 : decode prog_36_method_8_code 27 = .ok (.ireturn, 1) := by decide +kernel
theorem pd0 : parseMethodDescriptor "(I[I[IZ[[I)V" = some ⟨[.int, (.array .int), (.array .int), .boolean, (.array (.array .int))], none⟩ := by decide +kernel
theorem pd1 : parseMethodDescriptor "(I[I)V" = some ⟨[.int, (.array .int)], none⟩ := by decide +kernel
theorem pd2 : parseMethodDescriptor "(I[I[IZ)V" = some ⟨[.int, (.array .int), (.array .int), .boolean], none⟩ := by decide +kernel
theorem pd3 : parseMethodDescriptor "(I)I" = some ⟨[.int], (some .int)⟩ := by decide +kernel
theorem pn0 : plainName "com/example/doppelgrep/doppelgrep/engine/Group" = true := by first | (simp [plainName, overriddenIn]; done) | decide +kernel
theorem pn1 : plainName "com/example/doppelgrep/doppelgrep/engine/GroupEndPinLaw" = true := by first | (simp [plainName, overriddenIn]; done) | decide +kernel

theorem own_b01 {s : Int32} (h : s.toInt = 0 ∨ s.toInt = 1) : s = 0 ∨ s = 1 := h.imp (fun q => Int32.toInt_inj.mp q) (fun q => Int32.toInt_inj.mp q)
theorem own_nb {s : Int32} (h : s.toInt = 0 ∨ s.toInt = 1) : narrow .boolean (.int s) = .int s := by rcases own_b01 h with rfl | rfl <;> rfl
theorem own_fb {s : Int32} (h : s.toInt = 0 ∨ s.toInt = 1) : fits .boolean (.int s) = true := by rcases own_b01 h with rfl | rfl <;> rfl
theorem own_cat {v : Value} (h : v.isRef = true) : v.category = 1 := by cases v <;> simp_all [Value.isRef, Value.category]
theorem own_nr {v : Value} {t : FieldType} (h : v.isRef = true) : narrow (.array t) v = v := by cases v <;> simp_all [Value.isRef, narrow]
theorem own_fr {v : Value} {t : FieldType} (h : v.isRef = true) : fits (.array t) v = true := by cases v <;> simp_all [Value.isRef, fits]

set_option maxRecDepth 65536 in
set_option maxHeartbeats 40000000 in
theorem m_full (l : Launch) (Z : State) (a0 : Array Value) (hw : ∀ d ∈ tables_1, d.before a0 Z = true) (a : Addr) (t : Int32) (st en : Value) (gp : Int32) (ru : Value) (h0 : Heap) (n0 : Nat) (z0 : n0 ≤ h0.size) (hE : Exa Z h0 a "com/example/doppelgrep/doppelgrep/engine/Group") (htokens : Fld Z h0 a "com/example/doppelgrep/doppelgrep/engine/Group" "tokens" "I" (.int (0 : Int32))) (hstarts : Fld Z h0 a "com/example/doppelgrep/doppelgrep/engine/Group" "starts" "[I" .null) (hends : Fld Z h0 a "com/example/doppelgrep/doppelgrep/engine/Group" "ends" "[I" .null) (hgapped : Fld Z h0 a "com/example/doppelgrep/doppelgrep/engine/Group" "gapped" "Z" (.int (0 : Int32))) (hruns : Fld Z h0 a "com/example/doppelgrep/doppelgrep/engine/Group" "runs" "[[I" .null) (hg : n0 ≤ a) (h1 : st.isRef = true) (h2 : en.isRef = true) (hs : gp.toInt = 0 ∨ gp.toInt = 1) (h4 : ru.isRef = true) : Mt false l Z (⟨"com/example/doppelgrep/doppelgrep/engine/Group", "<init>", "(I[I[IZ[[I)V"⟩ : MethodName) prog_36_method_3_code 6 none ({ frames := 1, cells := 0, slots := 0, locals := 12 } : Room) n0 (fun v h => v = none ∧ Keep h0 h [a] ∧ Exa Z h a "com/example/doppelgrep/doppelgrep/engine/Group" ∧ Fld Z h a "com/example/doppelgrep/doppelgrep/engine/Group" "tokens" "I" (.int t) ∧ Fld Z h a "com/example/doppelgrep/doppelgrep/engine/Group" "starts" "[I" st ∧ Fld Z h a "com/example/doppelgrep/doppelgrep/engine/Group" "ends" "[I" en ∧ Fld Z h a "com/example/doppelgrep/doppelgrep/engine/Group" "gapped" "Z" (.int gp) ∧ Fld Z h a "com/example/doppelgrep/doppelgrep/engine/Group" "runs" "[[I" ru) h0 #[(.ref a), (.int t), st, en, (.int gp), ru] := by
  refine Mt.go (Ls := #[.val (.ref a), .val (.int t), .val st, .val en, .val (.int gp), .val ru]) pn0 (fun m => by rcases ref_cases h1 with rfl | ⟨_, rfl⟩ <;> rcases ref_cases h2 with rfl | ⟨_, rfl⟩ <;> rcases ref_cases h4 with rfl | ⟨_, rfl⟩ <;> rfl) ?_
  show (Go false l ({ frames := 1, cells := 0, slots := 0, locals := 12 } : Room) Z (⟨"com/example/doppelgrep/doppelgrep/engine/Group", "<init>", "(I[I[IZ[[I)V"⟩ : MethodName) prog_36_method_3_code 6 none n0 0 0 (fun v h => v = none ∧ Keep h0 h [a] ∧ Exa Z h a "com/example/doppelgrep/doppelgrep/engine/Group" ∧ Fld Z h a "com/example/doppelgrep/doppelgrep/engine/Group" "tokens" "I" (.int t) ∧ Fld Z h a "com/example/doppelgrep/doppelgrep/engine/Group" "starts" "[I" st ∧ Fld Z h a "com/example/doppelgrep/doppelgrep/engine/Group" "ends" "[I" en ∧ Fld Z h a "com/example/doppelgrep/doppelgrep/engine/Group" "gapped" "Z" (.int gp) ∧ Fld Z h a "com/example/doppelgrep/doppelgrep/engine/Group" "runs" "[[I" ru)) h0 0 0 0 #[.val (.ref a), .val (.int t), .val st, .val en, .val (.int gp), .val ru] []
  refine Go.aloadN (pc' := 1) d2_0 rfl rfl rfl ?_
  refine Go.initO (pc' := 4) (W := 0) (hw _ (List.mem_of_getElem? (i := 10) rfl)) (hw _ (List.mem_of_getElem? (i := 11) rfl)) (hw _ (List.mem_of_getElem? (i := 12) rfl)) d2_1 rfl (by decide) (Nat.le_of_eq rfl) (by decide) rfl ?_
  refine Go.aloadN (pc' := 5) d2_4 rfl rfl rfl ?_
  refine Go.iloadN (pc' := 6) d2_5 rfl rfl ?_
  refine Go.putF (pc' := 9) (ty := .int) (hw _ (List.mem_of_getElem? (i := 13) rfl)) htokens hE (Or.inr ⟨(hw _ (List.mem_of_getElem? (i := 14) rfl)), rfl, rfl⟩) (hw _ (List.mem_of_getElem? (i := 2) rfl)) (by decide) rfl rfl d2_6 hg rfl ?_
  intro h_1 W_2
  have f_3 : Exa Z h_1 a "com/example/doppelgrep/doppelgrep/engine/Group" := Exa.wr W_2 hE
  have t_4 : a < h_1.size := Nat.lt_of_lt_of_le hE.lt (Nat.le_of_eq W_2.size.symm)
  have z_5 : n0 ≤ h_1.size := Nat.le_trans z0 (Nat.le_of_eq W_2.size.symm)
  have b_6 : h0.size ≤ h_1.size := Nat.le_trans (Nat.le_refl _) (Nat.le_of_eq W_2.size.symm)
  have K_7 : Keep h0 h_1 [a] := (Keep.refl _ _).wr W_2 (Or.inl (List.mem_of_getElem? (i := 0) rfl))
  have f_8 : Fld Z h_1 a "com/example/doppelgrep/doppelgrep/engine/Group" "tokens" "I" (.int t) := Fld.same W_2 htokens
  have f_9 : Fld Z h_1 a "com/example/doppelgrep/doppelgrep/engine/Group" "starts" "[I" .null := Fld.other W_2 hstarts (Or.inr (slot_ne (Or.inr (hw _ (List.mem_of_getElem? (i := 16) rfl))) (Or.inr (hw _ (List.mem_of_getElem? (i := 14) rfl))) (by decide) (t := (.array .int)) (t' := .int) (by decide) (by decide)))
  have f_10 : Fld Z h_1 a "com/example/doppelgrep/doppelgrep/engine/Group" "ends" "[I" .null := Fld.other W_2 hends (Or.inr (slot_ne (Or.inr (hw _ (List.mem_of_getElem? (i := 18) rfl))) (Or.inr (hw _ (List.mem_of_getElem? (i := 14) rfl))) (by decide) (t := (.array .int)) (t' := .int) (by decide) (by decide)))
  have f_11 : Fld Z h_1 a "com/example/doppelgrep/doppelgrep/engine/Group" "gapped" "Z" (.int (0 : Int32)) := Fld.other W_2 hgapped (Or.inr (slot_ne (Or.inr (hw _ (List.mem_of_getElem? (i := 20) rfl))) (Or.inr (hw _ (List.mem_of_getElem? (i := 14) rfl))) (by decide) (t := .boolean) (t' := .int) (by decide) (by decide)))
  have f_12 : Fld Z h_1 a "com/example/doppelgrep/doppelgrep/engine/Group" "runs" "[[I" .null := Fld.other W_2 hruns (Or.inr (slot_ne (Or.inr (hw _ (List.mem_of_getElem? (i := 22) rfl))) (Or.inr (hw _ (List.mem_of_getElem? (i := 14) rfl))) (by decide) (t := (.array (.array .int))) (t' := .int) (by decide) (by decide)))
  refine Go.aloadN (pc' := 10) d2_9 rfl rfl rfl ?_
  refine Go.aloadN (pc' := 11) d2_10 rfl h1 rfl ?_
  refine Go.putF (pc' := 14) (ty := (.array .int)) (hw _ (List.mem_of_getElem? (i := 15) rfl)) f_9 f_3 (Or.inr ⟨(hw _ (List.mem_of_getElem? (i := 16) rfl)), rfl, rfl⟩) (hw _ (List.mem_of_getElem? (i := 2) rfl)) (by decide) (own_nr h1) (own_fr h1) d2_11 hg rfl ?_
  intro h_13 W_14
  have f_15 : Exa Z h_13 a "com/example/doppelgrep/doppelgrep/engine/Group" := Exa.wr W_14 f_3
  have t_16 : a < h_13.size := Nat.lt_of_lt_of_le t_4 (Nat.le_of_eq W_14.size.symm)
  have z_17 : n0 ≤ h_13.size := Nat.le_trans z_5 (Nat.le_of_eq W_14.size.symm)
  have b_18 : h0.size ≤ h_13.size := Nat.le_trans b_6 (Nat.le_of_eq W_14.size.symm)
  have K_19 : Keep h0 h_13 [a] := K_7.wr W_14 (Or.inl (List.mem_of_getElem? (i := 0) rfl))
  have f_20 : Fld Z h_13 a "com/example/doppelgrep/doppelgrep/engine/Group" "tokens" "I" (.int t) := Fld.other W_14 f_8 (Or.inr (slot_ne (Or.inr (hw _ (List.mem_of_getElem? (i := 14) rfl))) (Or.inr (hw _ (List.mem_of_getElem? (i := 16) rfl))) (by decide) (t := .int) (t' := (.array .int)) (by decide) (by decide)))
  have f_21 : Fld Z h_13 a "com/example/doppelgrep/doppelgrep/engine/Group" "starts" "[I" st := Fld.same W_14 f_9
  have f_22 : Fld Z h_13 a "com/example/doppelgrep/doppelgrep/engine/Group" "ends" "[I" .null := Fld.other W_14 f_10 (Or.inr (slot_ne (Or.inr (hw _ (List.mem_of_getElem? (i := 18) rfl))) (Or.inr (hw _ (List.mem_of_getElem? (i := 16) rfl))) (by decide) (t := (.array .int)) (t' := (.array .int)) (by decide) (by decide)))
  have f_23 : Fld Z h_13 a "com/example/doppelgrep/doppelgrep/engine/Group" "gapped" "Z" (.int (0 : Int32)) := Fld.other W_14 f_11 (Or.inr (slot_ne (Or.inr (hw _ (List.mem_of_getElem? (i := 20) rfl))) (Or.inr (hw _ (List.mem_of_getElem? (i := 16) rfl))) (by decide) (t := .boolean) (t' := (.array .int)) (by decide) (by decide)))
  have f_24 : Fld Z h_13 a "com/example/doppelgrep/doppelgrep/engine/Group" "runs" "[[I" .null := Fld.other W_14 f_12 (Or.inr (slot_ne (Or.inr (hw _ (List.mem_of_getElem? (i := 22) rfl))) (Or.inr (hw _ (List.mem_of_getElem? (i := 16) rfl))) (by decide) (t := (.array (.array .int))) (t' := (.array .int)) (by decide) (by decide)))
  refine Go.aloadN (pc' := 15) d2_14 rfl rfl rfl ?_
  refine Go.aloadN (pc' := 16) d2_15 rfl h2 rfl ?_
  refine Go.putF (pc' := 19) (ty := (.array .int)) (hw _ (List.mem_of_getElem? (i := 17) rfl)) f_22 f_15 (Or.inr ⟨(hw _ (List.mem_of_getElem? (i := 18) rfl)), rfl, rfl⟩) (hw _ (List.mem_of_getElem? (i := 2) rfl)) (by decide) (own_nr h2) (own_fr h2) d2_16 hg rfl ?_
  intro h_25 W_26
  have f_27 : Exa Z h_25 a "com/example/doppelgrep/doppelgrep/engine/Group" := Exa.wr W_26 f_15
  have t_28 : a < h_25.size := Nat.lt_of_lt_of_le t_16 (Nat.le_of_eq W_26.size.symm)
  have z_29 : n0 ≤ h_25.size := Nat.le_trans z_17 (Nat.le_of_eq W_26.size.symm)
  have b_30 : h0.size ≤ h_25.size := Nat.le_trans b_18 (Nat.le_of_eq W_26.size.symm)
  have K_31 : Keep h0 h_25 [a] := K_19.wr W_26 (Or.inl (List.mem_of_getElem? (i := 0) rfl))
  have f_32 : Fld Z h_25 a "com/example/doppelgrep/doppelgrep/engine/Group" "tokens" "I" (.int t) := Fld.other W_26 f_20 (Or.inr (slot_ne (Or.inr (hw _ (List.mem_of_getElem? (i := 14) rfl))) (Or.inr (hw _ (List.mem_of_getElem? (i := 18) rfl))) (by decide) (t := .int) (t' := (.array .int)) (by decide) (by decide)))
  have f_33 : Fld Z h_25 a "com/example/doppelgrep/doppelgrep/engine/Group" "starts" "[I" st := Fld.other W_26 f_21 (Or.inr (slot_ne (Or.inr (hw _ (List.mem_of_getElem? (i := 16) rfl))) (Or.inr (hw _ (List.mem_of_getElem? (i := 18) rfl))) (by decide) (t := (.array .int)) (t' := (.array .int)) (by decide) (by decide)))
  have f_34 : Fld Z h_25 a "com/example/doppelgrep/doppelgrep/engine/Group" "ends" "[I" en := Fld.same W_26 f_22
  have f_35 : Fld Z h_25 a "com/example/doppelgrep/doppelgrep/engine/Group" "gapped" "Z" (.int (0 : Int32)) := Fld.other W_26 f_23 (Or.inr (slot_ne (Or.inr (hw _ (List.mem_of_getElem? (i := 20) rfl))) (Or.inr (hw _ (List.mem_of_getElem? (i := 18) rfl))) (by decide) (t := .boolean) (t' := (.array .int)) (by decide) (by decide)))
  have f_36 : Fld Z h_25 a "com/example/doppelgrep/doppelgrep/engine/Group" "runs" "[[I" .null := Fld.other W_26 f_24 (Or.inr (slot_ne (Or.inr (hw _ (List.mem_of_getElem? (i := 22) rfl))) (Or.inr (hw _ (List.mem_of_getElem? (i := 18) rfl))) (by decide) (t := (.array (.array .int))) (t' := (.array .int)) (by decide) (by decide)))
  refine Go.aloadN (pc' := 20) d2_19 rfl rfl rfl ?_
  refine Go.iload (pc' := 22) d2_20 rfl rfl ?_
  refine Go.putF (pc' := 25) (ty := .boolean) (hw _ (List.mem_of_getElem? (i := 19) rfl)) f_35 f_27 (Or.inr ⟨(hw _ (List.mem_of_getElem? (i := 20) rfl)), rfl, rfl⟩) (hw _ (List.mem_of_getElem? (i := 2) rfl)) (by decide) (own_nb hs) (own_fb hs) d2_22 hg rfl ?_
  intro h_37 W_38
  have f_39 : Exa Z h_37 a "com/example/doppelgrep/doppelgrep/engine/Group" := Exa.wr W_38 f_27
  have t_40 : a < h_37.size := Nat.lt_of_lt_of_le t_28 (Nat.le_of_eq W_38.size.symm)
  have z_41 : n0 ≤ h_37.size := Nat.le_trans z_29 (Nat.le_of_eq W_38.size.symm)
  have b_42 : h0.size ≤ h_37.size := Nat.le_trans b_30 (Nat.le_of_eq W_38.size.symm)
  have K_43 : Keep h0 h_37 [a] := K_31.wr W_38 (Or.inl (List.mem_of_getElem? (i := 0) rfl))
  have f_44 : Fld Z h_37 a "com/example/doppelgrep/doppelgrep/engine/Group" "tokens" "I" (.int t) := Fld.other W_38 f_32 (Or.inr (slot_ne (Or.inr (hw _ (List.mem_of_getElem? (i := 14) rfl))) (Or.inr (hw _ (List.mem_of_getElem? (i := 20) rfl))) (by decide) (t := .int) (t' := .boolean) (by decide) (by decide)))
  have f_45 : Fld Z h_37 a "com/example/doppelgrep/doppelgrep/engine/Group" "starts" "[I" st := Fld.other W_38 f_33 (Or.inr (slot_ne (Or.inr (hw _ (List.mem_of_getElem? (i := 16) rfl))) (Or.inr (hw _ (List.mem_of_getElem? (i := 20) rfl))) (by decide) (t := (.array .int)) (t' := .boolean) (by decide) (by decide)))
  have f_46 : Fld Z h_37 a "com/example/doppelgrep/doppelgrep/engine/Group" "ends" "[I" en := Fld.other W_38 f_34 (Or.inr (slot_ne (Or.inr (hw _ (List.mem_of_getElem? (i := 18) rfl))) (Or.inr (hw _ (List.mem_of_getElem? (i := 20) rfl))) (by decide) (t := (.array .int)) (t' := .boolean) (by decide) (by decide)))
  have f_47 : Fld Z h_37 a "com/example/doppelgrep/doppelgrep/engine/Group" "gapped" "Z" (.int gp) := Fld.same W_38 f_35
  have f_48 : Fld Z h_37 a "com/example/doppelgrep/doppelgrep/engine/Group" "runs" "[[I" .null := Fld.other W_38 f_36 (Or.inr (slot_ne (Or.inr (hw _ (List.mem_of_getElem? (i := 22) rfl))) (Or.inr (hw _ (List.mem_of_getElem? (i := 20) rfl))) (by decide) (t := (.array (.array .int))) (t' := .boolean) (by decide) (by decide)))
  refine Go.aloadN (pc' := 26) d2_25 rfl rfl rfl ?_
  refine Go.aload (pc' := 28) d2_26 rfl h4 rfl ?_
  refine Go.putF (pc' := 31) (ty := (.array (.array .int))) (hw _ (List.mem_of_getElem? (i := 21) rfl)) f_48 f_39 (Or.inr ⟨(hw _ (List.mem_of_getElem? (i := 22) rfl)), rfl, rfl⟩) (hw _ (List.mem_of_getElem? (i := 2) rfl)) (by decide) (own_nr h4) (own_fr h4) d2_28 hg rfl ?_
  intro h_49 W_50
  have f_51 : Exa Z h_49 a "com/example/doppelgrep/doppelgrep/engine/Group" := Exa.wr W_50 f_39
  have t_52 : a < h_49.size := Nat.lt_of_lt_of_le t_40 (Nat.le_of_eq W_50.size.symm)
  have z_53 : n0 ≤ h_49.size := Nat.le_trans z_41 (Nat.le_of_eq W_50.size.symm)
  have b_54 : h0.size ≤ h_49.size := Nat.le_trans b_42 (Nat.le_of_eq W_50.size.symm)
  have K_55 : Keep h0 h_49 [a] := K_43.wr W_50 (Or.inl (List.mem_of_getElem? (i := 0) rfl))
  have f_56 : Fld Z h_49 a "com/example/doppelgrep/doppelgrep/engine/Group" "tokens" "I" (.int t) := Fld.other W_50 f_44 (Or.inr (slot_ne (Or.inr (hw _ (List.mem_of_getElem? (i := 14) rfl))) (Or.inr (hw _ (List.mem_of_getElem? (i := 22) rfl))) (by decide) (t := .int) (t' := (.array (.array .int))) (by decide) (by decide)))
  have f_57 : Fld Z h_49 a "com/example/doppelgrep/doppelgrep/engine/Group" "starts" "[I" st := Fld.other W_50 f_45 (Or.inr (slot_ne (Or.inr (hw _ (List.mem_of_getElem? (i := 16) rfl))) (Or.inr (hw _ (List.mem_of_getElem? (i := 22) rfl))) (by decide) (t := (.array .int)) (t' := (.array (.array .int))) (by decide) (by decide)))
  have f_58 : Fld Z h_49 a "com/example/doppelgrep/doppelgrep/engine/Group" "ends" "[I" en := Fld.other W_50 f_46 (Or.inr (slot_ne (Or.inr (hw _ (List.mem_of_getElem? (i := 18) rfl))) (Or.inr (hw _ (List.mem_of_getElem? (i := 22) rfl))) (by decide) (t := (.array .int)) (t' := (.array (.array .int))) (by decide) (by decide)))
  have f_59 : Fld Z h_49 a "com/example/doppelgrep/doppelgrep/engine/Group" "gapped" "Z" (.int gp) := Fld.other W_50 f_47 (Or.inr (slot_ne (Or.inr (hw _ (List.mem_of_getElem? (i := 20) rfl))) (Or.inr (hw _ (List.mem_of_getElem? (i := 22) rfl))) (by decide) (t := .boolean) (t' := (.array (.array .int))) (by decide) (by decide)))
  have f_60 : Fld Z h_49 a "com/example/doppelgrep/doppelgrep/engine/Group" "runs" "[[I" ru := Fld.same W_50 f_48
  exact Go.ret0 d2_31 rfl ⟨rfl, K_55, f_51, f_56, f_57, f_58, f_59, f_60⟩ (by decide) (by decide)
set_option maxRecDepth 65536 in
set_option maxHeartbeats 40000000 in
theorem m_two (l : Launch) (Z : State) (a0 : Array Value) (hw : ∀ d ∈ tables_1, d.before a0 Z = true) (a : Addr) (t : Int32) (st : Value) (h0 : Heap) (n0 : Nat) (z0 : n0 ≤ h0.size) (hE : Exa Z h0 a "com/example/doppelgrep/doppelgrep/engine/Group") (htokens : Fld Z h0 a "com/example/doppelgrep/doppelgrep/engine/Group" "tokens" "I" (.int (0 : Int32))) (hstarts : Fld Z h0 a "com/example/doppelgrep/doppelgrep/engine/Group" "starts" "[I" .null) (hends : Fld Z h0 a "com/example/doppelgrep/doppelgrep/engine/Group" "ends" "[I" .null) (hgapped : Fld Z h0 a "com/example/doppelgrep/doppelgrep/engine/Group" "gapped" "Z" (.int (0 : Int32))) (hruns : Fld Z h0 a "com/example/doppelgrep/doppelgrep/engine/Group" "runs" "[[I" .null) (hg : n0 ≤ a) (h1 : st.isRef = true) : Mt false l Z (⟨"com/example/doppelgrep/doppelgrep/engine/Group", "<init>", "(I[I)V"⟩ : MethodName) prog_36_method_1_code 3 none ({ frames := 2, cells := 0, slots := 0, locals := 29 } : Room) n0 (fun v h => v = none ∧ Keep h0 h [a] ∧ Exa Z h a "com/example/doppelgrep/doppelgrep/engine/Group" ∧ Fld Z h a "com/example/doppelgrep/doppelgrep/engine/Group" "tokens" "I" (.int t) ∧ Fld Z h a "com/example/doppelgrep/doppelgrep/engine/Group" "starts" "[I" st ∧ Fld Z h a "com/example/doppelgrep/doppelgrep/engine/Group" "ends" "[I" .null ∧ Fld Z h a "com/example/doppelgrep/doppelgrep/engine/Group" "gapped" "Z" (.int (0 : Int32)) ∧ Fld Z h a "com/example/doppelgrep/doppelgrep/engine/Group" "runs" "[[I" .null) h0 #[(.ref a), (.int t), st] := by
  refine Mt.go (Ls := #[.val (.ref a), .val (.int t), .val st]) pn0 (fun m => by rcases ref_cases h1 with rfl | ⟨_, rfl⟩ <;> rfl) ?_
  show (Go false l ({ frames := 2, cells := 0, slots := 0, locals := 29 } : Room) Z (⟨"com/example/doppelgrep/doppelgrep/engine/Group", "<init>", "(I[I)V"⟩ : MethodName) prog_36_method_1_code 3 none n0 0 0 (fun v h => v = none ∧ Keep h0 h [a] ∧ Exa Z h a "com/example/doppelgrep/doppelgrep/engine/Group" ∧ Fld Z h a "com/example/doppelgrep/doppelgrep/engine/Group" "tokens" "I" (.int t) ∧ Fld Z h a "com/example/doppelgrep/doppelgrep/engine/Group" "starts" "[I" st ∧ Fld Z h a "com/example/doppelgrep/doppelgrep/engine/Group" "ends" "[I" .null ∧ Fld Z h a "com/example/doppelgrep/doppelgrep/engine/Group" "gapped" "Z" (.int (0 : Int32)) ∧ Fld Z h a "com/example/doppelgrep/doppelgrep/engine/Group" "runs" "[[I" .null)) h0 0 0 0 #[.val (.ref a), .val (.int t), .val st] []
  refine Go.aloadN (pc' := 1) d1_0 rfl rfl rfl ?_
  refine Go.iloadN (pc' := 2) d1_1 rfl rfl ?_
  refine Go.aloadN (pc' := 3) d1_2 rfl h1 rfl ?_
  refine Go.aconstNull (pc' := 4) d1_3 rfl ?_
  refine Go.iconst (pc' := 5) (v := (0 : Int32)) d1_4 rfl rfl ?_
  refine Go.aconstNull (pc' := 6) d1_5 rfl ?_
  refine Go.callN (pc' := 9) (argsL := [(.int t), st, .null, (.int (0 : Int32)), .null]) (rest := []) (W := 0) rfl (hw _ (List.mem_of_getElem? (i := 7) rfl)) (hw _ (List.mem_of_getElem? (i := 8) rfl)) (hw _ (List.mem_of_getElem? (i := 3) rfl)) (hw _ (List.mem_of_getElem? (i := 9) rfl)) (by decide) (m_full l Z a0 hw a t st .null (0 : Int32) .null h0 n0 z0 hE htokens hstarts hends hgapped hruns hg h1 rfl (by decide) rfl) d1_6 rfl pd0 rfl rfl (Nat.le_of_eq rfl) (by decide) (by decide) (by decide) (by decide) rfl ?_
  rintro _ h_61 ⟨rfl, K_62, E_63, F_64, F_65, F_66, F_67, F_68⟩
  have f_69 : Exa Z h_61 a "com/example/doppelgrep/doppelgrep/engine/Group" := hE.keep K_62
  have t_75 : a < h_61.size := Nat.lt_of_lt_of_le hE.lt K_62.1
  have z_76 : n0 ≤ h_61.size := Nat.le_trans z0 K_62.1
  have b_77 : h0.size ≤ h_61.size := Nat.le_trans (Nat.le_refl _) K_62.1
  have K_78 : Keep h0 h_61 [a] := (Keep.refl _ _).trans K_62 (allS (Or.inl (List.mem_of_getElem? (i := 0) rfl)) all0)
  show (Go false l ({ frames := 2, cells := 0, slots := 0, locals := 29 } : Room) Z (⟨"com/example/doppelgrep/doppelgrep/engine/Group", "<init>", "(I[I)V"⟩ : MethodName) prog_36_method_1_code 3 none n0 0 0 (fun v h => v = none ∧ Keep h0 h [a] ∧ Exa Z h a "com/example/doppelgrep/doppelgrep/engine/Group" ∧ Fld Z h a "com/example/doppelgrep/doppelgrep/engine/Group" "tokens" "I" (.int t) ∧ Fld Z h a "com/example/doppelgrep/doppelgrep/engine/Group" "starts" "[I" st ∧ Fld Z h a "com/example/doppelgrep/doppelgrep/engine/Group" "ends" "[I" .null ∧ Fld Z h a "com/example/doppelgrep/doppelgrep/engine/Group" "gapped" "Z" (.int (0 : Int32)) ∧ Fld Z h a "com/example/doppelgrep/doppelgrep/engine/Group" "runs" "[[I" .null)) h_61 (0 + 0) (0 + 0) 9 #[.val (.ref a), .val (.int t), .val st] []
  exact Go.ret0 d1_9 rfl ⟨rfl, K_78, f_69, F_64, F_65, F_66, F_67, F_68⟩ (by decide) (by decide)
set_option maxRecDepth 65536 in
set_option maxHeartbeats 40000000 in
theorem m_four (l : Launch) (Z : State) (a0 : Array Value) (hw : ∀ d ∈ tables_1, d.before a0 Z = true) (a : Addr) (t : Int32) (st en : Value) (gp : Int32) (h0 : Heap) (n0 : Nat) (z0 : n0 ≤ h0.size) (hE : Exa Z h0 a "com/example/doppelgrep/doppelgrep/engine/Group") (htokens : Fld Z h0 a "com/example/doppelgrep/doppelgrep/engine/Group" "tokens" "I" (.int (0 : Int32))) (hstarts : Fld Z h0 a "com/example/doppelgrep/doppelgrep/engine/Group" "starts" "[I" .null) (hends : Fld Z h0 a "com/example/doppelgrep/doppelgrep/engine/Group" "ends" "[I" .null) (hgapped : Fld Z h0 a "com/example/doppelgrep/doppelgrep/engine/Group" "gapped" "Z" (.int (0 : Int32))) (hruns : Fld Z h0 a "com/example/doppelgrep/doppelgrep/engine/Group" "runs" "[[I" .null) (hg : n0 ≤ a) (h1 : st.isRef = true) (h2 : en.isRef = true) (hs : gp.toInt = 0 ∨ gp.toInt = 1) : Mt false l Z (⟨"com/example/doppelgrep/doppelgrep/engine/Group", "<init>", "(I[I[IZ)V"⟩ : MethodName) prog_36_method_2_code 5 none ({ frames := 2, cells := 0, slots := 0, locals := 29 } : Room) n0 (fun v h => v = none ∧ Keep h0 h [a] ∧ Exa Z h a "com/example/doppelgrep/doppelgrep/engine/Group" ∧ Fld Z h a "com/example/doppelgrep/doppelgrep/engine/Group" "tokens" "I" (.int t) ∧ Fld Z h a "com/example/doppelgrep/doppelgrep/engine/Group" "starts" "[I" st ∧ Fld Z h a "com/example/doppelgrep/doppelgrep/engine/Group" "ends" "[I" en ∧ Fld Z h a "com/example/doppelgrep/doppelgrep/engine/Group" "gapped" "Z" (.int gp) ∧ Fld Z h a "com/example/doppelgrep/doppelgrep/engine/Group" "runs" "[[I" .null) h0 #[(.ref a), (.int t), st, en, (.int gp)] := by
  refine Mt.go (Ls := #[.val (.ref a), .val (.int t), .val st, .val en, .val (.int gp)]) pn0 (fun m => by rcases ref_cases h1 with rfl | ⟨_, rfl⟩ <;> rcases ref_cases h2 with rfl | ⟨_, rfl⟩ <;> rfl) ?_
  show (Go false l ({ frames := 2, cells := 0, slots := 0, locals := 29 } : Room) Z (⟨"com/example/doppelgrep/doppelgrep/engine/Group", "<init>", "(I[I[IZ)V"⟩ : MethodName) prog_36_method_2_code 5 none n0 0 0 (fun v h => v = none ∧ Keep h0 h [a] ∧ Exa Z h a "com/example/doppelgrep/doppelgrep/engine/Group" ∧ Fld Z h a "com/example/doppelgrep/doppelgrep/engine/Group" "tokens" "I" (.int t) ∧ Fld Z h a "com/example/doppelgrep/doppelgrep/engine/Group" "starts" "[I" st ∧ Fld Z h a "com/example/doppelgrep/doppelgrep/engine/Group" "ends" "[I" en ∧ Fld Z h a "com/example/doppelgrep/doppelgrep/engine/Group" "gapped" "Z" (.int gp) ∧ Fld Z h a "com/example/doppelgrep/doppelgrep/engine/Group" "runs" "[[I" .null)) h0 0 0 0 #[.val (.ref a), .val (.int t), .val st, .val en, .val (.int gp)] []
  refine Go.aloadN (pc' := 1) d4_0 rfl rfl rfl ?_
  refine Go.iloadN (pc' := 2) d4_1 rfl rfl ?_
  refine Go.aloadN (pc' := 3) d4_2 rfl h1 rfl ?_
  refine Go.aloadN (pc' := 4) d4_3 rfl h2 rfl ?_
  refine Go.iload (pc' := 6) d4_4 rfl rfl ?_
  refine Go.aconstNull (pc' := 7) d4_6 rfl ?_
  refine Go.callN (pc' := 10) (argsL := [(.int t), st, en, (.int gp), .null]) (rest := []) (W := 0) rfl (hw _ (List.mem_of_getElem? (i := 7) rfl)) (hw _ (List.mem_of_getElem? (i := 8) rfl)) (hw _ (List.mem_of_getElem? (i := 3) rfl)) (hw _ (List.mem_of_getElem? (i := 9) rfl)) (by decide) (m_full l Z a0 hw a t st en gp .null h0 n0 z0 hE htokens hstarts hends hgapped hruns hg h1 h2 hs rfl) d4_7 rfl pd0 rfl rfl (Nat.le_of_eq rfl) (by decide) (by decide) (by decide) (by decide) rfl ?_
  rintro _ h_79 ⟨rfl, K_80, E_81, F_82, F_83, F_84, F_85, F_86⟩
  have f_87 : Exa Z h_79 a "com/example/doppelgrep/doppelgrep/engine/Group" := hE.keep K_80
  have t_93 : a < h_79.size := Nat.lt_of_lt_of_le hE.lt K_80.1
  have z_94 : n0 ≤ h_79.size := Nat.le_trans z0 K_80.1
  have b_95 : h0.size ≤ h_79.size := Nat.le_trans (Nat.le_refl _) K_80.1
  have K_96 : Keep h0 h_79 [a] := (Keep.refl _ _).trans K_80 (allS (Or.inl (List.mem_of_getElem? (i := 0) rfl)) all0)
  show (Go false l ({ frames := 2, cells := 0, slots := 0, locals := 29 } : Room) Z (⟨"com/example/doppelgrep/doppelgrep/engine/Group", "<init>", "(I[I[IZ)V"⟩ : MethodName) prog_36_method_2_code 5 none n0 0 0 (fun v h => v = none ∧ Keep h0 h [a] ∧ Exa Z h a "com/example/doppelgrep/doppelgrep/engine/Group" ∧ Fld Z h a "com/example/doppelgrep/doppelgrep/engine/Group" "tokens" "I" (.int t) ∧ Fld Z h a "com/example/doppelgrep/doppelgrep/engine/Group" "starts" "[I" st ∧ Fld Z h a "com/example/doppelgrep/doppelgrep/engine/Group" "ends" "[I" en ∧ Fld Z h a "com/example/doppelgrep/doppelgrep/engine/Group" "gapped" "Z" (.int gp) ∧ Fld Z h a "com/example/doppelgrep/doppelgrep/engine/Group" "runs" "[[I" .null)) h_79 (0 + 0) (0 + 0) 10 #[.val (.ref a), .val (.int t), .val st, .val en, .val (.int gp)] []
  exact Go.ret0 d4_10 rfl ⟨rfl, K_96, f_87, F_82, F_83, F_84, F_85, F_86⟩ (by decide) (by decide)
set_option maxRecDepth 65536 in
set_option maxHeartbeats 40000000 in
theorem m_endN (l : Launch) (Z : State) (a0 : Array Value) (hw : ∀ d ∈ tables_1, d.before a0 Z = true) (a b : Addr) (i t x : Int32) (k : Nat) (vs : List Value) (h0 : Heap) (n0 : Nat) (z0 : n0 ≤ h0.size) (hF : Fld Z h0 a "com/example/doppelgrep/doppelgrep/engine/Group" "ends" "[I" .null) (hG : Fld Z h0 a "com/example/doppelgrep/doppelgrep/engine/Group" "starts" "[I" (.ref b)) (hH : Fld Z h0 a "com/example/doppelgrep/doppelgrep/engine/Group" "tokens" "I" (.int t)) (hA : Ary Z h0 b .int vs) (hi : i.toInt = (k : Int)) (hx : vs[k]? = some (.int x)) : Mt false l Z (⟨"com/example/doppelgrep/doppelgrep/engine/Group", "end", "(I)I"⟩ : MethodName) prog_36_method_8_code 2 (some .int) ({ frames := 0, cells := 0, slots := 0, locals := 0 } : Room) n0 (fun v h => v = some (.int (x + t)) ∧ h0 = h) h0 #[(.ref a), (.int i)] := by
  refine Mt.go (Ls := #[.val (.ref a), .val (.int i)]) pn0 (fun m => by rfl) ?_
  show (Go false l ({ frames := 0, cells := 0, slots := 0, locals := 0 } : Room) Z (⟨"com/example/doppelgrep/doppelgrep/engine/Group", "end", "(I)I"⟩ : MethodName) prog_36_method_8_code 2 (some .int) n0 0 0 (fun v h => v = some (.int (x + t)) ∧ h0 = h)) h0 0 0 0 #[.val (.ref a), .val (.int i)] []
  refine Go.aloadN (pc' := 1) d5_0 rfl rfl rfl ?_
  refine Go.getF (pc' := 4) (hw _ (List.mem_of_getElem? (i := 17) rfl)) hF d5_1 rfl ?_
  refine Go.nonnullNo (pc' := 7) d5_4 rfl ?_
  refine Go.aloadN (pc' := 8) d5_7 rfl rfl rfl ?_
  refine Go.getF (pc' := 11) (hw _ (List.mem_of_getElem? (i := 15) rfl)) hG d5_8 rfl ?_
  refine Go.iloadN (pc' := 12) d5_11 rfl rfl ?_
  refine Go.ldI (pc' := 13) (k := k) (v := (.int x)) hA hi hx d5_12 rfl ?_
  refine Go.aloadN (pc' := 14) d5_13 rfl rfl rfl ?_
  refine Go.getF (pc' := 17) (hw _ (List.mem_of_getElem? (i := 13) rfl)) hH d5_14 rfl ?_
  refine Go.iadd (pc' := 18) d5_17 rfl ?_
  refine Go.goto (pc' := 27) d5_18 (by decide) (by decide) ?_
  exact Go.retI d5_27 rfl ⟨rfl, rfl⟩ (by decide) (by decide)
set_option maxRecDepth 65536 in
set_option maxHeartbeats 40000000 in
theorem m_endE (l : Launch) (Z : State) (a0 : Array Value) (hw : ∀ d ∈ tables_1, d.before a0 Z = true) (a b : Addr) (i x : Int32) (k : Nat) (vs : List Value) (h0 : Heap) (n0 : Nat) (z0 : n0 ≤ h0.size) (hF : Fld Z h0 a "com/example/doppelgrep/doppelgrep/engine/Group" "ends" "[I" (.ref b)) (hA : Ary Z h0 b .int vs) (hi : i.toInt = (k : Int)) (hx : vs[k]? = some (.int x)) : Mt false l Z (⟨"com/example/doppelgrep/doppelgrep/engine/Group", "end", "(I)I"⟩ : MethodName) prog_36_method_8_code 2 (some .int) ({ frames := 0, cells := 0, slots := 0, locals := 0 } : Room) n0 (fun v h => v = some (.int x) ∧ h0 = h) h0 #[(.ref a), (.int i)] := by
  refine Mt.go (Ls := #[.val (.ref a), .val (.int i)]) pn0 (fun m => by rfl) ?_
  show (Go false l ({ frames := 0, cells := 0, slots := 0, locals := 0 } : Room) Z (⟨"com/example/doppelgrep/doppelgrep/engine/Group", "end", "(I)I"⟩ : MethodName) prog_36_method_8_code 2 (some .int) n0 0 0 (fun v h => v = some (.int x) ∧ h0 = h)) h0 0 0 0 #[.val (.ref a), .val (.int i)] []
  refine Go.aloadN (pc' := 1) d5_0 rfl rfl rfl ?_
  refine Go.getF (pc' := 4) (hw _ (List.mem_of_getElem? (i := 17) rfl)) hF d5_1 rfl ?_
  refine Go.nonnullYes (pc' := 21) d5_4 (by decide) (by decide) ?_
  refine Go.aloadN (pc' := 22) d5_21 rfl rfl rfl ?_
  refine Go.getF (pc' := 25) (hw _ (List.mem_of_getElem? (i := 17) rfl)) hF d5_22 rfl ?_
  refine Go.iloadN (pc' := 26) d5_25 rfl rfl ?_
  refine Go.ldI (pc' := 27) (k := k) (v := (.int x)) hA hi hx d5_26 rfl ?_
  exact Go.retI d5_27 rfl ⟨rfl, rfl⟩ (by decide) (by decide)
set_option maxRecDepth 65536 in
set_option maxHeartbeats 40000000 in
theorem rm1 (l : Launch) (Z : State) (a0 : Array Value) (hw : ∀ d ∈ tables_1, d.before a0 Z = true) (ws : List Jvm.Cond) (t0 s0 s1 e0 e1 c0 : Int32) (h0 : Heap) (n0 : Nat) (z0 : n0 ≤ h0.size)  : MetFree l x (head1 (Jvm.Cond.code x code maxLocals ret :: ws) room_1) (fun a U => a = #[(.int t0), (.int s0), (.int s1), (.int e0), (.int e1), (.int c0)] ∧ Z.Warmed39 U.vm ∧ U.heap = h0) (fun _ _ _ _ _ => True) (fun _ U o U' => ∃ v L, o = .returned v ∧ (((fun v h => v = some (.int 1)) v U'.heap ∧ h0.size ≤ U'.heap.size) ∧ Fr n0 L) ∧ GoEnd false U o U' L 16 128) := by
  refine met_go (y := x) (Q := fun v h => v = some (.int 1)) (Ls := #[.val (.int t0), .val (.int s0), .val (.int s1), .val (.int e0), .val (.int e1), .val (.int c0), .unset, .unset, .unset, .unset, .unset, .unset]) pn1 (fun m => by first | rfl | (simp [entryFrame, mkF, argsToLocals, Value.category, maxLocals]; done)) ?_
  show (Go false l room_1 Z x code maxLocals ret n0 16 128 (fun v h => v = some (.int 1))) h0 0 0 0 #[.val (.int t0), .val (.int s0), .val (.int s1), .val (.int e0), .val (.int e1), .val (.int c0), .unset, .unset, .unset, .unset, .unset, .unset] []
  refine Go.iconst (pc' := 1) (v := (2 : Int32)) at_0 rfl rfl ?_
  refine Go.newA (pc' := 3) (k := 2) (ty := .int) (cap := 2) (hw _ (List.mem_of_getElem? (i := 0) rfl)) rfl rfl (by decide) (by decide) at_1 (by decide) (by decide) rfl ?_
  intro h_97 a_98 q_99 E_100 A_101
  have g_103 : n0 ≤ a_98 := q_99 ▸ z0
  have z_104 : n0 ≤ h_97.size := Nat.le_trans z0 E_100.1
  have t_105 : a_98 < h_97.size := A_101.lt
  change Ary Z h_97 a_98 .int [(.int (0 : Int32)), (.int (0 : Int32))] at A_101
  refine Go.dup (pc' := 4) at_3 rfl rfl ?_
  refine Go.iconst (pc' := 5) (v := (0 : Int32)) at_4 rfl rfl ?_
  refine Go.iloadN (pc' := 6) at_5 rfl rfl ?_
  refine Go.stI (pc' := 7) (k := 0) A_101 rfl (by show 0 < 2; decide) at_6 g_103 rfl ?_
  intro h_106 W_107 A_108
  have t_109 : a_98 < h_106.size := Nat.lt_of_lt_of_le t_105 (Nat.le_of_eq W_107.size.symm)
  have z_110 : n0 ≤ h_106.size := Nat.le_trans z_104 (Nat.le_of_eq W_107.size.symm)
  change Ary Z h_106 a_98 .int [(.int s0), (.int (0 : Int32))] at A_108
  refine Go.dup (pc' := 8) at_7 rfl rfl ?_
  refine Go.iconst (pc' := 9) (v := (1 : Int32)) at_8 rfl rfl ?_
  refine Go.iloadN (pc' := 10) at_9 rfl rfl ?_
  refine Go.stI (pc' := 11) (k := 1) A_108 rfl (by show 1 < 2; decide) at_10 g_103 rfl ?_
  intro h_111 W_112 A_113
  have t_114 : a_98 < h_111.size := Nat.lt_of_lt_of_le t_109 (Nat.le_of_eq W_112.size.symm)
  have z_115 : n0 ≤ h_111.size := Nat.le_trans z_110 (Nat.le_of_eq W_112.size.symm)
  change Ary Z h_111 a_98 .int [(.int s0), (.int s1)] at A_113
  refine Go.astore (pc' := 13) (Ls' := #[.val (.int t0), .val (.int s0), .val (.int s1), .val (.int e0), .val (.int e1), .val (.int c0), .val (.ref a_98), .unset, .unset, .unset, .unset, .unset]) at_11 rfl rfl rfl ?_
  refine Go.iconst (pc' := 14) (v := (2 : Int32)) at_13 rfl rfl ?_
  refine Go.newA (pc' := 16) (k := 2) (ty := .int) (cap := 2) (hw _ (List.mem_of_getElem? (i := 0) rfl)) rfl rfl (by decide) (by decide) at_14 (by decide) (by decide) rfl ?_
  intro h_116 a_117 q_118 E_119 A_120
  have n_122 : a_98 ≠ a_117 := Nat.ne_of_lt (q_118 ▸ t_114)
  have g_123 : n0 ≤ a_117 := q_118 ▸ z_115
  have f_124 : Ary Z h_116 a_98 .int [(.int s0), (.int s1)] := A_113.sm (Sm.ext E_119)
  have t_125 : a_98 < h_116.size := Nat.lt_of_lt_of_le t_114 E_119.1
  have z_126 : n0 ≤ h_116.size := Nat.le_trans z_115 E_119.1
  have t_127 : a_117 < h_116.size := A_120.lt
  change Ary Z h_116 a_117 .int [(.int (0 : Int32)), (.int (0 : Int32))] at A_120
  refine Go.dup (pc' := 17) at_16 rfl rfl ?_
  refine Go.iconst (pc' := 18) (v := (0 : Int32)) at_17 rfl rfl ?_
  refine Go.iloadN (pc' := 19) at_18 rfl rfl ?_
  refine Go.stI (pc' := 20) (k := 0) A_120 rfl (by show 0 < 2; decide) at_19 g_123 rfl ?_
  intro h_128 W_129 A_130
  have f_131 : Ary Z h_128 a_98 .int [(.int s0), (.int s1)] := f_124.sm (Sm.wr W_129 n_122)
  have t_132 : a_98 < h_128.size := Nat.lt_of_lt_of_le t_125 (Nat.le_of_eq W_129.size.symm)
  have t_133 : a_117 < h_128.size := Nat.lt_of_lt_of_le t_127 (Nat.le_of_eq W_129.size.symm)
  have z_134 : n0 ≤ h_128.size := Nat.le_trans z_126 (Nat.le_of_eq W_129.size.symm)
  change Ary Z h_128 a_117 .int [(.int e0), (.int (0 : Int32))] at A_130
  refine Go.dup (pc' := 21) at_20 rfl rfl ?_
  refine Go.iconst (pc' := 22) (v := (1 : Int32)) at_21 rfl rfl ?_
  refine Go.iload (pc' := 24) at_22 rfl rfl ?_
  refine Go.stI (pc' := 25) (k := 1) A_130 rfl (by show 1 < 2; decide) at_24 g_123 rfl ?_
  intro h_135 W_136 A_137
  have f_138 : Ary Z h_135 a_98 .int [(.int s0), (.int s1)] := f_131.sm (Sm.wr W_136 n_122)
  have t_139 : a_98 < h_135.size := Nat.lt_of_lt_of_le t_132 (Nat.le_of_eq W_136.size.symm)
  have t_140 : a_117 < h_135.size := Nat.lt_of_lt_of_le t_133 (Nat.le_of_eq W_136.size.symm)
  have z_141 : n0 ≤ h_135.size := Nat.le_trans z_134 (Nat.le_of_eq W_136.size.symm)
  change Ary Z h_135 a_117 .int [(.int e0), (.int e1)] at A_137
  refine Go.astore (pc' := 27) (Ls' := #[.val (.int t0), .val (.int s0), .val (.int s1), .val (.int e0), .val (.int e1), .val (.int c0), .val (.ref a_98), .val (.ref a_117), .unset, .unset, .unset, .unset]) at_25 rfl rfl rfl ?_
  refine Go.iload (pc' := 29) at_27 rfl rfl ?_
  refine Go.iconst (pc' := 30) (v := (1 : Int32)) at_29 rfl rfl ?_
  refine Go.iand (pc' := 31) at_30 rfl ?_
  have J1 : ∀ s : Int32, (s.toInt = 0 ∨ s.toInt = 1) → (Go false l room_1 Z x code maxLocals ret n0 16 128 (fun v h => v = some (.int 1))) h_135 (0 + 1 + 1) (0 + 2 + 2) 39 #[.val (.int t0), .val (.int s0), .val (.int s1), .val (.int e0), .val (.int e1), .val (.int c0), .val (.ref a_98), .val (.ref a_117), .unset, .unset, .unset, .unset] [(.int s)] := by
    intro s hs
    refine Go.istore (pc' := 41) (Ls' := #[.val (.int t0), .val (.int s0), .val (.int s1), .val (.int e0), .val (.int e1), .val (.int c0), .val (.ref a_98), .val (.ref a_117), .val (.int s), .unset, .unset, .unset]) at_39 rfl rfl ?_
    refine Go.newO (pc' := 44) (hw _ (List.mem_of_getElem? (i := 1) rfl)) (hw _ (List.mem_of_getElem? (i := 2) rfl)) (hw _ (List.mem_of_getElem? (i := 3) rfl)) at_41 (by decide) (by decide) rfl ?_
    intro h_142 a_143 q_144 E_145 A_146 D_147
    have n_148 : a_98 ≠ a_143 := Nat.ne_of_lt (q_144 ▸ t_139)
    have n_149 : a_117 ≠ a_143 := Nat.ne_of_lt (q_144 ▸ t_140)
    have g_150 : n0 ≤ a_143 := q_144 ▸ z_141
    have f_151 : Ary Z h_142 a_98 .int [(.int s0), (.int s1)] := f_138.sm (Sm.ext E_145)
    have f_152 : Ary Z h_142 a_117 .int [(.int e0), (.int e1)] := A_137.sm (Sm.ext E_145)
    have t_153 : a_98 < h_142.size := Nat.lt_of_lt_of_le t_139 E_145.1
    have t_154 : a_117 < h_142.size := Nat.lt_of_lt_of_le t_140 E_145.1
    have z_155 : n0 ≤ h_142.size := Nat.le_trans z_141 E_145.1
    have t_156 : a_143 < h_142.size := A_146.lt
    have f_157 : Fld Z h_142 a_143 "com/example/doppelgrep/doppelgrep/engine/Group" "tokens" "I" (.int (0 : Int32)) := D_147 (Or.inr (hw _ (List.mem_of_getElem? (i := 14) rfl))) (ty := .int) (by decide)
    have f_158 : Fld Z h_142 a_143 "com/example/doppelgrep/doppelgrep/engine/Group" "starts" "[I" .null := D_147 (Or.inr (hw _ (List.mem_of_getElem? (i := 16) rfl))) (ty := (.array .int)) (by decide)
    have f_159 : Fld Z h_142 a_143 "com/example/doppelgrep/doppelgrep/engine/Group" "ends" "[I" .null := D_147 (Or.inr (hw _ (List.mem_of_getElem? (i := 18) rfl))) (ty := (.array .int)) (by decide)
    have f_160 : Fld Z h_142 a_143 "com/example/doppelgrep/doppelgrep/engine/Group" "gapped" "Z" (.int (0 : Int32)) := D_147 (Or.inr (hw _ (List.mem_of_getElem? (i := 20) rfl))) (ty := .boolean) (by decide)
    have f_161 : Fld Z h_142 a_143 "com/example/doppelgrep/doppelgrep/engine/Group" "runs" "[[I" .null := D_147 (Or.inr (hw _ (List.mem_of_getElem? (i := 22) rfl))) (ty := (.array (.array .int))) (by decide)
    refine Go.dup (pc' := 45) at_44 rfl rfl ?_
    refine Go.iloadN (pc' := 46) at_45 rfl rfl ?_
    refine Go.aload (pc' := 48) at_46 rfl rfl rfl ?_
    refine Go.callN (pc' := 51) (argsL := [(.int t0), (.ref a_98)]) (rest := [(.ref a_143)]) (W := 1) rfl (hw _ (List.mem_of_getElem? (i := 4) rfl)) (hw _ (List.mem_of_getElem? (i := 5) rfl)) (hw _ (List.mem_of_getElem? (i := 3) rfl)) (hw _ (List.mem_of_getElem? (i := 6) rfl)) (by decide) (m_two l Z a0 hw a_143 t0 (.ref a_98) h_142 n0 z_155 A_146 f_157 f_158 f_159 f_160 f_161 g_150 rfl) at_48 rfl pd1 rfl rfl (Nat.le_of_eq rfl) (by decide) (by decide) (by decide) (by decide) rfl ?_
    rintro _ h_162 ⟨rfl, K_163, E_164, F_165, F_166, F_167, F_168, F_169⟩
    have f_170 : Ary Z h_162 a_98 .int [(.int s0), (.int s1)] := f_151.sm (Sm.keep K_163 (ninS n_148 nin0))
    have f_171 : Ary Z h_162 a_117 .int [(.int e0), (.int e1)] := f_152.sm (Sm.keep K_163 (ninS n_149 nin0))
    have f_172 : Exa Z h_162 a_143 "com/example/doppelgrep/doppelgrep/engine/Group" := A_146.keep K_163
    have t_178 : a_98 < h_162.size := Nat.lt_of_lt_of_le t_153 K_163.1
    have t_179 : a_117 < h_162.size := Nat.lt_of_lt_of_le t_154 K_163.1
    have t_180 : a_143 < h_162.size := Nat.lt_of_lt_of_le t_156 K_163.1
    have z_181 : n0 ≤ h_162.size := Nat.le_trans z_155 K_163.1
    show (Go false l room_1 Z x code maxLocals ret n0 16 128 (fun v h => v = some (.int 1))) h_162 (0 + 1 + 1 + 1 + 0) (0 + 2 + 2 + 5 + 0) 51 #[.val (.int t0), .val (.int s0), .val (.int s1), .val (.int e0), .val (.int e1), .val (.int c0), .val (.ref a_98), .val (.ref a_117), .val (.int s), .unset, .unset, .unset] [(.ref a_143)]
    refine Go.astore (pc' := 53) (Ls' := #[.val (.int t0), .val (.int s0), .val (.int s1), .val (.int e0), .val (.int e1), .val (.int c0), .val (.ref a_98), .val (.ref a_117), .val (.int s), .val (.ref a_143), .unset, .unset]) at_51 rfl rfl rfl ?_
    refine Go.newO (pc' := 56) (hw _ (List.mem_of_getElem? (i := 1) rfl)) (hw _ (List.mem_of_getElem? (i := 2) rfl)) (hw _ (List.mem_of_getElem? (i := 3) rfl)) at_53 (by decide) (by decide) rfl ?_
    intro h_182 a_183 q_184 E_185 A_186 D_187
    have n_188 : a_98 ≠ a_183 := Nat.ne_of_lt (q_184 ▸ t_178)
    have n_189 : a_117 ≠ a_183 := Nat.ne_of_lt (q_184 ▸ t_179)
    have n_190 : a_143 ≠ a_183 := Nat.ne_of_lt (q_184 ▸ t_180)
    have g_191 : n0 ≤ a_183 := q_184 ▸ z_181
    have f_192 : Ary Z h_182 a_98 .int [(.int s0), (.int s1)] := f_170.sm (Sm.ext E_185)
    have f_193 : Ary Z h_182 a_117 .int [(.int e0), (.int e1)] := f_171.sm (Sm.ext E_185)
    have f_194 : Exa Z h_182 a_143 "com/example/doppelgrep/doppelgrep/engine/Group" := f_172.sm (Sm.ext E_185)
    have f_195 : Fld Z h_182 a_143 "com/example/doppelgrep/doppelgrep/engine/Group" "tokens" "I" (.int t0) := F_165.sm (Sm.ext E_185)
    have f_196 : Fld Z h_182 a_143 "com/example/doppelgrep/doppelgrep/engine/Group" "starts" "[I" (.ref a_98) := F_166.sm (Sm.ext E_185)
    have f_197 : Fld Z h_182 a_143 "com/example/doppelgrep/doppelgrep/engine/Group" "ends" "[I" .null := F_167.sm (Sm.ext E_185)
    have f_198 : Fld Z h_182 a_143 "com/example/doppelgrep/doppelgrep/engine/Group" "gapped" "Z" (.int (0 : Int32)) := F_168.sm (Sm.ext E_185)
    have f_199 : Fld Z h_182 a_143 "com/example/doppelgrep/doppelgrep/engine/Group" "runs" "[[I" .null := F_169.sm (Sm.ext E_185)
    have t_200 : a_98 < h_182.size := Nat.lt_of_lt_of_le t_178 E_185.1
    have t_201 : a_117 < h_182.size := Nat.lt_of_lt_of_le t_179 E_185.1
    have t_202 : a_143 < h_182.size := Nat.lt_of_lt_of_le t_180 E_185.1
    have z_203 : n0 ≤ h_182.size := Nat.le_trans z_181 E_185.1
    have t_204 : a_183 < h_182.size := A_186.lt
    have f_205 : Fld Z h_182 a_183 "com/example/doppelgrep/doppelgrep/engine/Group" "tokens" "I" (.int (0 : Int32)) := D_187 (Or.inr (hw _ (List.mem_of_getElem? (i := 14) rfl))) (ty := .int) (by decide)
    have f_206 : Fld Z h_182 a_183 "com/example/doppelgrep/doppelgrep/engine/Group" "starts" "[I" .null := D_187 (Or.inr (hw _ (List.mem_of_getElem? (i := 16) rfl))) (ty := (.array .int)) (by decide)
    have f_207 : Fld Z h_182 a_183 "com/example/doppelgrep/doppelgrep/engine/Group" "ends" "[I" .null := D_187 (Or.inr (hw _ (List.mem_of_getElem? (i := 18) rfl))) (ty := (.array .int)) (by decide)
    have f_208 : Fld Z h_182 a_183 "com/example/doppelgrep/doppelgrep/engine/Group" "gapped" "Z" (.int (0 : Int32)) := D_187 (Or.inr (hw _ (List.mem_of_getElem? (i := 20) rfl))) (ty := .boolean) (by decide)
    have f_209 : Fld Z h_182 a_183 "com/example/doppelgrep/doppelgrep/engine/Group" "runs" "[[I" .null := D_187 (Or.inr (hw _ (List.mem_of_getElem? (i := 22) rfl))) (ty := (.array (.array .int))) (by decide)
    refine Go.dup (pc' := 57) at_56 rfl rfl ?_
    refine Go.iloadN (pc' := 58) at_57 rfl rfl ?_
    refine Go.aload (pc' := 60) at_58 rfl rfl rfl ?_
    refine Go.aload (pc' := 62) at_60 rfl rfl rfl ?_
    refine Go.iload (pc' := 64) at_62 rfl rfl ?_
    refine Go.callN (pc' := 67) (argsL := [(.int t0), (.ref a_98), (.ref a_117), (.int s)]) (rest := [(.ref a_183)]) (W := 1) rfl (hw _ (List.mem_of_getElem? (i := 23) rfl)) (hw _ (List.mem_of_getElem? (i := 24) rfl)) (hw _ (List.mem_of_getElem? (i := 3) rfl)) (hw _ (List.mem_of_getElem? (i := 25) rfl)) (by decide) (m_four l Z a0 hw a_183 t0 (.ref a_98) (.ref a_117) s h_182 n0 z_203 A_186 f_205 f_206 f_207 f_208 f_209 g_191 rfl rfl hs) at_64 rfl pd2 rfl rfl (Nat.le_of_eq rfl) (by decide) (by decide) (by decide) (by decide) rfl ?_
    rintro _ h_210 ⟨rfl, K_211, E_212, F_213, F_214, F_215, F_216, F_217⟩
    have f_218 : Ary Z h_210 a_98 .int [(.int s0), (.int s1)] := f_192.sm (Sm.keep K_211 (ninS n_188 nin0))
    have f_219 : Ary Z h_210 a_117 .int [(.int e0), (.int e1)] := f_193.sm (Sm.keep K_211 (ninS n_189 nin0))
    have f_220 : Exa Z h_210 a_143 "com/example/doppelgrep/doppelgrep/engine/Group" := f_194.sm (Sm.keep K_211 (ninS n_190 nin0))
    have f_221 : Fld Z h_210 a_143 "com/example/doppelgrep/doppelgrep/engine/Group" "tokens" "I" (.int t0) := f_195.sm (Sm.keep K_211 (ninS n_190 nin0))
    have f_222 : Fld Z h_210 a_143 "com/example/doppelgrep/doppelgrep/engine/Group" "starts" "[I" (.ref a_98) := f_196.sm (Sm.keep K_211 (ninS n_190 nin0))
    have f_223 : Fld Z h_210 a_143 "com/example/doppelgrep/doppelgrep/engine/Group" "ends" "[I" .null := f_197.sm (Sm.keep K_211 (ninS n_190 nin0))
    have f_224 : Fld Z h_210 a_143 "com/example/doppelgrep/doppelgrep/engine/Group" "gapped" "Z" (.int (0 : Int32)) := f_198.sm (Sm.keep K_211 (ninS n_190 nin0))
    have f_225 : Fld Z h_210 a_143 "com/example/doppelgrep/doppelgrep/engine/Group" "runs" "[[I" .null := f_199.sm (Sm.keep K_211 (ninS n_190 nin0))
    have f_226 : Exa Z h_210 a_183 "com/example/doppelgrep/doppelgrep/engine/Group" := A_186.keep K_211
    have t_232 : a_98 < h_210.size := Nat.lt_of_lt_of_le t_200 K_211.1
    have t_233 : a_117 < h_210.size := Nat.lt_of_lt_of_le t_201 K_211.1
    have t_234 : a_143 < h_210.size := Nat.lt_of_lt_of_le t_202 K_211.1
    have t_235 : a_183 < h_210.size := Nat.lt_of_lt_of_le t_204 K_211.1
    have z_236 : n0 ≤ h_210.size := Nat.le_trans z_203 K_211.1
    show (Go false l room_1 Z x code maxLocals ret n0 16 128 (fun v h => v = some (.int 1))) h_210 (0 + 1 + 1 + 1 + 0 + 1 + 0) (0 + 2 + 2 + 5 + 0 + 5 + 0) 67 #[.val (.int t0), .val (.int s0), .val (.int s1), .val (.int e0), .val (.int e1), .val (.int c0), .val (.ref a_98), .val (.ref a_117), .val (.int s), .val (.ref a_143), .unset, .unset] [(.ref a_183)]
    refine Go.astore (pc' := 69) (Ls' := #[.val (.int t0), .val (.int s0), .val (.int s1), .val (.int e0), .val (.int e1), .val (.int c0), .val (.ref a_98), .val (.ref a_117), .val (.int s), .val (.ref a_143), .val (.ref a_183), .unset]) at_67 rfl rfl rfl ?_
    refine Go.aload (pc' := 71) at_69 rfl rfl rfl ?_
    refine Go.iconst (pc' := 72) (v := (0 : Int32)) at_71 rfl rfl ?_
    refine Go.callV (pc' := 75) (argsL := [(.int (0 : Int32))]) (rest := []) (W := 0) (hw _ (List.mem_of_getElem? (i := 26) rfl)) (hw _ (List.mem_of_getElem? (i := 27) rfl)) (hw _ (List.mem_of_getElem? (i := 29) rfl)) (hw _ (List.mem_of_getElem? (i := 28) rfl)) (hw _ (List.mem_of_getElem? (i := 3) rfl)) (hw _ (List.mem_of_getElem? (i := 30) rfl)) (by decide) f_220 (m_endN l Z a0 hw a_143 a_98 (0 : Int32) t0 s0 0 [(.int s0), (.int s1)] h_210 n0 z_236 f_223 f_222 f_221 f_218 rfl rfl) at_72 rfl pd3 rfl rfl (Nat.le_of_eq rfl) (by decide) (by decide) (by decide) (by decide) rfl ?_
    rintro _ _ ⟨rfl, rfl⟩
    show (Go false l room_1 Z x code maxLocals ret n0 16 128 (fun v h => v = some (.int 1))) h_210 (0 + 1 + 1 + 1 + 0 + 1 + 0 + 0) (0 + 2 + 2 + 5 + 0 + 5 + 0 + 0) 75 #[.val (.int t0), .val (.int s0), .val (.int s1), .val (.int e0), .val (.int e1), .val (.int c0), .val (.ref a_98), .val (.ref a_117), .val (.int s), .val (.ref a_143), .val (.ref a_183), .unset] [(.int (s0 + t0))]
    refine Go.iloadN (pc' := 76) at_75 rfl rfl ?_
    refine Go.iloadN (pc' := 77) at_76 rfl rfl ?_
    refine Go.iadd (pc' := 78) at_77 rfl ?_
    refine Go.icmp (pc1 := 97) (pc2 := 81) at_78 (by decide) (by decide) rfl (fun (c_237 : (s0 + t0).toInt ≠ (s0 + t0).toInt) => ?_) (fun (c_237 : (s0 + t0).toInt = (s0 + t0).toInt) => ?_)
    · exact absurd rfl c_237
    refine Go.aload (pc' := 83) at_81 rfl rfl rfl ?_
    refine Go.iconst (pc' := 84) (v := (1 : Int32)) at_83 rfl rfl ?_
    refine Go.callV (pc' := 87) (argsL := [(.int (1 : Int32))]) (rest := []) (W := 0) (hw _ (List.mem_of_getElem? (i := 26) rfl)) (hw _ (List.mem_of_getElem? (i := 27) rfl)) (hw _ (List.mem_of_getElem? (i := 29) rfl)) (hw _ (List.mem_of_getElem? (i := 28) rfl)) (hw _ (List.mem_of_getElem? (i := 3) rfl)) (hw _ (List.mem_of_getElem? (i := 30) rfl)) (by decide) f_220 (m_endN l Z a0 hw a_143 a_98 (1 : Int32) t0 s1 1 [(.int s0), (.int s1)] h_210 n0 z_236 f_223 f_222 f_221 f_218 rfl rfl) at_84 rfl pd3 rfl rfl (Nat.le_of_eq rfl) (by decide) (by decide) (by decide) (by decide) rfl ?_
    rintro _ _ ⟨rfl, rfl⟩
    show (Go false l room_1 Z x code maxLocals ret n0 16 128 (fun v h => v = some (.int 1))) h_210 (0 + 1 + 1 + 1 + 0 + 1 + 0 + 0 + 0) (0 + 2 + 2 + 5 + 0 + 5 + 0 + 0 + 0) 87 #[.val (.int t0), .val (.int s0), .val (.int s1), .val (.int e0), .val (.int e1), .val (.int c0), .val (.ref a_98), .val (.ref a_117), .val (.int s), .val (.ref a_143), .val (.ref a_183), .unset] [(.int (s1 + t0))]
    refine Go.iloadN (pc' := 88) at_87 rfl rfl ?_
    refine Go.iloadN (pc' := 89) at_88 rfl rfl ?_
    refine Go.iadd (pc' := 90) at_89 rfl ?_
    refine Go.icmp (pc1 := 97) (pc2 := 93) at_90 (by decide) (by decide) rfl (fun (c_238 : (s1 + t0).toInt ≠ (s1 + t0).toInt) => ?_) (fun (c_238 : (s1 + t0).toInt = (s1 + t0).toInt) => ?_)
    · exact absurd rfl c_238
    refine Go.iconst (pc' := 94) (v := (1 : Int32)) at_93 rfl rfl ?_
    refine Go.goto (pc' := 98) at_94 (by decide) (by decide) ?_
    refine Go.istore (pc' := 100) (Ls' := #[.val (.int t0), .val (.int s0), .val (.int s1), .val (.int e0), .val (.int e1), .val (.int c0), .val (.ref a_98), .val (.ref a_117), .val (.int s), .val (.ref a_143), .val (.ref a_183), .val (.int (1 : Int32))]) at_98 rfl rfl ?_
    refine Go.iload (pc' := 102) at_100 rfl rfl ?_
    refine Go.ifc (pc1 := 130) (pc2 := 105) at_102 (by decide) (by decide) rfl (fun (c_239 : (1 : Int) = 0) => ?_) (fun (c_239 : (1 : Int) ≠ 0) => ?_)
    · exact absurd c_239 (by decide)
    refine Go.aload (pc' := 107) at_105 rfl rfl rfl ?_
    refine Go.iconst (pc' := 108) (v := (0 : Int32)) at_107 rfl rfl ?_
    refine Go.callV (pc' := 111) (argsL := [(.int (0 : Int32))]) (rest := []) (W := 0) (hw _ (List.mem_of_getElem? (i := 26) rfl)) (hw _ (List.mem_of_getElem? (i := 27) rfl)) (hw _ (List.mem_of_getElem? (i := 29) rfl)) (hw _ (List.mem_of_getElem? (i := 28) rfl)) (hw _ (List.mem_of_getElem? (i := 3) rfl)) (hw _ (List.mem_of_getElem? (i := 30) rfl)) (by decide) f_226 (m_endE l Z a0 hw a_183 a_117 (0 : Int32) e0 0 [(.int e0), (.int e1)] h_210 n0 z_236 F_215 f_219 rfl rfl) at_108 rfl pd3 rfl rfl (Nat.le_of_eq rfl) (by decide) (by decide) (by decide) (by decide) rfl ?_
    rintro _ _ ⟨rfl, rfl⟩
    show (Go false l room_1 Z x code maxLocals ret n0 16 128 (fun v h => v = some (.int 1))) h_210 (0 + 1 + 1 + 1 + 0 + 1 + 0 + 0 + 0 + 0) (0 + 2 + 2 + 5 + 0 + 5 + 0 + 0 + 0 + 0) 111 #[.val (.int t0), .val (.int s0), .val (.int s1), .val (.int e0), .val (.int e1), .val (.int c0), .val (.ref a_98), .val (.ref a_117), .val (.int s), .val (.ref a_143), .val (.ref a_183), .val (.int (1 : Int32))] [(.int e0)]
    refine Go.iloadN (pc' := 112) at_111 rfl rfl ?_
    refine Go.icmp (pc1 := 130) (pc2 := 115) at_112 (by decide) (by decide) rfl (fun (c_240 : e0.toInt ≠ e0.toInt) => ?_) (fun (c_240 : e0.toInt = e0.toInt) => ?_)
    · exact absurd rfl c_240
    refine Go.aload (pc' := 117) at_115 rfl rfl rfl ?_
    refine Go.iconst (pc' := 118) (v := (1 : Int32)) at_117 rfl rfl ?_
    refine Go.callV (pc' := 121) (argsL := [(.int (1 : Int32))]) (rest := []) (W := 0) (hw _ (List.mem_of_getElem? (i := 26) rfl)) (hw _ (List.mem_of_getElem? (i := 27) rfl)) (hw _ (List.mem_of_getElem? (i := 29) rfl)) (hw _ (List.mem_of_getElem? (i := 28) rfl)) (hw _ (List.mem_of_getElem? (i := 3) rfl)) (hw _ (List.mem_of_getElem? (i := 30) rfl)) (by decide) f_226 (m_endE l Z a0 hw a_183 a_117 (1 : Int32) e1 1 [(.int e0), (.int e1)] h_210 n0 z_236 F_215 f_219 rfl rfl) at_118 rfl pd3 rfl rfl (Nat.le_of_eq rfl) (by decide) (by decide) (by decide) (by decide) rfl ?_
    rintro _ _ ⟨rfl, rfl⟩
    show (Go false l room_1 Z x code maxLocals ret n0 16 128 (fun v h => v = some (.int 1))) h_210 (0 + 1 + 1 + 1 + 0 + 1 + 0 + 0 + 0 + 0 + 0) (0 + 2 + 2 + 5 + 0 + 5 + 0 + 0 + 0 + 0 + 0) 121 #[.val (.int t0), .val (.int s0), .val (.int s1), .val (.int e0), .val (.int e1), .val (.int c0), .val (.ref a_98), .val (.ref a_117), .val (.int s), .val (.ref a_143), .val (.ref a_183), .val (.int (1 : Int32))] [(.int e1)]
    refine Go.iload (pc' := 123) at_121 rfl rfl ?_
    refine Go.icmp (pc1 := 130) (pc2 := 126) at_123 (by decide) (by decide) rfl (fun (c_241 : e1.toInt ≠ e1.toInt) => ?_) (fun (c_241 : e1.toInt = e1.toInt) => ?_)
    · exact absurd rfl c_241
    refine Go.iconst (pc' := 127) (v := (1 : Int32)) at_126 rfl rfl ?_
    refine Go.goto (pc' := 131) at_127 (by decide) (by decide) ?_
    refine Go.istore (pc' := 133) (Ls' := #[.val (.int t0), .val (.int s0), .val (.int s1), .val (.int e0), .val (.int e1), .val (.int c0), .val (.ref a_98), .val (.ref a_117), .val (.int s), .val (.ref a_143), .val (.ref a_183), .val (.int (1 : Int32))]) at_131 rfl rfl ?_
    refine Go.iload (pc' := 135) at_133 rfl rfl ?_
    exact Go.retN (t := .boolean) at_135 rfl (by simp) rfl rfl (by decide) (by decide)
  refine Go.ifc (pc1 := 38) (pc2 := 34) at_31 (by decide) (by decide) rfl (fun (c_242 : (c0 &&& (1 : Int32)).toInt = 0) => ?_) (fun (c_242 : (c0 &&& (1 : Int32)).toInt ≠ 0) => ?_)
  · refine Go.iconst (pc' := 39) (v := (0 : Int32)) at_38 rfl rfl ?_
    exact J1 _ (Or.inl rfl)
  · refine Go.iconst (pc' := 35) (v := (1 : Int32)) at_34 rfl rfl ?_
    refine Go.goto (pc' := 39) at_35 (by decide) (by decide) ?_
    exact J1 _ (Or.inr rfl)
set_option maxRecDepth 65536 in
set_option maxHeartbeats 40000000 in
theorem comes_1 {Post : Tables → Env → Array Value → State → Outcome → State → Prop} (hpost : ∀ tb e args s v u, (limb_1_1.after args s (.returned v) u = true ∧ limb_1_2.after args s (.returned v) u = true ∧ True) → FrameEnd s (.returned v) u (Jvm.fieldLocs frame_1_writes args s ++ Jvm.arrayLocs frame_1_arrays args s ++ Jvm.staticLocs frame_1_statics s) 16 128 → Post tb e args s (.returned v) u) :
    ArmFor flags0 classFile x code maxLocals ret World_1 tables_1 room_1 Calls_1 rest_1 Pre_1 Post := by
  intro l hfl _ _ p e ha hc hk s m args below hf hA hF happ hP
  obtain ⟨hcalls, hrest, hpre⟩ := hP
  obtain ⟨-, -, -, hnamed, -, -, -, hat⟩ := (Spec.applies_iff hf).mp happ
  obtain ⟨hg, hn⟩ := and_e (Cond.before_iff.mp (show (Jvm.Cond.and given_1 narrow_1).before args s = true from hpre))
  obtain ⟨h1, hg1⟩ := and_e hg
  obtain ⟨w0, w1, w2, w3, w4, w5, rfl⟩ : ∃ w0 w1 w2 w3 w4 w5 : Value, args = #[w0, w1, w2, w3, w4, w5] := by
    have hs : args.size = 6 := by simpa [Cond.value, given_1] using h1
    obtain ⟨L⟩ := args
    match L, hs with
    | [w0, w1, w2, w3, w4, w5], _ => exact ⟨w0, w1, w2, w3, w4, w5, rfl⟩
  have hw := fun d (hd : d ∈ tables_1) => atoms_spec (ws := Jvm.Cond.code x code maxLocals ret :: tables_1) hat d (List.mem_cons_of_mem _ hd)
  have hfit : Fit s := fun {y c} hc i hi => by
    obtain ⟨ha, rfl⟩ := Array.getElem?_eq_some_iff.mp hc
    have q := List.all_eq_true.mp ((Array.all_eq_true_iff_forall_mem.mp hF) _ (Array.getElem_mem ha)) i (List.mem_range.mpr hi)
    simpa [Array.getElem?_eq_getElem hi] using q
  obtain ⟨b0, hg2⟩ := and_e hg1
  obtain ⟨i0, e0⟩ := is_v b0
  obtain rfl : w0 = (.int i0) := Option.some.inj e0
  obtain ⟨b1, hg3⟩ := and_e hg2
  obtain ⟨i1, e1⟩ := is_v b1
  obtain rfl : w1 = (.int i1) := Option.some.inj e1
  obtain ⟨b2, hg4⟩ := and_e hg3
  obtain ⟨i2, e2⟩ := is_v b2
  obtain rfl : w2 = (.int i2) := Option.some.inj e2
  obtain ⟨b3, hg5⟩ := and_e hg4
  obtain ⟨i3, e3⟩ := is_v b3
  obtain rfl : w3 = (.int i3) := Option.some.inj e3
  obtain ⟨b4, hg6⟩ := and_e hg5
  obtain ⟨i4, e4⟩ := is_v b4
  obtain rfl : w4 = (.int i4) := Option.some.inj e4
  obtain ⟨i5, e5⟩ := is_v hg6
  obtain rfl : w5 = (.int i5) := Option.some.inj e5
  obtain ⟨n, o, h1, h2, h3, _, L, rfl, ⟨⟨rfl, -⟩, N⟩, hq⟩ := rm1 l s _ hw tables_1 i0 i1 i2 i3 i4 i5 s.heap s.heap.size (Nat.le_refl _)  p e ha hc hk s m _ below hf ((Spec.applies_iff_loose hf).mp happ).1 ⟨rfl, State.Warmed39.refl s, rfl⟩ trivial
  refine ⟨n, _, h1, h2, h3, hpost _ _ _ _ _ _ ⟨Cond.after_iff.mpr rfl, Cond.after_iff.mpr (eq_i res_at (Term.int_eval (1)) rfl), trivial⟩ ⟨hq.1, hq.2.1, (hq.2.2.sift fun y hy => Or.inr (N y hy)).mono (by decide) (by decide)⟩⟩
theorem main_1_1 : Claimed_1_1 := comes_1 fun _ _ _ _ _ _ h hF => ⟨h.1, hF⟩
theorem main_1_2 : Claimed_1_2 := comes_1 fun _ _ _ _ _ _ h hF => ⟨h.2.1, hF⟩
end Jvm.Pilot.@@N@@
namespace Jvm.Pilot.@@N@@
open Jvm Jvm.ClassFile Sem Op Lib Jvm.Free Jvm.Stand Jvm.Pilot.@@N@@.Jvm.D
/-! MADE BY PROGRAM (witnessworld.py) out of the Statement's table words and the real class files: 9 classes; the members and pool entries that the words name. The judged class is class 1, her method 1. -/
namespace start1
open Jvm.ClassFile
def u (s : String) : CpInfo := .utf8 (stringToUtf16 s)
/-- a pool by its gaps: so many unusable entries, then the entry; so many at the end -/
def gap : Nat → List CpInfo → List CpInfo
  | 0, r => r
  | n + 1, r => .unusable :: gap n r
def poolList (es : List (Nat × CpInfo)) (last : Nat) : List CpInfo := es.foldr (fun e r => gap e.1 (e.2 :: r)) (gap last [])
def pool (es : List (Nat × CpInfo)) (last : Nat) : Array CpInfo := ⟨poolList es last⟩
def fileOf (pool : Array CpInfo) (this : Nat) (attrs : Array Attribute := #[]) (ms : Array MethodInfo := #[]) (fl : Nat := 33) (sup : Nat := 0) (ifs : Array Nat := #[]) (fds : Array FieldInfo := #[]) : ClassFile where
  minorVersion := 0
  majorVersion := 65
  constantPool := pool
  accessFlags := fl
  thisClass := this
  superClass := sup
  interfaces := ifs
  fields := fds
  methods := ms
  attributes := attrs
def plain (name : String) (sup : Option ClassId) : Class where
  name := name
  kind := .ordinary
  loader := none
  accessFlags := 33
  super := sup
  interfaces := #[]
  cf := none
  fields := #[]
  methods := #[]
  instanceTypes := #[]
  staticTypes := #[]
  resolved := #[]
  callSites := []
  init := .initialized
  statics := none
  mirror := none

def pool0 : Array CpInfo := pool [(5, u "<init>"), (0, u "()V"), (1, .class_ 10), (1, u "java/lang/Object")] 113

def k0c0 : Code := { maxStack := 0, maxLocals := 1, code := object_method_1_code, exceptionTable := #[], attributes := #[] }
def k0m0 : Method := { name := "<init>", desc := "()V", sig := { parameters := [], returnType := none }, accessFlags := 1, code := some k0c0 }
/-- java/lang/Object -/
def k0 : Class := { plain "java/lang/Object" none with
  accessFlags := 33
  interfaces := #[]
  cf := some (fileOf pool0 8 #[] #[{ accessFlags := 1, nameIndex := 5, descriptorIndex := 6, attributes := #[] }] 33 0 #[] #[])
  fields := #[]
  methods := #[k0m0]
  instanceTypes := #[]
  staticTypes := #[]
  resolved := Array.replicate 124 none
  statics := none }

def pool1 : Array CpInfo := pool [(2, .class_ 4), (1, u "java/lang/Object"), (0, u "<init>"), (0, u "()V"), (0, .class_ 8), (0, u "com/example/doppelgrep/doppelgrep/engine/Group"), (0, .methodref 7 10), (0, .nameAndType 5 11), (0, u "(I[I)V"), (0, .methodref 7 13), (0, .nameAndType 5 14), (0, u "(I[I[IZ)V"), (0, .methodref 7 16), (0, .nameAndType 17 18), (0, u "end"), (0, u "(I)I"), (0, .class_ 20), (0, u "com/example/doppelgrep/doppelgrep/engine/GroupEndPinLaw"), (2, u "law"), (0, u "(IIIIII)Z")] 5

def k1m0 : Method := { name := "<init>", desc := "()V", sig := { parameters := [], returnType := none }, accessFlags := 1, code := none }
def k1c1 : Code := { maxStack := 6, maxLocals := 12, code := code, exceptionTable := #[], attributes := #[] }
def k1m1 : Method := { name := "law", desc := "(IIIIII)Z", sig := { parameters := [.int, .int, .int, .int, .int, .int], returnType := some .boolean }, accessFlags := 9, code := some k1c1 }
/-- com/example/doppelgrep/doppelgrep/engine/GroupEndPinLaw -/
def k1 : Class := { plain "com/example/doppelgrep/doppelgrep/engine/GroupEndPinLaw" (some 0) with
  accessFlags := 49
  interfaces := #[]
  cf := some (fileOf pool1 19 #[] #[{ accessFlags := 1, nameIndex := 5, descriptorIndex := 6, attributes := #[] }, { accessFlags := 9, nameIndex := 23, descriptorIndex := 24, attributes := #[] }] 49 2 #[] #[])
  fields := #[]
  methods := #[k1m0, k1m1]
  instanceTypes := #[]
  staticTypes := #[]
  resolved := Array.replicate 30 none
  statics := none }

def pool2 : Array CpInfo := pool [(1, .methodref 2 3), (0, .class_ 4), (0, .nameAndType 5 6), (0, u "com/example/doppelgrep/doppelgrep/engine/Group"), (0, u "<init>"), (0, u "(I[I[IZ[[I)V"), (0, .methodref 8 9), (0, .class_ 10), (0, .nameAndType 5 11), (0, u "java/lang/Object"), (0, u "()V"), (0, .fieldref 2 13), (0, .nameAndType 14 15), (0, u "tokens"), (0, u "I"), (0, .fieldref 2 17), (0, .nameAndType 18 19), (0, u "starts"), (0, u "[I"), (0, .fieldref 2 21), (0, .nameAndType 22 19), (0, u "ends"), (0, .fieldref 2 24), (0, .nameAndType 25 26), (0, u "gapped"), (0, u "Z"), (0, .fieldref 2 28), (0, .nameAndType 29 30), (0, u "runs"), (0, u "[[I"), (1, u "(I[I)V"), (2, u "(I[I[IZ)V"), (4, u "(I)I"), (0, u "end")] 8

def k2c0 : Code := { maxStack := 6, maxLocals := 3, code := prog_36_method_1_code, exceptionTable := #[], attributes := #[] }
def k2m0 : Method := { name := "<init>", desc := "(I[I)V", sig := { parameters := [.int, (.array .int)], returnType := none }, accessFlags := 0, code := some k2c0 }
def k2c1 : Code := { maxStack := 6, maxLocals := 5, code := prog_36_method_2_code, exceptionTable := #[], attributes := #[] }
def k2m1 : Method := { name := "<init>", desc := "(I[I[IZ)V", sig := { parameters := [.int, (.array .int), (.array .int), .boolean], returnType := none }, accessFlags := 0, code := some k2c1 }
def k2c2 : Code := { maxStack := 2, maxLocals := 6, code := prog_36_method_3_code, exceptionTable := #[], attributes := #[] }
def k2m2 : Method := { name := "<init>", desc := "(I[I[IZ[[I)V", sig := { parameters := [.int, (.array .int), (.array .int), .boolean, (.array (.array .int))], returnType := none }, accessFlags := 0, code := some k2c2 }
def k2c3 : Code := { maxStack := 2, maxLocals := 2, code := prog_36_method_8_code, exceptionTable := #[], attributes := #[] }
def k2m3 : Method := { name := "end", desc := "(I)I", sig := { parameters := [.int], returnType := some .int }, accessFlags := 0, code := some k2c3 }
/-- com/example/doppelgrep/doppelgrep/engine/Group -/
def k2 : Class := { plain "com/example/doppelgrep/doppelgrep/engine/Group" (some 0) with
  accessFlags := 48
  interfaces := #[]
  cf := some (fileOf pool2 2 #[] #[{ accessFlags := 0, nameIndex := 5, descriptorIndex := 32, attributes := #[] }, { accessFlags := 0, nameIndex := 5, descriptorIndex := 35, attributes := #[] }, { accessFlags := 0, nameIndex := 5, descriptorIndex := 6, attributes := #[] }, { accessFlags := 0, nameIndex := 41, descriptorIndex := 40, attributes := #[] }] 48 8 #[] #[{ accessFlags := 18, nameIndex := 14, descriptorIndex := 15, attributes := #[] }, { accessFlags := 18, nameIndex := 18, descriptorIndex := 19, attributes := #[] }, { accessFlags := 18, nameIndex := 22, descriptorIndex := 19, attributes := #[] }, { accessFlags := 18, nameIndex := 25, descriptorIndex := 26, attributes := #[] }, { accessFlags := 18, nameIndex := 29, descriptorIndex := 30, attributes := #[] }])
  fields := #[{ name := "tokens", type := .int, accessFlags := 18, slot := 0, constantValue := 0 }, { name := "starts", type := (.array .int), accessFlags := 18, slot := 1, constantValue := 0 }, { name := "ends", type := (.array .int), accessFlags := 18, slot := 2, constantValue := 0 }, { name := "gapped", type := .boolean, accessFlags := 18, slot := 3, constantValue := 0 }, { name := "runs", type := (.array (.array .int)), accessFlags := 18, slot := 4, constantValue := 0 }]
  methods := #[k2m0, k2m1, k2m2, k2m3]
  instanceTypes := #[.int, (.array .int), (.array .int), .boolean, (.array (.array .int))]
  staticTypes := #[]
  resolved := Array.replicate 50 none
  statics := none }

def pool3 : Array CpInfo := pool [(1, u "java/lang/Cloneable"), (0, .class_ 1), (0, u "java/lang/Object"), (0, .class_ 3)] 3

/-- java/lang/Cloneable -/
def k3 : Class := { plain "java/lang/Cloneable" (some 0) with
  accessFlags := 1537
  interfaces := #[]
  cf := some (fileOf pool3 2 #[] #[] 1537 4 #[] #[])
  fields := #[]
  methods := #[]
  instanceTypes := #[]
  staticTypes := #[]
  resolved := Array.replicate 8 none
  statics := none }

def pool4 : Array CpInfo := pool [(1, u "java/io/Serializable"), (0, .class_ 1), (0, u "java/lang/Object"), (0, .class_ 3)] 3

/-- java/io/Serializable -/
def k4 : Class := { plain "java/io/Serializable" (some 0) with
  accessFlags := 1537
  interfaces := #[]
  cf := some (fileOf pool4 2 #[] #[] 1537 4 #[] #[])
  fields := #[]
  methods := #[]
  instanceTypes := #[]
  staticTypes := #[]
  resolved := Array.replicate 8 none
  statics := none }

/-- the primitive byte -/
def k5 : Class := { plain "byte" none with kind := .primitive 'B', accessFlags := 0x411 }
/-- [B -/
def k6 : Class := { plain "[B" (some 0) with kind := .array 5 .byte, interfaces := #[3, 4], accessFlags := 1041 }

/-- the primitive int -/
def k7 : Class := { plain "int" none with kind := .primitive 'I', accessFlags := 0x411 }
/-- [I -/
def k8 : Class := { plain "[I" (some 0) with kind := .array 7 .int, interfaces := #[3, 4], accessFlags := 1041 }

def heap : Heap := #[]
def classes : Array Class := #[k0, k1, k2, k3, k4, k5, k6, k7, k8]
def interned : List (Array UInt16 × Addr) := []
def slotsUsed : Nat := 0
def theMethod : MethodId := ⟨1, 1⟩
def args0 : Array Value := #[.int 5, .int 6, .int 7, .int 8, .int 9, .int 10]
def aboutOver (below : List Frame) : State where
  vm := { classes := classes, interned := interned.toArray }
  heap := heap
  slotsUsed := slotsUsed
  threads := #[{ frames := .invoking theMethod args0 :: below }]
def below0 : List Frame := [.native { method := ⟨0, 0⟩, args := #[] }]
def about1 : State := aboutOver below0
def p0 : Program := .bare "" "" ""
def e0 : Env := launch0.env 0 0 0
theorem w_frames : about1.frames = Frame.invoking theMethod args0 :: below0 := rfl
set_option maxRecDepth 65536 in
theorem w_args : argsFit about1.vm theMethod args0 = true := by decide +kernel
set_option maxRecDepth 65536 in
theorem w_heap : heapFits about1 = true := by decide +kernel
set_option maxRecDepth 65536 in
theorem w_runnable : about1.curStatus? = some .runnable := by decide +kernel
set_option maxRecDepth 65536 in
theorem w_alone : about1.alone = true := by decide +kernel
set_option maxRecDepth 65536 in
theorem w_named : about1.methodNamed? x = some theMethod := by decide +kernel
set_option maxRecDepth 65536 in
theorem w_hears : about1.hears theMethod below0 = true := by decide +kernel
set_option maxRecDepth 65536 in
theorem w_ripe : about1.ripe theMethod args0 below0 = true := by decide +kernel
theorem w_running : about1.status = .running := rfl
set_option maxRecDepth 65536 in
theorem w_room : about1.hasRoom e0.platform room_1 = true :=
  launch0.hasRoom_least _ room_1 (by decide +kernel) (by decide +kernel) (by decide +kernel) (by decide +kernel) (by decide +kernel) (by decide +kernel)
theorem allAtoms_all (ts : List Jvm.Cond) (a : Array Jvm.Value) (st : Jvm.State) : (allAtoms ts).before a st = ts.all (fun c => c.before a st) := by
  induction ts with
  | nil => rfl
  | cons c t ih =>
    show (Jvm.Cond.and c (allAtoms t)).before a st = _
    rw [Jvm.Cond.before_and, ih, List.all_cons]
def words1 : List Jvm.Cond := Jvm.Cond.code x code maxLocals ret :: tables_1
/-- a 'code' word, met by the world's own term for the bytes: nothing is compared byte by byte -/
theorem code_word {y : MethodName} {bytes : ByteArray} {mx : Nat} {rt : Option FieldType} {a : Array Value} {s : State} {m : MethodId} {meth : Method} {c : Code} (h1 : s.methodNamed? y = some m) (h2 : s.vm.method? m = some meth) (h3 : meth.code = some c) (h4 : c.code = bytes)
    (h5 : (c.maxLocals == mx && c.exceptionTable.isEmpty && decide (c.maxStack ≤ mostOperands) && decide (meth.sig.returnType = rt) && !meth.locks && decide (parseMethodDescriptor y.desc = some meth.sig)) = true) : (Jvm.Cond.code y bytes mx rt).before a s = true := by
  simp only [Bool.and_eq_true, beq_iff_eq, Bool.not_eq_true', decide_eq_true_eq] at h5
  obtain ⟨⟨⟨⟨⟨g1, g2⟩, g3⟩, g4⟩, g5⟩, g6⟩ := h5
  simp [Cond.before, Cond.holds, Cond.value, h1, h2, h3, h4, g1, g2, g3, g4, g5, g6]
def isCode : Jvm.Cond → Bool
  | .code _ _ _ _ => true
  | _ => false
theorem all_split {L : List Jvm.Cond} {P : Jvm.Cond → Bool} (h1 : L.all (fun c => isCode c || P c) = true) (h2 : ∀ c ∈ L.filter isCode, P c = true) : L.all P = true := by
  refine List.all_eq_true.mpr fun c hc => ?_
  have h := List.all_eq_true.mp h1 c hc
  rcases Bool.eq_false_or_eq_true (isCode c) with hi | hi
  · exact h2 c (List.mem_filter.mpr ⟨hc, hi⟩)
  · simpa [hi] using h
set_option maxRecDepth 65536 in
theorem w_c0 : (Jvm.Cond.code x code maxLocals ret).before args0 about1 = true := code_word (m := ⟨1, 1⟩) (meth := k1m1) (c := k1c1) (by decide +kernel) rfl rfl rfl (by decide +kernel)
set_option maxRecDepth 65536 in
theorem w_c1 : (Jvm.Cond.code ({ cls := "com/example/doppelgrep/doppelgrep/engine/Group", name := "<init>", desc := "(I[I)V" } : Jvm.MethodName) prog_36_method_1_code (3 : Nat) (Option.none : Option Jvm.ClassFile.FieldType)).before args0 about1 = true := code_word (m := ⟨2, 0⟩) (meth := k2m0) (c := k2c0) (by decide +kernel) rfl rfl rfl (by decide +kernel)
set_option maxRecDepth 65536 in
theorem w_c2 : (Jvm.Cond.code ({ cls := "com/example/doppelgrep/doppelgrep/engine/Group", name := "<init>", desc := "(I[I[IZ[[I)V" } : Jvm.MethodName) prog_36_method_3_code (6 : Nat) (Option.none : Option Jvm.ClassFile.FieldType)).before args0 about1 = true := code_word (m := ⟨2, 2⟩) (meth := k2m2) (c := k2c2) (by decide +kernel) rfl rfl rfl (by decide +kernel)
set_option maxRecDepth 65536 in
theorem w_c3 : (Jvm.Cond.code ({ cls := "java/lang/Object", name := "<init>", desc := "()V" } : Jvm.MethodName) object_method_1_code (1 : Nat) (Option.none : Option Jvm.ClassFile.FieldType)).before args0 about1 = true := code_word (m := ⟨0, 0⟩) (meth := k0m0) (c := k0c0) (by decide +kernel) rfl rfl rfl (by decide +kernel)
set_option maxRecDepth 65536 in
theorem w_c4 : (Jvm.Cond.code ({ cls := "com/example/doppelgrep/doppelgrep/engine/Group", name := "<init>", desc := "(I[I[IZ)V" } : Jvm.MethodName) prog_36_method_2_code (5 : Nat) (Option.none : Option Jvm.ClassFile.FieldType)).before args0 about1 = true := code_word (m := ⟨2, 1⟩) (meth := k2m1) (c := k2c1) (by decide +kernel) rfl rfl rfl (by decide +kernel)
set_option maxRecDepth 65536 in
theorem w_c5 : (Jvm.Cond.code ({ cls := "com/example/doppelgrep/doppelgrep/engine/Group", name := "end", desc := "(I)I" } : Jvm.MethodName) prog_36_method_8_code (2 : Nat) (Option.some Jvm.ClassFile.FieldType.int)).before args0 about1 = true := code_word (m := ⟨2, 3⟩) (meth := k2m3) (c := k2c3) (by decide +kernel) rfl rfl rfl (by decide +kernel)
def codes1 : List Jvm.Cond := [Jvm.Cond.code x code maxLocals ret, Jvm.Cond.code ({ cls := "com/example/doppelgrep/doppelgrep/engine/Group", name := "<init>", desc := "(I[I)V" } : Jvm.MethodName) prog_36_method_1_code (3 : Nat) (Option.none : Option Jvm.ClassFile.FieldType), Jvm.Cond.code ({ cls := "com/example/doppelgrep/doppelgrep/engine/Group", name := "<init>", desc := "(I[I[IZ[[I)V" } : Jvm.MethodName) prog_36_method_3_code (6 : Nat) (Option.none : Option Jvm.ClassFile.FieldType), Jvm.Cond.code ({ cls := "java/lang/Object", name := "<init>", desc := "()V" } : Jvm.MethodName) object_method_1_code (1 : Nat) (Option.none : Option Jvm.ClassFile.FieldType), Jvm.Cond.code ({ cls := "com/example/doppelgrep/doppelgrep/engine/Group", name := "<init>", desc := "(I[I[IZ)V" } : Jvm.MethodName) prog_36_method_2_code (5 : Nat) (Option.none : Option Jvm.ClassFile.FieldType), Jvm.Cond.code ({ cls := "com/example/doppelgrep/doppelgrep/engine/Group", name := "end", desc := "(I)I" } : Jvm.MethodName) prog_36_method_8_code (2 : Nat) (Option.some Jvm.ClassFile.FieldType.int)]
set_option maxRecDepth 65536 in
theorem codes_eq : words1.filter isCode = codes1 := rfl
theorem w_codes : ∀ c ∈ words1.filter isCode, c.before args0 about1 = true := by
  rw [codes_eq]
  intro c hc
  simp only [codes1, List.mem_cons, List.not_mem_nil, or_false] at hc
  rcases hc with rfl | rfl | rfl | rfl | rfl | rfl
  · exact w_c0
  · exact w_c1
  · exact w_c2
  · exact w_c3
  · exact w_c4
  · exact w_c5
set_option maxRecDepth 65536 in
theorem w_t1 : (words1.take 24).all (fun c => isCode c || c.before args0 about1) = true := by decide +kernel
set_option maxRecDepth 65536 in
theorem w_t2 : (words1.drop 24).all (fun c => isCode c || c.before args0 about1) = true := by decide +kernel
theorem w_tables : (allAtoms (Jvm.Cond.code x code maxLocals ret :: tables_1)).before args0 about1 = true := by
  rw [allAtoms_all]
  show words1.all (fun c => c.before args0 about1) = true
  refine all_split ?_ w_codes
  rw [← List.take_append_drop 24 words1, List.all_append, w_t1, w_t2]
  rfl
set_option maxRecDepth 65536 in
theorem w_case : (Jvm.Cond.and given_1 narrow_1).before args0 about1 = true := by decide +kernel
theorem w_applies : (headSpec (Jvm.Cond.code x code maxLocals ret :: tables_1) room_1).applies x e0.platform about1 = true :=
  (Spec.applies_iff w_frames).mpr ⟨w_running, w_runnable, w_alone, w_named, w_hears, w_ripe, w_room, w_tables⟩
theorem atStart : AtStart classFile x code maxLocals ret World_1 tables_1 room_1 Calls_1 rest_1 Pre_1 launch0 p0 e0 about1 theMethod args0 below0 :=
  ⟨lists_1, trivial, launch0.admits_env _ _ _, launch0.least_env, fairChoices_fair.cas, fairChoices_fair.clock, w_frames, w_args, w_heap, w_applies, trivial, trivial, w_case⟩
end start1
theorem witness_1 : WitnessClaimed_1 := ⟨start1.p0, start1.e0, start1.about1, start1.theMethod, start1.args0, start1.below0, start1.atStart⟩
end Jvm.Pilot.@@N@@
