import JvmDerived
import JvmDerived.Pilot.@@N@@Statement
import JvmDerived.Pilot.@@N@@Code
set_option linter.unusedVariables false
set_option linter.unusedSimpArgs false
namespace Jvm.RoadKit
open Sem ClassFile Op Lib Jvm.Stand Jvm.Free Jvm.LawKit
/-- what a walk knows of the method that it walks -/
def Own (Z : State) (y : MethodName) (bytes : ByteArray) (maxL : Nat) (ret : Option FieldType) (p : Program) (s : State) (m : MethodId) (meth : Method) (c : Code) : Prop :=
  p.tables.exec = Jvm.exec ∧ c.code = bytes ∧ c.maxLocals = maxL ∧ s.vm.findClass y.cls = some m.cls ∧ meth.name = y.name ∧ Z.Warmed39 s.vm ∧ meth.sig.returnType = ret ∧ meth.locks = false
/-- how the start s over which the walk stands belongs to the true start s0 (wd: strings may have been interned since) -/
def GoRel (wd : Bool) (s0 s : State) (k : Nat) : Prop := match wd with
  | false => s0 = s
  | true => ∃ (vm0 : Vm) (k0 : Nat), s = s0.setVm vm0 ∧ s0.Since vm0 k0 ∧ k0 ≤ k
/-- the frame of the end -/
def GoEnd (wd : Bool) (s0 : State) (o : Outcome) (t : State) (L : List Loc) (K N : Nat) : Prop := match wd with
  | false => FrameEnd s0 o t L K N
  | true => ReturnedEndW s0 o t L K N
theorem GoRel.mono {wd : Bool} {s0 s : State} {k k' : Nat} (h : GoRel wd s0 s k) (q : k ≤ k') : GoRel wd s0 s k' := by
  cases wd
  · exact h
  · obtain ⟨vm0, k0, h1, h2, h3⟩ := h; exact ⟨vm0, k0, h1, h2, Nat.le_trans h3 q⟩
theorem GoRel.refl (wd : Bool) (s : State) (k : Nat) : GoRel wd s s k := by
  cases wd
  · rfl
  · exact ⟨s.vm, 0, rfl, (State.WarmedH.refl s).since 0, Nat.zero_le _⟩
theorem GoEnd.grow {wd : Bool} {s0 t : State} {o : Outcome} {L : List Loc} {K N : Nat} (h : GoEnd wd s0 o t L K N) : s0.heap.size ≤ t.heap.size := by
  cases wd
  · exact h.2.2.2.1
  · exact h.2.2.2.2.1
theorem GoRel.ended {wd : Bool} {s0 s : State} {v : Option Value} {U : State} {locs : List Loc} {c k c' k' : Nat} (h : GoRel wd s0 s U.heap.size) (hW : s.WarmedH U.vm) (hs : s.sameButNew ({ U with vm := s.vm } : State) locs c k) (hc : c ≤ c') (hk : k ≤ k') : GoEnd wd s0 (.returned v) U locs c' k' := by
  cases wd
  · obtain rfl : s0 = s := h
    exact ⟨⟨_, rfl⟩, hW, hs.mono hc hk⟩
  · obtain ⟨vm0, k0, rfl, h2, h3⟩ := h
    obtain ⟨q1, q2, q3⟩ := h2.ended hW h3 hs
    exact ⟨⟨_, rfl⟩, q1, q2, q3.mono hc hk⟩
/-- from pc, Ls, st over the heap h (so many cells and slots made so far) the walk comes to its end, and Q holds of what it returns and of the heap there; what it wrote lies at or above n0 -/
def Go (wd : Bool) (l : Launch) (R : Room) (Z : State) (y : MethodName) (bytes : ByteArray) (maxL : Nat) (ret : Option FieldType) (n0 K N : Nat) (Q : Option Value → Heap → Prop) (h : Heap) (cells slots pc : Nat) (Ls : Array Slot) (st : List Value) : Prop :=
  ∀ (p : Program) (e : Env) (s0 s : State) (m : MethodId) (args : Array Value) (below : List Frame) (meth : Method) (c : Code) (T : State) (locs : List Loc),
    GoRel wd s0 s h.size → Own Z y bytes maxL ret p s m meth c → Stand p l e R s m args below meth c T locs cells slots → T.heap = h → Fr n0 locs →
    ∃ s₂ o, Steps p.tables e below (T.setTop (mkF m pc Ls st)) s₂ ∧ s₂.status = .running ∧ Ended s₂ below o ∧ ∃ v L, o = .returned v ∧ (Q v s₂.heap ∧ Fr n0 L) ∧ GoEnd wd s0 o s₂ L K N
section GoLaws
variable {wd : Bool} {l : Launch} {R : Room} {Z : State} {y : MethodName} {bytes : ByteArray} {maxL : Nat} {ret : Option FieldType} {n0 K N : Nat} {Q : Option Value → Heap → Prop} {h : Heap} {cells slots pc pc' : Nat} {Ls Ls' : Array Slot} {st st' : List Value} {a0 : Array Value}
theorem Go.of (k : Go wd l R Z y bytes maxL ret n0 K N Q h cells slots pc' Ls' st')
    (q : ∀ (p : Program) (e : Env) (s : State) (m : MethodId) (args : Array Value) (below : List Frame) (meth : Method) (c : Code) (T : State) (locs : List Loc), Own Z y bytes maxL ret p s m meth c → Stand p l e R s m args below meth c T locs cells slots → T.heap = h →
      ∀ target, Steps p.tables e below (T.setTop (mkF m pc' Ls' st')) target → Steps p.tables e below (T.setTop (mkF m pc Ls st)) target) : Go wd l R Z y bytes maxL ret n0 K N Q h cells slots pc Ls st := by
  intro p e s0 s m args below meth c T locs hR O X eT F
  obtain ⟨s₂, o, h1, r⟩ := k p e s0 s m args below meth c T locs hR O X eT F
  exact ⟨s₂, o, q p e s m args below meth c T locs O X eT _ h1, r⟩
theorem Go.weaken {Q' : Option Value → Heap → Prop} (hQ : ∀ v h, Q' v h → Q v h) (k : Go wd l R Z y bytes maxL ret n0 K N Q' h cells slots pc Ls st) : Go wd l R Z y bytes maxL ret n0 K N Q h cells slots pc Ls st := by
  intro p e s0 s m args below meth c T locs hR O X eT F
  obtain ⟨s₂, o, h1, h2, h3, v, L, h4, h5, h6⟩ := k p e s0 s m args below meth c T locs hR O X eT F
  exact ⟨s₂, o, h1, h2, h3, v, L, h4, ⟨hQ _ _ h5.1, h5.2⟩, h6⟩
/-! plain steps -/
theorem Go.iload {k : Nat} {v : Int32} (hd : decode bytes pc = .ok (.iload k, 2)) (hl : Ls[k]? = some (.val (.int v))) (hp : pc + 2 = pc') (q : Go wd l R Z y bytes maxL ret n0 K N Q h cells slots pc' Ls (.int v :: st)) : Go wd l R Z y bytes maxL ret n0 K N Q h cells slots pc Ls st := by
  subst hp; exact Go.of q fun p e s m args below meth c T locs O X eT t hr => XS.iload X.here O.1 rfl (hb O.2.1 hd) hl hr
theorem Go.iloadN {k : Fin 4} {v : Int32} (hd : decode bytes pc = .ok (.iload_n k, 1)) (hl : Ls[k.val]? = some (.val (.int v))) (hp : pc + 1 = pc') (q : Go wd l R Z y bytes maxL ret n0 K N Q h cells slots pc' Ls (.int v :: st)) : Go wd l R Z y bytes maxL ret n0 K N Q h cells slots pc Ls st := by
  subst hp; exact Go.of q fun p e s m args below meth c T locs O X eT t hr => XS.iloadN X.here O.1 rfl (hb O.2.1 hd) hl hr
theorem Go.lload {k : Nat} {v : Int64} (hd : decode bytes pc = .ok (.lload k, 2)) (hl : Ls[k]? = some (.val (.long v))) (hp : pc + 2 = pc') (q : Go wd l R Z y bytes maxL ret n0 K N Q h cells slots pc' Ls (.long v :: st)) : Go wd l R Z y bytes maxL ret n0 K N Q h cells slots pc Ls st := by
  subst hp; exact Go.of q fun p e s m args below meth c T locs O X eT t hr => XS.lload X.here O.1 rfl (hb O.2.1 hd) hl hr
theorem Go.lloadN {k : Fin 4} {v : Int64} (hd : decode bytes pc = .ok (.lload_n k, 1)) (hl : Ls[k.val]? = some (.val (.long v))) (hp : pc + 1 = pc') (q : Go wd l R Z y bytes maxL ret n0 K N Q h cells slots pc' Ls (.long v :: st)) : Go wd l R Z y bytes maxL ret n0 K N Q h cells slots pc Ls st := by
  subst hp; exact Go.of q fun p e s m args below meth c T locs O X eT t hr => XS.lloadN X.here O.1 rfl (hb O.2.1 hd) hl hr
theorem Go.aload {k : Nat} {v : Value} (hd : decode bytes pc = .ok (.aload k, 2)) (hl : Ls[k]? = some (.val v)) (hv : v.isRef = true) (hp : pc + 2 = pc') (q : Go wd l R Z y bytes maxL ret n0 K N Q h cells slots pc' Ls (v :: st)) : Go wd l R Z y bytes maxL ret n0 K N Q h cells slots pc Ls st := by
  subst hp; exact Go.of q fun p e s m args below meth c T locs O X eT t hr => XS.aload X.here O.1 rfl (hb O.2.1 hd) hl hv hr
theorem Go.aloadN {k : Fin 4} {v : Value} (hd : decode bytes pc = .ok (.aload_n k, 1)) (hl : Ls[k.val]? = some (.val v)) (hv : v.isRef = true) (hp : pc + 1 = pc') (q : Go wd l R Z y bytes maxL ret n0 K N Q h cells slots pc' Ls (v :: st)) : Go wd l R Z y bytes maxL ret n0 K N Q h cells slots pc Ls st := by
  subst hp; exact Go.of q fun p e s m args below meth c T locs O X eT t hr => XS.aloadN X.here O.1 rfl (hb O.2.1 hd) hl hv hr
theorem Go.istore {k : Nat} {v : Int32} (hd : decode bytes pc = .ok (.istore k, 2)) (hl : storeLocals Ls k (.int v) = some Ls') (hp : pc + 2 = pc') (q : Go wd l R Z y bytes maxL ret n0 K N Q h cells slots pc' Ls' st) : Go wd l R Z y bytes maxL ret n0 K N Q h cells slots pc Ls (.int v :: st) := by
  subst hp; exact Go.of q fun p e s m args below meth c T locs O X eT t hr => XS.istore X.here O.1 rfl (hb O.2.1 hd) rfl hl hr
theorem Go.istoreN {k : Fin 4} {v : Int32} (hd : decode bytes pc = .ok (.istore_n k, 1)) (hl : storeLocals Ls k.val (.int v) = some Ls') (hp : pc + 1 = pc') (q : Go wd l R Z y bytes maxL ret n0 K N Q h cells slots pc' Ls' st) : Go wd l R Z y bytes maxL ret n0 K N Q h cells slots pc Ls (.int v :: st) := by
  subst hp; exact Go.of q fun p e s m args below meth c T locs O X eT t hr => XS.istoreN X.here O.1 rfl (hb O.2.1 hd) rfl hl hr
theorem Go.lstore {k : Nat} {v : Int64} (hd : decode bytes pc = .ok (.lstore k, 2)) (hl : storeLocals Ls k (.long v) = some Ls') (hp : pc + 2 = pc') (q : Go wd l R Z y bytes maxL ret n0 K N Q h cells slots pc' Ls' st) : Go wd l R Z y bytes maxL ret n0 K N Q h cells slots pc Ls (.long v :: st) := by
  subst hp; exact Go.of q fun p e s m args below meth c T locs O X eT t hr => XS.lstore X.here O.1 rfl (hb O.2.1 hd) rfl hl hr
theorem Go.lstoreN {k : Fin 4} {v : Int64} (hd : decode bytes pc = .ok (.lstore_n k, 1)) (hl : storeLocals Ls k.val (.long v) = some Ls') (hp : pc + 1 = pc') (q : Go wd l R Z y bytes maxL ret n0 K N Q h cells slots pc' Ls' st) : Go wd l R Z y bytes maxL ret n0 K N Q h cells slots pc Ls (.long v :: st) := by
  subst hp; exact Go.of q fun p e s m args below meth c T locs O X eT t hr => XS.lstoreN X.here O.1 rfl (hb O.2.1 hd) rfl hl hr
theorem Go.astore {k : Nat} {v : Value} (hd : decode bytes pc = .ok (.astore k, 2)) (hv : v.isRef = true) (hl : storeLocals Ls k v = some Ls') (hp : pc + 2 = pc') (q : Go wd l R Z y bytes maxL ret n0 K N Q h cells slots pc' Ls' st) : Go wd l R Z y bytes maxL ret n0 K N Q h cells slots pc Ls (v :: st) := by
  subst hp; exact Go.of q fun p e s m args below meth c T locs O X eT t hr => XS.astore X.here O.1 rfl (hb O.2.1 hd) rfl hv hl hr
theorem Go.astoreN {k : Fin 4} {v : Value} (hd : decode bytes pc = .ok (.astore_n k, 1)) (hv : v.isRef = true) (hl : storeLocals Ls k.val v = some Ls') (hp : pc + 1 = pc') (q : Go wd l R Z y bytes maxL ret n0 K N Q h cells slots pc' Ls' st) : Go wd l R Z y bytes maxL ret n0 K N Q h cells slots pc Ls (v :: st) := by
  subst hp; exact Go.of q fun p e s m args below meth c T locs O X eT t hr => XS.astoreN X.here O.1 rfl (hb O.2.1 hd) rfl hv hl hr
theorem Go.iinc {k : Nat} {cst : Int} {v w : Int32} (hd : decode bytes pc = .ok (.iinc k cst, 3)) (hl : Ls[k]? = some (.val (.int v))) (hw : v + Int32.ofInt cst = w) (hl' : storeLocals Ls k (.int w) = some Ls') (hp : pc + 3 = pc') (q : Go wd l R Z y bytes maxL ret n0 K N Q h cells slots pc' Ls' st) : Go wd l R Z y bytes maxL ret n0 K N Q h cells slots pc Ls st := by
  subst hp hw; exact Go.of q fun p e s m args below meth c T locs O X eT t hr => XS.iinc X.here O.1 rfl (hb O.2.1 hd) hl hl' hr
theorem Go.iconst {i : Int} {v : Int32} (hd : decode bytes pc = .ok (.iconst i, 1)) (hv : Int32.ofInt i = v) (hp : pc + 1 = pc') (q : Go wd l R Z y bytes maxL ret n0 K N Q h cells slots pc' Ls (.int v :: st)) : Go wd l R Z y bytes maxL ret n0 K N Q h cells slots pc Ls st := by
  subst hp hv; exact Go.of q fun p e s m args below meth c T locs O X eT t hr => XS.iconst X.here O.1 rfl (hb O.2.1 hd) hr
theorem Go.bipush {i : Int} {v : Int32} (hd : decode bytes pc = .ok (.bipush i, 2)) (hv : (Int8.ofInt i).toInt32 = v) (hp : pc + 2 = pc') (q : Go wd l R Z y bytes maxL ret n0 K N Q h cells slots pc' Ls (.int v :: st)) : Go wd l R Z y bytes maxL ret n0 K N Q h cells slots pc Ls st := by
  subst hp hv; exact Go.of q fun p e s m args below meth c T locs O X eT t hr => XS.bipush X.here O.1 rfl (hb O.2.1 hd) hr
theorem Go.sipush {i : Int} {v : Int32} (hd : decode bytes pc = .ok (.sipush i, 3)) (hv : (Int16.ofInt i).toInt32 = v) (hp : pc + 3 = pc') (q : Go wd l R Z y bytes maxL ret n0 K N Q h cells slots pc' Ls (.int v :: st)) : Go wd l R Z y bytes maxL ret n0 K N Q h cells slots pc Ls st := by
  subst hp hv; exact Go.of q fun p e s m args below meth c T locs O X eT t hr => XS.sipush X.here O.1 rfl (hb O.2.1 hd) hr
theorem Go.lconst {k : Fin 2} {v : Int64} (hd : decode bytes pc = .ok (.lconst k, 1)) (hv : Int64.ofNat k = v) (hp : pc + 1 = pc') (q : Go wd l R Z y bytes maxL ret n0 K N Q h cells slots pc' Ls (.long v :: st)) : Go wd l R Z y bytes maxL ret n0 K N Q h cells slots pc Ls st := by
  subst hp hv; exact Go.of q fun p e s m args below meth c T locs O X eT t hr => XS.lconst X.here O.1 rfl (hb O.2.1 hd) hr
theorem Go.aconstNull (hd : decode bytes pc = .ok (.aconst_null, 1)) (hp : pc + 1 = pc') (q : Go wd l R Z y bytes maxL ret n0 K N Q h cells slots pc' Ls (.null :: st)) : Go wd l R Z y bytes maxL ret n0 K N Q h cells slots pc Ls st := by
  subst hp; exact Go.of q fun p e s m args below meth c T locs O X eT t hr => XS.aconstNull X.here O.1 rfl (hb O.2.1 hd) hr
theorem Go.dup {v : Value} (hd : decode bytes pc = .ok (.dup, 1)) (hv : v.category = 1) (hp : pc + 1 = pc') (q : Go wd l R Z y bytes maxL ret n0 K N Q h cells slots pc' Ls (v :: v :: st)) : Go wd l R Z y bytes maxL ret n0 K N Q h cells slots pc Ls (v :: st) := by
  subst hp; exact Go.of q fun p e s m args below meth c T locs O X eT t hr => XS.dup X.here O.1 rfl (hb O.2.1 hd) rfl hv hr
theorem Go.dupX1 {v w : Value} (hd : decode bytes pc = .ok (.dup_x1, 1)) (hv : v.category = 1) (hw : w.category = 1) (hp : pc + 1 = pc') (q : Go wd l R Z y bytes maxL ret n0 K N Q h cells slots pc' Ls (v :: w :: v :: st)) : Go wd l R Z y bytes maxL ret n0 K N Q h cells slots pc Ls (v :: w :: st) := by
  subst hp; exact Go.of q fun p e s m args below meth c T locs O X eT t hr => XS.dupX1 X.here O.1 rfl (hb O.2.1 hd) rfl hv hw hr
theorem Go.dup2 {v w : Value} (hd : decode bytes pc = .ok (.dup2, 1)) (hv : v.category = 1) (hw : w.category = 1) (hp : pc + 1 = pc') (q : Go wd l R Z y bytes maxL ret n0 K N Q h cells slots pc' Ls (v :: w :: v :: w :: st)) : Go wd l R Z y bytes maxL ret n0 K N Q h cells slots pc Ls (v :: w :: st) := by
  subst hp; exact Go.of q fun p e s m args below meth c T locs O X eT t hr => XT.dup2 X.here O.1 rfl (hb O.2.1 hd) rfl hv hw hr
theorem Go.pop {v : Value} (hd : decode bytes pc = .ok (.pop, 1)) (hv : v.category = 1) (hp : pc + 1 = pc') (q : Go wd l R Z y bytes maxL ret n0 K N Q h cells slots pc' Ls st) : Go wd l R Z y bytes maxL ret n0 K N Q h cells slots pc Ls (v :: st) := by
  subst hp; exact Go.of q fun p e s m args below meth c T locs O X eT t hr => XS.pop X.here O.1 rfl (hb O.2.1 hd) rfl hv hr
theorem Go.goto {o : Int} (hd : decode bytes pc = .ok (.goto o, 3)) (ho : 0 ≤ (pc : Int) + o) (hp : ((pc : Int) + o).toNat = pc') (q : Go wd l R Z y bytes maxL ret n0 K N Q h cells slots pc' Ls st) : Go wd l R Z y bytes maxL ret n0 K N Q h cells slots pc Ls st :=
  Go.of q fun p e s m args below meth c T locs O X eT t hr => XS.goto X.here O.1 rfl (pc0 := pc) rfl (hb O.2.1 hd) ho hp hr
theorem Go.iadd {a : Int32} {b : Int32} (hd : decode bytes pc = .ok (.iadd, 1)) (hp : pc + 1 = pc') (q : Go wd l R Z y bytes maxL ret n0 K N Q h cells slots pc' Ls (.int (a + b) :: st)) : Go wd l R Z y bytes maxL ret n0 K N Q h cells slots pc Ls (.int b :: .int a :: st) := by
  subst hp; exact Go.of q fun p e s m args below meth c T locs O X eT t hr => XS.iadd X.here O.1 rfl (hb O.2.1 hd) rfl hr
theorem Go.isub {a : Int32} {b : Int32} (hd : decode bytes pc = .ok (.isub, 1)) (hp : pc + 1 = pc') (q : Go wd l R Z y bytes maxL ret n0 K N Q h cells slots pc' Ls (.int (a - b) :: st)) : Go wd l R Z y bytes maxL ret n0 K N Q h cells slots pc Ls (.int b :: .int a :: st) := by
  subst hp; exact Go.of q fun p e s m args below meth c T locs O X eT t hr => XS.isub X.here O.1 rfl (hb O.2.1 hd) rfl hr
theorem Go.imul {a : Int32} {b : Int32} (hd : decode bytes pc = .ok (.imul, 1)) (hp : pc + 1 = pc') (q : Go wd l R Z y bytes maxL ret n0 K N Q h cells slots pc' Ls (.int (a * b) :: st)) : Go wd l R Z y bytes maxL ret n0 K N Q h cells slots pc Ls (.int b :: .int a :: st) := by
  subst hp; exact Go.of q fun p e s m args below meth c T locs O X eT t hr => XS.imul X.here O.1 rfl (hb O.2.1 hd) rfl hr
theorem Go.iand {a : Int32} {b : Int32} (hd : decode bytes pc = .ok (.iand, 1)) (hp : pc + 1 = pc') (q : Go wd l R Z y bytes maxL ret n0 K N Q h cells slots pc' Ls (.int (a &&& b) :: st)) : Go wd l R Z y bytes maxL ret n0 K N Q h cells slots pc Ls (.int b :: .int a :: st) := by
  subst hp; exact Go.of q fun p e s m args below meth c T locs O X eT t hr => XS.iand X.here O.1 rfl (hb O.2.1 hd) rfl hr
theorem Go.ior {a : Int32} {b : Int32} (hd : decode bytes pc = .ok (.ior, 1)) (hp : pc + 1 = pc') (q : Go wd l R Z y bytes maxL ret n0 K N Q h cells slots pc' Ls (.int (a ||| b) :: st)) : Go wd l R Z y bytes maxL ret n0 K N Q h cells slots pc Ls (.int b :: .int a :: st) := by
  subst hp; exact Go.of q fun p e s m args below meth c T locs O X eT t hr => XS.ior X.here O.1 rfl (hb O.2.1 hd) rfl hr
theorem Go.ixor {a : Int32} {b : Int32} (hd : decode bytes pc = .ok (.ixor, 1)) (hp : pc + 1 = pc') (q : Go wd l R Z y bytes maxL ret n0 K N Q h cells slots pc' Ls (.int (a ^^^ b) :: st)) : Go wd l R Z y bytes maxL ret n0 K N Q h cells slots pc Ls (.int b :: .int a :: st) := by
  subst hp; exact Go.of q fun p e s m args below meth c T locs O X eT t hr => XS.ixor X.here O.1 rfl (hb O.2.1 hd) rfl hr
theorem Go.ishl {a : Int32} {b : Int32} (hd : decode bytes pc = .ok (.ishl, 1)) (hp : pc + 1 = pc') (q : Go wd l R Z y bytes maxL ret n0 K N Q h cells slots pc' Ls (.int (a <<< (b &&& 31)) :: st)) : Go wd l R Z y bytes maxL ret n0 K N Q h cells slots pc Ls (.int b :: .int a :: st) := by
  subst hp; exact Go.of q fun p e s m args below meth c T locs O X eT t hr => XS.ishl X.here O.1 rfl (hb O.2.1 hd) rfl hr
theorem Go.ishr {a : Int32} {b : Int32} (hd : decode bytes pc = .ok (.ishr, 1)) (hp : pc + 1 = pc') (q : Go wd l R Z y bytes maxL ret n0 K N Q h cells slots pc' Ls (.int (a >>> (b &&& 31)) :: st)) : Go wd l R Z y bytes maxL ret n0 K N Q h cells slots pc Ls (.int b :: .int a :: st) := by
  subst hp; exact Go.of q fun p e s m args below meth c T locs O X eT t hr => XS.ishr X.here O.1 rfl (hb O.2.1 hd) rfl hr
theorem Go.iushr {a : Int32} {b : Int32} (hd : decode bytes pc = .ok (.iushr, 1)) (hp : pc + 1 = pc') (q : Go wd l R Z y bytes maxL ret n0 K N Q h cells slots pc' Ls (.int ((a.toUInt32 >>> (b &&& 31).toUInt32).toInt32) :: st)) : Go wd l R Z y bytes maxL ret n0 K N Q h cells slots pc Ls (.int b :: .int a :: st) := by
  subst hp; exact Go.of q fun p e s m args below meth c T locs O X eT t hr => XS.iushr X.here O.1 rfl (hb O.2.1 hd) rfl hr
theorem Go.idiv {a : Int32} {b : Int32} (hd : decode bytes pc = .ok (.idiv, 1)) (hy : b ≠ 0) (hp : pc + 1 = pc') (q : Go wd l R Z y bytes maxL ret n0 K N Q h cells slots pc' Ls (.int (a / b) :: st)) : Go wd l R Z y bytes maxL ret n0 K N Q h cells slots pc Ls (.int b :: .int a :: st) := by
  subst hp; exact Go.of q fun p e s m args below meth c T locs O X eT t hr => XS.idiv X.here O.1 rfl (hb O.2.1 hd) rfl hy hr
theorem Go.ladd {a : Int64} {b : Int64} (hd : decode bytes pc = .ok (.ladd, 1)) (hp : pc + 1 = pc') (q : Go wd l R Z y bytes maxL ret n0 K N Q h cells slots pc' Ls (.long (a + b) :: st)) : Go wd l R Z y bytes maxL ret n0 K N Q h cells slots pc Ls (.long b :: .long a :: st) := by
  subst hp; exact Go.of q fun p e s m args below meth c T locs O X eT t hr => XS.ladd X.here O.1 rfl (hb O.2.1 hd) rfl hr
theorem Go.lsub {a : Int64} {b : Int64} (hd : decode bytes pc = .ok (.lsub, 1)) (hp : pc + 1 = pc') (q : Go wd l R Z y bytes maxL ret n0 K N Q h cells slots pc' Ls (.long (a - b) :: st)) : Go wd l R Z y bytes maxL ret n0 K N Q h cells slots pc Ls (.long b :: .long a :: st) := by
  subst hp; exact Go.of q fun p e s m args below meth c T locs O X eT t hr => XS.lsub X.here O.1 rfl (hb O.2.1 hd) rfl hr
theorem Go.lmul {a : Int64} {b : Int64} (hd : decode bytes pc = .ok (.lmul, 1)) (hp : pc + 1 = pc') (q : Go wd l R Z y bytes maxL ret n0 K N Q h cells slots pc' Ls (.long (a * b) :: st)) : Go wd l R Z y bytes maxL ret n0 K N Q h cells slots pc Ls (.long b :: .long a :: st) := by
  subst hp; exact Go.of q fun p e s m args below meth c T locs O X eT t hr => XS.lmul X.here O.1 rfl (hb O.2.1 hd) rfl hr
theorem Go.land {a : Int64} {b : Int64} (hd : decode bytes pc = .ok (.land, 1)) (hp : pc + 1 = pc') (q : Go wd l R Z y bytes maxL ret n0 K N Q h cells slots pc' Ls (.long (a &&& b) :: st)) : Go wd l R Z y bytes maxL ret n0 K N Q h cells slots pc Ls (.long b :: .long a :: st) := by
  subst hp; exact Go.of q fun p e s m args below meth c T locs O X eT t hr => XS.land X.here O.1 rfl (hb O.2.1 hd) rfl hr
theorem Go.lor {a : Int64} {b : Int64} (hd : decode bytes pc = .ok (.lor, 1)) (hp : pc + 1 = pc') (q : Go wd l R Z y bytes maxL ret n0 K N Q h cells slots pc' Ls (.long (a ||| b) :: st)) : Go wd l R Z y bytes maxL ret n0 K N Q h cells slots pc Ls (.long b :: .long a :: st) := by
  subst hp; exact Go.of q fun p e s m args below meth c T locs O X eT t hr => XS.lor X.here O.1 rfl (hb O.2.1 hd) rfl hr
theorem Go.lxor {a : Int64} {b : Int64} (hd : decode bytes pc = .ok (.lxor, 1)) (hp : pc + 1 = pc') (q : Go wd l R Z y bytes maxL ret n0 K N Q h cells slots pc' Ls (.long (a ^^^ b) :: st)) : Go wd l R Z y bytes maxL ret n0 K N Q h cells slots pc Ls (.long b :: .long a :: st) := by
  subst hp; exact Go.of q fun p e s m args below meth c T locs O X eT t hr => XS.lxor X.here O.1 rfl (hb O.2.1 hd) rfl hr
theorem Go.lshl {a : Int64} {b : Int32} (hd : decode bytes pc = .ok (.lshl, 1)) (hp : pc + 1 = pc') (q : Go wd l R Z y bytes maxL ret n0 K N Q h cells slots pc' Ls (.long (a <<< (b &&& 0x3f).toInt64) :: st)) : Go wd l R Z y bytes maxL ret n0 K N Q h cells slots pc Ls (.int b :: .long a :: st) := by
  subst hp; exact Go.of q fun p e s m args below meth c T locs O X eT t hr => XS.lshl X.here O.1 rfl (hb O.2.1 hd) rfl hr
theorem Go.lshr {a : Int64} {b : Int32} (hd : decode bytes pc = .ok (.lshr, 1)) (hp : pc + 1 = pc') (q : Go wd l R Z y bytes maxL ret n0 K N Q h cells slots pc' Ls (.long (a >>> (b &&& 0x3f).toInt64) :: st)) : Go wd l R Z y bytes maxL ret n0 K N Q h cells slots pc Ls (.int b :: .long a :: st) := by
  subst hp; exact Go.of q fun p e s m args below meth c T locs O X eT t hr => XS.lshr X.here O.1 rfl (hb O.2.1 hd) rfl hr
theorem Go.lushr {a : Int64} {b : Int32} (hd : decode bytes pc = .ok (.lushr, 1)) (hp : pc + 1 = pc') (q : Go wd l R Z y bytes maxL ret n0 K N Q h cells slots pc' Ls (.long ((a.toUInt64 >>> (b &&& 0x3f).toInt64.toUInt64).toInt64) :: st)) : Go wd l R Z y bytes maxL ret n0 K N Q h cells slots pc Ls (.int b :: .long a :: st) := by
  subst hp; exact Go.of q fun p e s m args below meth c T locs O X eT t hr => XS.lushr X.here O.1 rfl (hb O.2.1 hd) rfl hr
theorem Go.ldiv {a : Int64} {b : Int64} (hd : decode bytes pc = .ok (.ldiv, 1)) (hy : b ≠ 0) (hp : pc + 1 = pc') (q : Go wd l R Z y bytes maxL ret n0 K N Q h cells slots pc' Ls (.long (a / b) :: st)) : Go wd l R Z y bytes maxL ret n0 K N Q h cells slots pc Ls (.long b :: .long a :: st) := by
  subst hp; exact Go.of q fun p e s m args below meth c T locs O X eT t hr => XS.ldiv X.here O.1 rfl (hb O.2.1 hd) rfl hy hr
theorem Go.i2b {a : Int32} (hd : decode bytes pc = .ok (.i2b, 1)) (hp : pc + 1 = pc') (q : Go wd l R Z y bytes maxL ret n0 K N Q h cells slots pc' Ls (.int (a.toInt8.toInt32) :: st)) : Go wd l R Z y bytes maxL ret n0 K N Q h cells slots pc Ls (.int a :: st) := by
  subst hp; exact Go.of q fun p e s m args below meth c T locs O X eT t hr => XS.i2b X.here O.1 rfl (hb O.2.1 hd) rfl hr
theorem Go.i2c {a : Int32} (hd : decode bytes pc = .ok (.i2c, 1)) (hp : pc + 1 = pc') (q : Go wd l R Z y bytes maxL ret n0 K N Q h cells slots pc' Ls (.int (a.toUInt32.toUInt16.toUInt32.toInt32) :: st)) : Go wd l R Z y bytes maxL ret n0 K N Q h cells slots pc Ls (.int a :: st) := by
  subst hp; exact Go.of q fun p e s m args below meth c T locs O X eT t hr => XS.i2c X.here O.1 rfl (hb O.2.1 hd) rfl hr
theorem Go.i2s {a : Int32} (hd : decode bytes pc = .ok (.i2s, 1)) (hp : pc + 1 = pc') (q : Go wd l R Z y bytes maxL ret n0 K N Q h cells slots pc' Ls (.int (a.toInt16.toInt32) :: st)) : Go wd l R Z y bytes maxL ret n0 K N Q h cells slots pc Ls (.int a :: st) := by
  subst hp; exact Go.of q fun p e s m args below meth c T locs O X eT t hr => XS.i2s X.here O.1 rfl (hb O.2.1 hd) rfl hr
theorem Go.i2l {a : Int32} (hd : decode bytes pc = .ok (.i2l, 1)) (hp : pc + 1 = pc') (q : Go wd l R Z y bytes maxL ret n0 K N Q h cells slots pc' Ls (.long (a.toInt64) :: st)) : Go wd l R Z y bytes maxL ret n0 K N Q h cells slots pc Ls (.int a :: st) := by
  subst hp; exact Go.of q fun p e s m args below meth c T locs O X eT t hr => XS.i2l X.here O.1 rfl (hb O.2.1 hd) rfl hr
theorem Go.l2i {a : Int64} (hd : decode bytes pc = .ok (.l2i, 1)) (hp : pc + 1 = pc') (q : Go wd l R Z y bytes maxL ret n0 K N Q h cells slots pc' Ls (.int (a.toInt32) :: st)) : Go wd l R Z y bytes maxL ret n0 K N Q h cells slots pc Ls (.long a :: st) := by
  subst hp; exact Go.of q fun p e s m args below meth c T locs O X eT t hr => XS.l2i X.here O.1 rfl (hb O.2.1 hd) rfl hr
theorem Go.lneg {a : Int64} (hd : decode bytes pc = .ok (.lneg, 1)) (hp : pc + 1 = pc') (q : Go wd l R Z y bytes maxL ret n0 K N Q h cells slots pc' Ls (.long (-a) :: st)) : Go wd l R Z y bytes maxL ret n0 K N Q h cells slots pc Ls (.long a :: st) := by
  subst hp; exact Go.of q fun p e s m args below meth c T locs O X eT t hr => XS.lneg X.here O.1 rfl (hb O.2.1 hd) rfl hr
theorem Go.ineg {a : Int32} (hd : decode bytes pc = .ok (.ineg, 1)) (hp : pc + 1 = pc') (q : Go wd l R Z y bytes maxL ret n0 K N Q h cells slots pc' Ls (.int (-a) :: st)) : Go wd l R Z y bytes maxL ret n0 K N Q h cells slots pc Ls (.int a :: st) := by
  subst hp; exact Go.of q fun p e s m args below meth c T locs O X eT t hr => XS.ineg X.here O.1 rfl (hb O.2.1 hd) rfl hr
theorem Go.irem {a b : Int32} (hd : decode bytes pc = .ok (.irem, 1)) (hy : b ≠ 0) (hp : pc + 1 = pc') (q : Go wd l R Z y bytes maxL ret n0 K N Q h cells slots pc' Ls (.int (a % b) :: st)) : Go wd l R Z y bytes maxL ret n0 K N Q h cells slots pc Ls (.int b :: .int a :: st) := by
  subst hp; exact Go.of q fun p e s m args below meth c T locs O X eT t hr => iremM X O.1 rfl (hb O.2.1 hd) rfl hy hr
theorem Go.lrem {a b : Int64} (hd : decode bytes pc = .ok (.lrem, 1)) (hy : b ≠ 0) (hp : pc + 1 = pc') (q : Go wd l R Z y bytes maxL ret n0 K N Q h cells slots pc' Ls (.long (a % b) :: st)) : Go wd l R Z y bytes maxL ret n0 K N Q h cells slots pc Ls (.long b :: .long a :: st) := by
  subst hp; rw [← lrem_mod] at q; exact Go.of q fun p e s m args below meth c T locs O X eT t hr => XS.lrem X.here O.1 rfl (hb O.2.1 hd) rfl hy hr
theorem c_lremM (x y : Int64) (d : Int) (hy : y.toInt = d) : (0 ≤ x.toInt → (x % y).toInt = x.toInt % d) ∧ (x.toInt < 0 → (x % y).toInt = -((-x.toInt) % d)) := by rw [Int64.toInt_mod, hy]; exact tr _ _
/-! branches -/
def jc : ClassFile.Cond → Int32 → Int32 → Prop
  | .eq, x, y => x.toInt = y.toInt
  | .ne, x, y => x.toInt ≠ y.toInt
  | .lt, x, y => x.toInt < y.toInt
  | .ge, x, y => y.toInt ≤ x.toInt
  | .gt, x, y => y.toInt < x.toInt
  | .le, x, y => x.toInt ≤ y.toInt
def jn : ClassFile.Cond → Int32 → Int32 → Prop
  | .eq, x, y => x.toInt ≠ y.toInt
  | .ne, x, y => x.toInt = y.toInt
  | .lt, x, y => y.toInt ≤ x.toInt
  | .ge, x, y => x.toInt < y.toInt
  | .gt, x, y => x.toInt ≤ y.toInt
  | .le, x, y => y.toInt < x.toInt
def zc : ClassFile.Cond → Int32 → Prop
  | .eq, x => x.toInt = 0
  | .ne, x => x.toInt ≠ 0
  | .lt, x => x.toInt < 0
  | .ge, x => 0 ≤ x.toInt
  | .gt, x => 0 < x.toInt
  | .le, x => x.toInt ≤ 0
def zn : ClassFile.Cond → Int32 → Prop
  | .eq, x => x.toInt ≠ 0
  | .ne, x => x.toInt = 0
  | .lt, x => 0 ≤ x.toInt
  | .ge, x => x.toInt < 0
  | .gt, x => x.toInt ≤ 0
  | .le, x => 0 < x.toInt
def wc : ClassFile.Cond → Int64 → Int64 → Prop
  | .eq, x, y => x.toInt = y.toInt
  | .ne, x, y => x.toInt ≠ y.toInt
  | .lt, x, y => x.toInt < y.toInt
  | .ge, x, y => y.toInt ≤ x.toInt
  | .gt, x, y => y.toInt < x.toInt
  | .le, x, y => x.toInt ≤ y.toInt
def wn : ClassFile.Cond → Int64 → Int64 → Prop
  | .eq, x, y => x.toInt ≠ y.toInt
  | .ne, x, y => x.toInt = y.toInt
  | .lt, x, y => y.toInt ≤ x.toInt
  | .ge, x, y => x.toInt < y.toInt
  | .gt, x, y => x.toInt ≤ y.toInt
  | .le, x, y => y.toInt < x.toInt
theorem jc_or (cd : ClassFile.Cond) (x y : Int32) : (if_icmp.holds cd x y = true ∧ jc cd x y) ∨ (if_icmp.holds cd x y = false ∧ jn cd x y) := by
  have i : x = y ↔ x.toInt = y.toInt := Int32.toInt_inj.symm
  cases cd <;> simp only [if_icmp.holds, jc, jn, beq_iff_eq, bne_iff_ne, beq_eq_false_iff_ne, bne_eq_false_iff_eq, decide_eq_true_eq, decide_eq_false_iff_not, Int32.lt_iff_toInt_lt, Int32.le_iff_toInt_le, ge_iff_le, gt_iff_lt, ne_eq, i] <;> omega
theorem zc_or (cd : ClassFile.Cond) (x : Int32) : (ifCond.holds cd x = true ∧ zc cd x) ∨ (ifCond.holds cd x = false ∧ zn cd x) := by
  have z : (0 : Int32).toInt = 0 := rfl
  rcases jc_or cd x 0 with ⟨q, r⟩ | ⟨q, r⟩
  · left; rw [if0]; refine ⟨q, ?_⟩; cases cd <;> simp only [jc, zc, z] at r ⊢ <;> exact r
  · right; rw [if0]; refine ⟨q, ?_⟩; cases cd <;> simp only [jn, zn, z] at r ⊢ <;> exact r
theorem wc_or (cd : ClassFile.Cond) (x y : Int64) : (ifCond.holds cd (lcmpW x y) = true ∧ wc cd x y) ∨ (ifCond.holds cd (lcmpW x y) = false ∧ wn cd x y) := by
  have e := c_lcmp x y
  rcases zc_or cd (lcmpW x y) with ⟨q, r⟩ | ⟨q, r⟩
  · left; refine ⟨q, ?_⟩; cases cd <;> simp only [zc, wc, ne_eq] at r ⊢ <;> omega
  · right; refine ⟨q, ?_⟩; cases cd <;> simp only [zn, wn, ne_eq] at r ⊢ <;> omega
theorem Go.icmp {cd : ClassFile.Cond} {o : Int} {x z : Int32} {pc1 pc2 : Nat} (hd : decode bytes pc = .ok (.if_icmp cd o, 3)) (ho : 0 ≤ (pc : Int) + o) (hp : ((pc : Int) + o).toNat = pc1) (hp2 : pc + 3 = pc2)
    (q1 : jc cd x z → Go wd l R Z y bytes maxL ret n0 K N Q h cells slots pc1 Ls st) (q2 : jn cd x z → Go wd l R Z y bytes maxL ret n0 K N Q h cells slots pc2 Ls st) : Go wd l R Z y bytes maxL ret n0 K N Q h cells slots pc Ls (.int z :: .int x :: st) := by
  rcases jc_or cd x z with ⟨hc, r⟩ | ⟨hc, r⟩
  · exact Go.of (q1 r) fun p e s m args below meth c T locs O X eT t hr => XS.icmpYes X.here O.1 rfl (pc0 := pc) rfl (hb O.2.1 hd) rfl hc ho hp hr
  · subst hp2; exact Go.of (q2 r) fun p e s m args below meth c T locs O X eT t hr => XS.icmpNo X.here O.1 rfl (hb O.2.1 hd) rfl hc hr
theorem Go.ifc {cd : ClassFile.Cond} {o : Int} {x : Int32} {pc1 pc2 : Nat} (hd : decode bytes pc = .ok (.ifCond cd o, 3)) (ho : 0 ≤ (pc : Int) + o) (hp : ((pc : Int) + o).toNat = pc1) (hp2 : pc + 3 = pc2)
    (q1 : zc cd x → Go wd l R Z y bytes maxL ret n0 K N Q h cells slots pc1 Ls st) (q2 : zn cd x → Go wd l R Z y bytes maxL ret n0 K N Q h cells slots pc2 Ls st) : Go wd l R Z y bytes maxL ret n0 K N Q h cells slots pc Ls (.int x :: st) := by
  rcases zc_or cd x with ⟨hc, r⟩ | ⟨hc, r⟩
  · exact Go.of (q1 r) fun p e s m args below meth c T locs O X eT t hr => XS.ifYes X.here O.1 rfl (pc0 := pc) rfl (hb O.2.1 hd) rfl hc ho hp hr
  · subst hp2; exact Go.of (q2 r) fun p e s m args below meth c T locs O X eT t hr => XS.ifNo X.here O.1 rfl (hb O.2.1 hd) rfl hc hr
theorem Go.lcmp {a b : Int64} (hd : decode bytes pc = .ok (.lcmp, 1)) (hp : pc + 1 = pc') (q : Go wd l R Z y bytes maxL ret n0 K N Q h cells slots pc' Ls (.int (lcmpW a b) :: st)) : Go wd l R Z y bytes maxL ret n0 K N Q h cells slots pc Ls (.long b :: .long a :: st) := by
  subst hp; exact Go.of q fun p e s m args below meth c T locs O X eT t hr => XS.lcmp X.here O.1 rfl (hb O.2.1 hd) rfl hr
theorem Go.ifw {cd : ClassFile.Cond} {o : Int} {a b : Int64} {pc1 pc2 : Nat} (hd : decode bytes pc = .ok (.ifCond cd o, 3)) (ho : 0 ≤ (pc : Int) + o) (hp : ((pc : Int) + o).toNat = pc1) (hp2 : pc + 3 = pc2)
    (q1 : wc cd a b → Go wd l R Z y bytes maxL ret n0 K N Q h cells slots pc1 Ls st) (q2 : wn cd a b → Go wd l R Z y bytes maxL ret n0 K N Q h cells slots pc2 Ls st) : Go wd l R Z y bytes maxL ret n0 K N Q h cells slots pc Ls (.int (lcmpW a b) :: st) := by
  rcases wc_or cd a b with ⟨hc, r⟩ | ⟨hc, r⟩
  · exact Go.of (q1 r) fun p e s m args below meth c T locs O X eT t hr => XS.ifYes X.here O.1 rfl (pc0 := pc) rfl (hb O.2.1 hd) rfl hc ho hp hr
  · subst hp2; exact Go.of (q2 r) fun p e s m args below meth c T locs O X eT t hr => XS.ifNo X.here O.1 rfl (hb O.2.1 hd) rfl hc hr
theorem Go.nonnullYes {o : Int} {a : Addr} (hd : decode bytes pc = .ok (.ifnonnull o, 3)) (ho : 0 ≤ (pc : Int) + o) (hp : ((pc : Int) + o).toNat = pc') (q : Go wd l R Z y bytes maxL ret n0 K N Q h cells slots pc' Ls st) : Go wd l R Z y bytes maxL ret n0 K N Q h cells slots pc Ls (.ref a :: st) :=
  Go.of q fun p e s m args below meth c T locs O X eT t hr => XS.ifnonnullYes X.here O.1 rfl (pc0 := pc) rfl (hb O.2.1 hd) rfl ho hp hr
theorem Go.nonnullNo {o : Int} (hd : decode bytes pc = .ok (.ifnonnull o, 3)) (hp : pc + 3 = pc') (q : Go wd l R Z y bytes maxL ret n0 K N Q h cells slots pc' Ls st) : Go wd l R Z y bytes maxL ret n0 K N Q h cells slots pc Ls (.null :: st) := by
  subst hp; exact Go.of q fun p e s m args below meth c T locs O X eT t hr => XS.ifnonnullNo X.here O.1 rfl (hb O.2.1 hd) rfl hr
theorem Go.nullYes {o : Int} (hd : decode bytes pc = .ok (.ifnull o, 3)) (ho : 0 ≤ (pc : Int) + o) (hp : ((pc : Int) + o).toNat = pc') (q : Go wd l R Z y bytes maxL ret n0 K N Q h cells slots pc' Ls st) : Go wd l R Z y bytes maxL ret n0 K N Q h cells slots pc Ls (.null :: st) :=
  Go.of q fun p e s m args below meth c T locs O X eT t hr => XS.ifnullYes X.here O.1 rfl (pc0 := pc) rfl (hb O.2.1 hd) rfl ho hp hr
theorem Go.nullNo {o : Int} {a : Addr} (hd : decode bytes pc = .ok (.ifnull o, 3)) (hp : pc + 3 = pc') (q : Go wd l R Z y bytes maxL ret n0 K N Q h cells slots pc' Ls st) : Go wd l R Z y bytes maxL ret n0 K N Q h cells slots pc Ls (.ref a :: st) := by
  subst hp; exact Go.of q fun p e s m args below meth c T locs O X eT t hr => XS.ifnullNo X.here O.1 rfl (hb O.2.1 hd) rfl hr
/-- if_acmp: q1 where they are the same, q2 where they aren't -/
theorem Go.acmp {cd : ACond} {o : Int} {u w : Value} {pc1 pc2 : Nat} (hd : decode bytes pc = .ok (.if_acmp cd o, 3)) (hu : u.isRef = true) (hw : w.isRef = true) (ho : 0 ≤ (pc : Int) + o) (hp : (if acV cd true = true then ((pc : Int) + o).toNat else pc + 3) = pc1) (hp2 : (if acV cd false = true then ((pc : Int) + o).toNat else pc + 3) = pc2)
    (q1 : u = w → Go wd l R Z y bytes maxL ret n0 K N Q h cells slots pc1 Ls st) (q2 : u ≠ w → Go wd l R Z y bytes maxL ret n0 K N Q h cells slots pc2 Ls st) : Go wd l R Z y bytes maxL ret n0 K N Q h cells slots pc Ls (w :: u :: st) := by
  by_cases r : u = w
  · exact Go.of (q1 r) fun p e s m args below meth c T locs O X eT t hr => RoadKit.acmp X O.1 rfl hu hw (pc0 := pc) (same := true) rfl (hb O.2.1 hd) rfl (decide_eq_true r) ho hp.symm hr
  · exact Go.of (q2 r) fun p e s m args below meth c T locs O X eT t hr => RoadKit.acmp X O.1 rfl hu hw (pc0 := pc) (same := false) rfl (hb O.2.1 hd) rfl (decide_eq_false r) ho hp2.symm hr
/-! constants of the pool -/
theorem Go.ldcI {i : Nat} {v : Int32} (w : (Cond.constant y.cls i v).before a0 Z = true) (hd : decode bytes pc = .ok (.ldc i, 2)) (hp : pc + 2 = pc') (q : Go wd l R Z y bytes maxL ret n0 K N Q h cells slots pc' Ls (.int v :: st)) : Go wd l R Z y bytes maxL ret n0 K N Q h cells slots pc Ls st := by
  subst hp; exact Go.of q fun p e s m args below meth c T locs O X eT t hr => X.ldcInt O.1 O.2.2.2.1 (mvT O.2.2.2.2.2.1 w) (g := mkF m pc Ls st) rfl (hb O.2.1 hd) t hr
theorem Go.ldcW {i : Nat} {v : Int32} (w : (Cond.constant y.cls i v).before a0 Z = true) (hd : decode bytes pc = .ok (.ldc_w i, 3)) (hp : pc + 3 = pc') (q : Go wd l R Z y bytes maxL ret n0 K N Q h cells slots pc' Ls (.int v :: st)) : Go wd l R Z y bytes maxL ret n0 K N Q h cells slots pc Ls st := by
  subst hp; exact Go.of q fun p e s m args below meth c T locs O X eT t hr => X.ldcwInt O.1 O.2.2.2.1 (mvT O.2.2.2.2.2.1 w) (g := mkF m pc Ls st) rfl (hb O.2.1 hd) t hr
theorem Go.ldcL {i : Nat} {v : Int64} (w : (Cond.constantLong y.cls i v).before a0 Z = true) (hd : decode bytes pc = .ok (.ldc2_w i, 3)) (hp : pc + 3 = pc') (q : Go wd l R Z y bytes maxL ret n0 K N Q h cells slots pc' Ls (.long v :: st)) : Go wd l R Z y bytes maxL ret n0 K N Q h cells slots pc Ls st := by
  subst hp; exact Go.of q fun p e s m args below meth c T locs O X eT t hr => X.ldc2Long O.1 O.2.2.2.1 (mvT O.2.2.2.2.2.1 w) (g := mkF m pc Ls st) rfl (hb O.2.1 hd) t hr
/-! the ends -/
theorem Go.leave {v : Option Value} (hv : ret = none → v = none) (hQ : Q v h) (hk : cells ≤ K) (hn : slots ≤ N)
    (q : ∀ (p : Program) (e : Env) (s : State) (m : MethodId) (args : Array Value) (below : List Frame) (meth : Method) (c : Code) (T : State) (locs : List Loc) (fs : List Frame), Own Z y bytes maxL ret p s m meth c → Stand p l e R s m args below meth c T locs cells slots →
      (∀ (f : JFrame) (acts : List Action), f.method = m → f.locked = none → f.entered = [] → (doReturn e (T.setTop f) acts v).1 = T.setFrames fs) → Steps p.tables e below (T.setTop (mkF m pc Ls st)) (T.setFrames fs)) : Go wd l R Z y bytes maxL ret n0 K N Q h cells slots pc Ls st := by
  intro p e s0 s m args below meth c T locs hR O X eT F
  obtain ⟨fs, hr, hrun, hended, hW, hsame⟩ := X.leave (v := v) (fun r => hv (by rw [← O.2.2.2.2.2.2.1]; exact r)) O.2.2.2.2.2.2.2
  have hE : GoEnd wd s0 (.returned v) (T.setFrames fs) locs K N := GoRel.ended (U := T.setFrames fs) (by show GoRel wd s0 s T.heap.size; rw [eT]; exact hR) hW hsame hk hn
  refine ⟨_, _, q p e s m args below meth c T locs fs O X hr, hrun, hended, v, locs, rfl, ⟨?_, F⟩, hE⟩
  show Q v T.heap
  rw [eT]; exact hQ
theorem Go.ret0 (hd : decode bytes pc = .ok (.return_, 1)) (hr : ret = none) (hQ : Q none h) (hk : cells ≤ K) (hn : slots ≤ N) : Go wd l R Z y bytes maxL ret n0 K N Q h cells slots pc Ls [] :=
  Go.leave (v := none) (fun _ => rfl) hQ hk hn fun p e s m args below meth c T locs fs O X hl => X.returnOut O.1 (O.2.2.2.2.2.2.1.trans hr) (hb O.2.1 hd) hl
theorem Go.retI {v : Int32} (hd : decode bytes pc = .ok (.ireturn, 1)) (hr : ret = some .int) (hQ : Q (some (.int v)) h) (hk : cells ≤ K) (hn : slots ≤ N) : Go wd l R Z y bytes maxL ret n0 K N Q h cells slots pc Ls (.int v :: st) :=
  Go.leave (v := some (.int v)) (fun r => by rw [hr] at r; cases r) hQ hk hn fun p e s m args below meth c T locs fs O X hl => retOut X O.1 (O.2.2.2.2.2.2.1.trans hr) rfl (Or.inl ⟨rfl, Or.inl rfl, _, rfl⟩) (hb O.2.1 hd) hl
theorem Go.retN {v : Int32} {t : FieldType} (hd : decode bytes pc = .ok (.ireturn, 1)) (hr : ret = some t) (ht : t = .boolean ∨ t = .byte ∨ t = .char ∨ t = .short) (hv : nar t v = v) (hQ : Q (some (.int v)) h) (hk : cells ≤ K) (hn : slots ≤ N) : Go wd l R Z y bytes maxL ret n0 K N Q h cells slots pc Ls (.int v :: st) :=
  Go.leave (v := some (.int v)) (fun r => by rw [hr] at r; cases r) hQ hk hn fun p e s m args below meth c T locs fs O X hl => RoadKit.retN X O.1 (O.2.2.2.2.2.2.1.trans hr) ht (hb O.2.1 hd) (by rw [hv]; exact hl)
theorem Go.retL {v : Int64} (hd : decode bytes pc = .ok (.lreturn, 1)) (hr : ret = some .long) (hQ : Q (some (.long v)) h) (hk : cells ≤ K) (hn : slots ≤ N) : Go wd l R Z y bytes maxL ret n0 K N Q h cells slots pc Ls (.long v :: st) :=
  Go.leave (v := some (.long v)) (fun r => by rw [hr] at r; cases r) hQ hk hn fun p e s m args below meth c T locs fs O X hl => retOut X O.1 (O.2.2.2.2.2.2.1.trans hr) rfl (Or.inr (Or.inl ⟨rfl, rfl, _, rfl⟩)) (hb O.2.1 hd) hl
theorem Go.retA {v : Value} {t : FieldType} (hd : decode bytes pc = .ok (.areturn, 1)) (hr : ret = some t) (ht : t.isReference = true) (hv : v.isRef = true) (hQ : Q (some v) h) (hk : cells ≤ K) (hn : slots ≤ N) : Go wd l R Z y bytes maxL ret n0 K N Q h cells slots pc Ls (v :: st) :=
  Go.leave (v := some v) (fun r => by rw [hr] at r; cases r) hQ hk hn fun p e s m args below meth c T locs fs O X hl => retOut X O.1 (O.2.2.2.2.2.2.1.trans hr) (by cases t <;> first | rfl | (cases ht; done)) (Or.inr (Or.inr (Or.inr (Or.inr ⟨rfl, ht, hv⟩)))) (hb O.2.1 hd) hl
/-! the heap -/
theorem Go.newO {C : String} {i n : Nat} (w1 : (Cond.classLink y.cls i C).before a0 Z = true) (w2 : (Cond.instantiable C n).before a0 Z = true) (w3 : (Cond.initialized C).before a0 Z = true) (hd : decode bytes pc = .ok (.new i, 3)) (hc : cells + 1 ≤ R.cells) (hs : slots + n ≤ R.slots) (hp : pc + 3 = pc')
    (q : ∀ (h' : Heap) (a : Addr), a = h.size → Ext h h' → Exa Z h' a C → (∀ {O nm d : String} {ty : FieldType}, Laid Z a0 C O nm d → parseFieldDescriptor d = some ty → Fld Z h' a O nm d (defaultValue ty)) → Go wd l R Z y bytes maxL ret n0 K N Q h' (cells + 1) (slots + n) pc' Ls (.ref a :: st)) : Go wd l R Z y bytes maxL ret n0 K N Q h cells slots pc Ls st := by
  subst hp
  intro p e s0 s m args below meth c T locs hR O X eT F
  obtain ⟨T2, h2, X2, e2, E2, A2, D2, -, st2⟩ := RoadKit.newO X O.1 O.2.2.2.2.2.1 O.2.2.2.1 w1 w2 w3 eT (g := mkF m pc Ls st) rfl (hb O.2.1 hd) hc hs
  obtain ⟨s₂, o, h1, r⟩ := q h2 _ rfl E2 A2 D2 p e s0 s m args below meth c T2 locs (hR.mono E2.1) O X2 e2 F
  exact ⟨s₂, o, st2 _ h1, r⟩
theorem Go.initO {i W : Nat} {a : Addr} (w1 : (Cond.methodLink y.cls i Lib.objectInit).before a0 Z = true) (w2 : (Cond.instanceMethod Lib.objectInit).before a0 Z = true) (w3 : (Cond.code Lib.objectInit ⟨#[0xb1]⟩ 1 none).before a0 Z = true) (hd : decode bytes pc = .ok (.invokespecial i, 3)) (hz : Ls.size = maxL)
    (hf : 1 ≤ R.frames) (hW : (st.map fun v => v.category).sum ≤ W) (hl : W + 12 ≤ R.locals) (hp : pc + 3 = pc') (q : Go wd l R Z y bytes maxL ret n0 K N Q h cells slots pc' Ls st) : Go wd l R Z y bytes maxL ret n0 K N Q h cells slots pc Ls (.ref a :: st) := by
  subst hp
  intro p e s0 s m args below meth c T locs hR O X eT F
  obtain ⟨T2, X2, e2, st2⟩ := RoadKit.initO X O.1 O.2.2.2.2.2.1 O.2.2.2.1 w1 w2 w3 eT (g := mkF m pc Ls (.ref a :: st)) rfl (hz.trans O.2.2.1.symm) rfl (hb O.2.1 hd) hf (W := W) (by show 2 * 0 + _ ≤ _; omega) hl
  obtain ⟨s₂, o, h1, r⟩ := q p e s0 s m args below meth c T2 locs hR O X2 e2 F
  exact ⟨s₂, o, st2 _ h1, r⟩
theorem Go.getF {C n d : String} {i : Nat} {a : Addr} {v : Value} (w : (Cond.fieldLink y.cls i C n d).before a0 Z = true) (hF : Fld Z h a C n d v) (hd : decode bytes pc = .ok (.getfield i, 3)) (hp : pc + 3 = pc') (q : Go wd l R Z y bytes maxL ret n0 K N Q h cells slots pc' Ls (v :: st)) : Go wd l R Z y bytes maxL ret n0 K N Q h cells slots pc Ls (.ref a :: st) := by
  subst hp
  intro p e s0 s m args below meth c T locs hR O X eT F
  obtain ⟨T2, X2, e2, st2⟩ := RoadKit.getF X O.1 O.2.2.2.2.2.1 O.2.2.2.1 (host := "") (Or.inl w) Via.refl eT hF (g := mkF m pc Ls (.ref a :: st)) rfl rfl (hb O.2.1 hd)
  obtain ⟨s₂, o, h1, r⟩ := q p e s0 s m args below meth c T2 locs hR O X2 e2 F
  exact ⟨s₂, o, st2 _ h1, r⟩
theorem Go.getS {C n d : String} {i : Nat} {v : Value} (w : (Cond.fieldLink y.cls i C n d).before a0 Z = true) (hF : Sta Z h C n d v) (hd : decode bytes pc = .ok (.getstatic i, 3)) (hp : pc + 3 = pc') (q : Go wd l R Z y bytes maxL ret n0 K N Q h cells slots pc' Ls (v :: st)) : Go wd l R Z y bytes maxL ret n0 K N Q h cells slots pc Ls st := by
  subst hp
  intro p e s0 s m args below meth c T locs hR O X eT F
  obtain ⟨T2, X2, e2, st2⟩ := RoadKit.getS2 X O.1 O.2.2.2.2.2.1 O.2.2.2.1 (host := "") (Or.inl w) Via.refl eT hF (g := mkF m pc Ls st) rfl (hb O.2.1 hd)
  obtain ⟨s₂, o, h1, r⟩ := q p e s0 s m args below meth c T2 locs hR O X2 e2 F
  exact ⟨s₂, o, st2 _ h1, r⟩
theorem Go.putF {C n d : String} {i kk : Nat} {ty : FieldType} {a : Addr} {v old : Value} (w : (Cond.fieldLink y.cls i C n d).before a0 Z = true) (hF : Fld Z h a C n d old) (hE : Exa Z h a C) (hL : (Cond.lays C C n d).before a0 Z = true ∨ ((Cond.laysFinal C C n d).before a0 Z = true ∧ y.cls = C ∧ y.name = "<init>")) (wi : (Cond.instantiable C kk).before a0 Z = true)
    (hty : parseFieldDescriptor d = some ty) (hn : narrow ty v = v) (hf : fits ty v = true) (hd : decode bytes pc = .ok (.putfield i, 3)) (ha : n0 ≤ a) (hp : pc + 3 = pc') (q : ∀ h', Wr h h' a (slotOf Z C n d) v → Go wd l R Z y bytes maxL ret n0 K N Q h' cells slots pc' Ls st) : Go wd l R Z y bytes maxL ret n0 K N Q h cells slots pc Ls (v :: .ref a :: st) := by
  subst hp
  intro p e s0 s m args below meth c T locs hR O X eT F
  obtain ⟨T2, h2, X2, e2, W2, st2⟩ := RoadKit.putF X O.1 O.2.2.2.2.2.1 O.2.2.2.1 (host := "") (Or.inl w) Via.refl eT hF hE (hL.imp_right fun r => ⟨r.1, r.2.1, O.2.2.2.2.1.trans r.2.2⟩) wi hty hn hf (g := mkF m pc Ls (v :: .ref a :: st)) rfl rfl (hb O.2.1 hd)
  obtain ⟨s₂, o, h1, r⟩ := q h2 W2 p e s0 s m args below meth c T2 _ (hR.mono (Nat.le_of_eq W2.size.symm)) O X2 e2 (Fr.snoc X2 F ha)
  exact ⟨s₂, o, st2 _ h1, r⟩
/-! facts carried from heap to heap -/
def Sm (h h' : Heap) (a : Addr) : Prop := ∀ c : Cell, h[a]? = some c → h'[a]? = some c
theorem Sm.ext {h h' : Heap} {a : Addr} (E : Ext h h') : Sm h h' a := fun c q => E.2 a c q
theorem Sm.keep {h h' : Heap} {a : Addr} {ws : List Addr} (E : Keep h h' ws) (q : a ∉ ws) : Sm h h' a := fun c r => E.2.1 a c r q
theorem Sm.wr {h h' : Heap} {a b : Addr} {sl : Nat} {v : Value} (W : Wr h h' b sl v) (q : a ≠ b) : Sm h h' a := Sm.keep (Keep.of_wr W) (by simpa using q)
theorem Sm.trans {h h' h'' : Heap} {a : Addr} (A : Sm h h' a) (B : Sm h' h'' a) : Sm h h'' a := fun c r => B c (A c r)
theorem Fld.sm {h h' : Heap} {a : Addr} {C n d : String} {v : Value} (F : Fld Z h a C n d v) (S : Sm h h' a) : Fld Z h' a C n d v := by
  obtain ⟨cell, cf, k, i, f, h1, r⟩ := F; exact ⟨cell, cf, k, i, f, S _ h1, r⟩
theorem Exa.sm {h h' : Heap} {a : Addr} {C : String} (F : Exa Z h a C) (S : Sm h h' a) : Exa Z h' a C := by
  obtain ⟨cell, k, h1, r⟩ := F; exact ⟨cell, k, S _ h1, r⟩
theorem Arr.sm {h h' : Heap} {a : Addr} {c : Cell} {ty : FieldType} (F : Arr Z h a c ty) (S : Sm h h' a) : Arr Z h' a c ty := ⟨S _ F.1, F.2⟩
/-- the array at a holds just these values -/
def Ary (Z : State) (h : Heap) (a : Addr) (ty : FieldType) (vs : List Value) : Prop := ∃ c : Cell, Arr Z h a c ty ∧ c.slots = vs.toArray
theorem Ary.sm {h h' : Heap} {a : Addr} {ty : FieldType} {vs : List Value} (F : Ary Z h a ty vs) (S : Sm h h' a) : Ary Z h' a ty vs := by
  obtain ⟨c, A, r⟩ := F; exact ⟨c, A.sm S, r⟩
theorem Ary.lt {h : Heap} {a : Addr} {ty : FieldType} {vs : List Value} (F : Ary Z h a ty vs) : a < h.size := by
  obtain ⟨c, A, r⟩ := F; exact A.lt
theorem Ary.eq {h : Heap} {a : Addr} {ty : FieldType} {vs vs' : List Value} (F : Ary Z h a ty vs) (q : vs = vs') : Ary Z h a ty vs' := q ▸ F
theorem Ary.set {h h' : Heap} {a : Addr} {ty : FieldType} {vs : List Value} {k : Nat} {v : Value} (F : Ary Z h a ty vs) (W : Wr h h' a k v) : Ary Z h' a ty (vs.set k v) := by
  obtain ⟨c, A, r⟩ := F
  refine ⟨_, A.same W, ?_⟩
  show c.slots.setIfInBounds k v = _
  rw [r]; simp
theorem clamp_of {j : Int32} {k : Nat} (hj : j.toInt = (k : Int)) : j.toNatClampNeg = k := by
  show j.toInt.toNat = k; omega
theorem inb {j : Int32} {k : Nat} {c : Cell} {vs : List Value} (hj : j.toInt = (k : Int)) (hc : c.slots = vs.toArray) (hk : k < vs.length) : ¬ (j < 0 ∨ c.slots.size ≤ j.toNatClampNeg) := by
  have z : (0 : Int32).toInt = 0 := rfl
  rw [clamp_of hj, hc, Int32.lt_iff_toInt_lt, z]; simp; omega
theorem lt_of_get {vs : List Value} {k : Nat} {v : Value} (h : vs[k]? = some v) : k < vs.length := (List.getElem?_eq_some_iff.mp h).1
theorem Go.newA {aty : ArrayType} {n : Int32} {k : Nat} {ty : FieldType} (w : (Cond.arrayClass ty).before a0 Z = true) (hty : newarray.typeOf aty = ty) (hn : n.toInt = (k : Int)) {cap : Nat} (hcap : k ≤ cap) (hb8 : cap * 8 ≤ 536870912) (hd : decode bytes pc = .ok (.newarray aty, 2)) (hc : cells + 1 ≤ R.cells) (hs : slots + cap ≤ R.slots) (hp : pc + 2 = pc')
    (q : ∀ (h' : Heap) (a : Addr), a = h.size → Ext h h' → Ary Z h' a ty (List.replicate k (defaultValue ty)) → Go wd l R Z y bytes maxL ret n0 K N Q h' (cells + 1) (slots + cap) pc' Ls (.ref a :: st)) : Go wd l R Z y bytes maxL ret n0 K N Q h cells slots pc Ls (.int n :: st) := by
  subst hp hty
  intro p e s0 s m args below meth c T locs hR O X eT F
  have z : (0 : Int32).toInt = 0 := rfl
  have hn0 : ¬ n < 0 := by rw [Int32.lt_iff_toInt_lt, z]; omega
  obtain ⟨T2, h2, cA, X2, e2, E2, A2, st2⟩ := RoadKit.newP X O.1 O.2.2.2.2.2.1 w eT (g := mkF m pc Ls (.int n :: st)) rfl (hb O.2.1 hd) rfl hn0 (cap := cap) (by rw [clamp_of hn]; exact hcap) hb8 hc hs
  obtain ⟨s₂, o, h1, r⟩ := q h2 _ rfl E2 ⟨_, A2, by simp [RoadKit.newA, clamp_of hn]⟩ p e s0 s m args below meth c T2 locs (hR.mono E2.1) O X2 e2 F
  exact ⟨s₂, o, st2 _ h1, r⟩
theorem Go.alen {a : Addr} {ty : FieldType} {vs : List Value} {z : Int32} (hA : Ary Z h a ty vs) (hz : z.toInt = (vs.length : Int)) (hd : decode bytes pc = .ok (.arraylength, 1)) (hp : pc + 1 = pc') (q : Go wd l R Z y bytes maxL ret n0 K N Q h cells slots pc' Ls (.int z :: st)) : Go wd l R Z y bytes maxL ret n0 K N Q h cells slots pc Ls (.ref a :: st) := by
  subst hp
  obtain ⟨cl, A, r⟩ := hA
  have e1 : cl.slots.size.toInt32 = z := by
    have := z.toInt_lt
    rw [r]; apply Int32.toInt_inj.mp
    rw [hz]
    have q1 : vs.toArray.size = vs.length := by simp
    rw [q1]; exact len_toInt (by omega)
  exact Go.of q fun p e s m args below meth c T locs O X eT t hr => X.arraylength O.1 (cell := cl) (by rw [eT]; exact A.1) (State.isArrayOf_alike O.2.2.2.2.2.1.alike A.2.1) (g := mkF m pc Ls (.ref a :: st)) rfl (rest := st) rfl (hb O.2.1 hd) _ (by rw [e1]; exact hr)
theorem Go.ldI {a : Addr} {vs : List Value} {j : Int32} {k : Nat} {v : Value} (hA : Ary Z h a .int vs) (hj : j.toInt = (k : Int)) (hv : vs[k]? = some v) (hd : decode bytes pc = .ok (.iaload, 1)) (hp : pc + 1 = pc') (q : Go wd l R Z y bytes maxL ret n0 K N Q h cells slots pc' Ls (v :: st)) : Go wd l R Z y bytes maxL ret n0 K N Q h cells slots pc Ls (.int j :: .ref a :: st) := by
  subst hp
  obtain ⟨cl, A, r⟩ := hA
  exact Go.of q fun p e s m args below meth c T locs O X eT t hr => X.iaload O.1 (j := j) (v := v) (by rw [eT]; exact A.1) (State.isArrayOf_alike O.2.2.2.2.2.1.alike A.2.1) A.2.2 (inb hj r (lt_of_get hv)) (by rw [clamp_of hj, r]; simpa using hv) (g := mkF m pc Ls (.int j :: .ref a :: st)) rfl rfl (hb O.2.1 hd) _ hr
theorem Go.ldJ {a : Addr} {vs : List Value} {j : Int32} {k : Nat} {v : Value} (hA : Ary Z h a .long vs) (hj : j.toInt = (k : Int)) (hv : vs[k]? = some v) (hd : decode bytes pc = .ok (.laload, 1)) (hp : pc + 1 = pc') (q : Go wd l R Z y bytes maxL ret n0 K N Q h cells slots pc' Ls (v :: st)) : Go wd l R Z y bytes maxL ret n0 K N Q h cells slots pc Ls (.int j :: .ref a :: st) := by
  subst hp
  obtain ⟨cl, A, r⟩ := hA
  exact Go.of q fun p e s m args below meth c T locs O X eT t hr => X.laload O.1 (j := j) (v := v) (by rw [eT]; exact A.1) (State.isArrayOf_alike O.2.2.2.2.2.1.alike A.2.1) A.2.2 (inb hj r (lt_of_get hv)) (by rw [clamp_of hj, r]; simpa using hv) (g := mkF m pc Ls (.int j :: .ref a :: st)) rfl rfl (hb O.2.1 hd) _ hr
theorem Go.ldC {a : Addr} {vs : List Value} {j : Int32} {k : Nat} {v : Value} (hA : Ary Z h a .char vs) (hj : j.toInt = (k : Int)) (hv : vs[k]? = some v) (hd : decode bytes pc = .ok (.caload, 1)) (hp : pc + 1 = pc') (q : Go wd l R Z y bytes maxL ret n0 K N Q h cells slots pc' Ls (v :: st)) : Go wd l R Z y bytes maxL ret n0 K N Q h cells slots pc Ls (.int j :: .ref a :: st) := by
  subst hp
  obtain ⟨cl, A, r⟩ := hA
  exact Go.of q fun p e s m args below meth c T locs O X eT t hr => X.caload O.1 (j := j) (v := v) (by rw [eT]; exact A.1) (State.isArrayOf_alike O.2.2.2.2.2.1.alike A.2.1) A.2.2 (inb hj r (lt_of_get hv)) (by rw [clamp_of hj, r]; simpa using hv) (g := mkF m pc Ls (.int j :: .ref a :: st)) rfl rfl (hb O.2.1 hd) _ hr
theorem Go.ldA {a : Addr} {ty : FieldType} {vs : List Value} {j : Int32} {k : Nat} {v : Value} (hA : Ary Z h a ty vs) (hty : ty.isReference = true) (hj : j.toInt = (k : Int)) (hv : vs[k]? = some v) (hd : decode bytes pc = .ok (.aaload, 1)) (hp : pc + 1 = pc') (q : Go wd l R Z y bytes maxL ret n0 K N Q h cells slots pc' Ls (v :: st)) : Go wd l R Z y bytes maxL ret n0 K N Q h cells slots pc Ls (.int j :: .ref a :: st) := by
  subst hp
  obtain ⟨cl, A, r⟩ := hA
  exact Go.of q fun p e s m args below meth c T locs O X eT t hr => X.aaload O.1 (j := j) (v := v) (by rw [eT]; exact A.1) (State.isArrayOf_alike O.2.2.2.2.2.1.alike A.2.1) hty A.2.2 (inb hj r (lt_of_get hv)) (by rw [clamp_of hj, r]; simpa using hv) (g := mkF m pc Ls (.int j :: .ref a :: st)) rfl rfl (hb O.2.1 hd) _ hr
theorem Go.stI {a : Addr} {vs : List Value} {j v : Int32} {k : Nat} (hA : Ary Z h a .int vs) (hj : j.toInt = (k : Int)) (hk : k < vs.length) (hd : decode bytes pc = .ok (.iastore, 1)) (ha : n0 ≤ a) (hp : pc + 1 = pc')
    (q : ∀ h', Wr h h' a k (.int v) → Ary Z h' a .int (vs.set k (.int v)) → Go wd l R Z y bytes maxL ret n0 K N Q h' cells slots pc' Ls st) : Go wd l R Z y bytes maxL ret n0 K N Q h cells slots pc Ls (.int v :: .int j :: .ref a :: st) := by
  subst hp
  have hA' := hA
  obtain ⟨cl, A, r⟩ := hA
  intro p e s0 s m args below meth c T locs hR O X eT F
  obtain ⟨T2, h2, X2, e2, W2, st2⟩ := RoadKit.stI X O.1 O.2.2.2.2.2.1 eT A (j := j) (x := v) (inb hj r hk) (g := mkF m pc Ls (.int v :: .int j :: .ref a :: st)) rfl rfl (hb O.2.1 hd)
  rw [clamp_of hj] at X2 W2
  obtain ⟨s₂, o, h1, r⟩ := q h2 W2 (hA'.set W2) p e s0 s m args below meth c T2 _ (hR.mono (Nat.le_of_eq W2.size.symm)) O X2 e2 (Fr.snoc X2 F ha)
  exact ⟨s₂, o, st2 _ h1, r⟩
theorem Go.stJ {a : Addr} {vs : List Value} {j : Int32} {v : Int64} {k : Nat} (hA : Ary Z h a .long vs) (hj : j.toInt = (k : Int)) (hk : k < vs.length) (hd : decode bytes pc = .ok (.lastore, 1)) (ha : n0 ≤ a) (hp : pc + 1 = pc')
    (q : ∀ h', Wr h h' a k (.long v) → Ary Z h' a .long (vs.set k (.long v)) → Go wd l R Z y bytes maxL ret n0 K N Q h' cells slots pc' Ls st) : Go wd l R Z y bytes maxL ret n0 K N Q h cells slots pc Ls (.long v :: .int j :: .ref a :: st) := by
  subst hp
  have hA' := hA
  obtain ⟨cl, A, r⟩ := hA
  intro p e s0 s m args below meth c T locs hR O X eT F
  obtain ⟨T2, h2, X2, e2, W2, st2⟩ := RoadKit.stJ X O.1 O.2.2.2.2.2.1 eT A (j := j) (x := v) (inb hj r hk) (g := mkF m pc Ls (.long v :: .int j :: .ref a :: st)) rfl rfl (hb O.2.1 hd)
  rw [clamp_of hj] at X2 W2
  obtain ⟨s₂, o, h1, r⟩ := q h2 W2 (hA'.set W2) p e s0 s m args below meth c T2 _ (hR.mono (Nat.le_of_eq W2.size.symm)) O X2 e2 (Fr.snoc X2 F ha)
  exact ⟨s₂, o, st2 _ h1, r⟩
theorem Go.stC {a : Addr} {vs : List Value} {j v : Int32} {k : Nat} (hA : Ary Z h a .char vs) (hj : j.toInt = (k : Int)) (hk : k < vs.length) (hd : decode bytes pc = .ok (.castore, 1)) (ha : n0 ≤ a) (hp : pc + 1 = pc')
    (q : ∀ h', Wr h h' a k (.int (nar .char v)) → Ary Z h' a .char (vs.set k (.int (nar .char v))) → Go wd l R Z y bytes maxL ret n0 K N Q h' cells slots pc' Ls st) : Go wd l R Z y bytes maxL ret n0 K N Q h cells slots pc Ls (.int v :: .int j :: .ref a :: st) := by
  subst hp
  have hA' := hA
  obtain ⟨cl, A, r⟩ := hA
  intro p e s0 s m args below meth c T locs hR O X eT F
  obtain ⟨T2, h2, X2, e2, W2, st2⟩ := RoadKit.stC X O.1 O.2.2.2.2.2.1 eT A (j := j) (x := v) (inb hj r hk) (g := mkF m pc Ls (.int v :: .int j :: .ref a :: st)) rfl rfl (hb O.2.1 hd)
  rw [clamp_of hj] at X2 W2
  obtain ⟨s₂, o, h1, r⟩ := q h2 W2 (hA'.set W2) p e s0 s m args below meth c T2 _ (hR.mono (Nat.le_of_eq W2.size.symm)) O X2 e2 (Fr.snoc X2 F ha)
  exact ⟨s₂, o, st2 _ h1, r⟩
/-! a method by its contract -/
def Mt (wd : Bool) (l : Launch) (Z : State) (y : MethodName) (bytes : ByteArray) (maxL : Nat) (ret : Option FieldType) (rm : Room) (n0 : Nat) (Q : Option Value → Heap → Prop) (h : Heap) (as' : Array Value) : Prop :=
  MetFree l y (head1 [Cond.code y bytes maxL ret] rm) (fun a U => a = as' ∧ Z.Warmed39 U.vm ∧ U.heap = h) (fun _ _ _ _ _ => True) (fun _ U o U' => ∃ v L, o = .returned v ∧ ((Q v U'.heap ∧ h.size ≤ U'.heap.size) ∧ Fr n0 L) ∧ GoEnd wd U o U' L rm.cells rm.slots)
theorem met_go {rm : Room} {ws : List Jvm.Cond} {as' : Array Value} (hp : plainFor y = true) (hef : ∀ m, entryFrame m as' maxL = mkF m 0 Ls []) (g : Go wd l rm Z y bytes maxL ret n0 K N Q h 0 0 0 Ls []) :
    MetFree l y (head1 (Jvm.Cond.code y bytes maxL ret :: ws) rm) (fun a U => a = as' ∧ Z.Warmed39 U.vm ∧ U.heap = h) (fun _ _ _ _ _ => True) (fun _ U o U' => ∃ v L, o = .returned v ∧ ((Q v U'.heap ∧ h.size ≤ U'.heap.size) ∧ Fr n0 L) ∧ GoEnd wd U o U' L K N) := by
  refine MetFree.of_bodySF hp hisR ?_
  intro p e s m args below meth c s₁ Bd hml0 hP hK
  obtain ⟨rfl, hZ, hh⟩ := hP
  have O : Own Z y bytes maxL ret p s m meth c := ⟨Bd.exec, Bd.bytes, hml0, findClass_of_methodNamed Bd.named, (name_of_methodNamed Bd.named Bd.method).1, hZ, Bd.returns, Bd.notSynchronized⟩
  have X0 : Stand p l e rm s m args below meth c s₁ [] 0 0 := Stand.of_body Bd
  have e0 : s₁.heap = h := by rw [← hh, Bd.state]; rfl
  obtain ⟨s₂, o, h1, h2, h3, v, L, h4, h5, h6⟩ := g p e s s m args below meth c s₁ [] (GoRel.refl _ _ _) O X0 e0 (Fr.nil n0)
  exact ⟨s₂, o, castTop (hef m) h1, h2, h3, v, L, h4, ⟨⟨h5.1, hh ▸ h6.grow⟩, h5.2⟩, h6⟩
theorem Mt.go {rm : Room} {as' : Array Value} (hp : plainFor y = true) (hef : ∀ m, entryFrame m as' maxL = mkF m 0 Ls []) (g : Go wd l rm Z y bytes maxL ret n0 rm.cells rm.slots Q h 0 0 0 Ls []) : Mt wd l Z y bytes maxL ret rm n0 Q h as' := met_go (ws := []) hp hef g
variable {y2 : MethodName} {bytes2 : ByteArray} {maxL2 : Nat} {ret2 : Option FieldType} {rm : Room} {i W : Nat} {as' : Array Value} {argsL rest : List Value} {Q2 : Option Value → Heap → Prop} {ps : List FieldType} {r2 : Option FieldType}
theorem Go.callS (w1 : (Cond.methodLink y.cls i y2).before a0 Z = true) (w2 : (Cond.static y2).before a0 Z = true) (w3 : (Cond.initialized y2.cls).before a0 Z = true) (w4 : (Cond.code y2 bytes2 maxL2 ret2).before a0 Z = true) (hy : y2.cls ≠ "java/lang/invoke/MethodHandle" ∧ y2.cls ≠ "java/lang/invoke/VarHandle")
    (hM : Mt false l Z y2 bytes2 maxL2 ret2 rm n0 Q2 h argsL.toArray) (hd : decode bytes pc = .ok (.invokestatic i, 3)) (hz : Ls.size = maxL) (hpd : parseMethodDescriptor y2.desc = some ⟨ps, r2⟩) (hlen : argsL.length = ps.length) (hst : st = argsL.reverse ++ rest)
    (hW : (rest.map fun v => v.category).sum ≤ W) (hf : rm.frames + 1 ≤ R.frames) (hl : W + (maxL2 + 11) + rm.locals ≤ R.locals) (hc : cells + rm.cells ≤ R.cells) (hs : slots + rm.slots ≤ R.slots) (hp : pc + 3 = pc')
    (q : ∀ v h', Q2 v h' → Go wd l R Z y bytes maxL ret n0 K N Q h' (cells + rm.cells) (slots + rm.slots) pc' Ls (v.toList ++ rest)) : Go wd l R Z y bytes maxL ret n0 K N Q h cells slots pc Ls st := by
  subst hp hst
  intro p e s0 s m args below meth c T locs hR O X eT F
  obtain ⟨v, vm₁, ⟨T2, L2, k2, n2⟩, -, X2, ⟨Lc, hQ, l2, y2, z2⟩, st2⟩ := Jvm.LawKit.callS X O.1 (y := y2) O.2.2.2.1 (mvT O.2.2.2.2.2.1 w1) (mvT O.2.2.2.2.2.1 w2) (mvT O.2.2.2.2.2.1 w3) (mvT O.2.2.2.2.2.1 w4) hy
    (backOf (W := W) (Q := fun v h' L => (Q2 v h' ∧ h.size ≤ h'.size) ∧ Fr n0 L) hM O.2.2.2.2.2.1 w4 w3 hf hl) (g := mkF m pc Ls (argsL.reverse ++ rest)) rfl (hz.trans O.2.2.1.symm) (argsL := argsL) (rest := rest) (lenOf hpd hlen) rfl (by show 2 * 0 + _ ≤ _; omega) (hb O.2.1 hd) (fun _ _ => ⟨rfl, eT, hc, hs⟩)
  dsimp only [Pt.U, Pt.locs, Pt.cells, Pt.slots] at X2 l2 y2 z2 st2 hQ
  subst l2 y2 z2
  obtain ⟨s₂, o, h1, r⟩ := q v T2.heap hQ.1.1 p e s0 s m args below meth c T2 _ (hR.mono hQ.1.2) O X2 rfl (Fr.app F hQ.2)
  exact ⟨s₂, o, st2 _ h1, r⟩
theorem Go.callN {a : Addr} (hy1 : y2.name = "<init>") (w1 : (Cond.methodLink y.cls i y2).before a0 Z = true) (w2 : (Cond.instanceMethod y2).before a0 Z = true) (w3 : (Cond.initialized y2.cls).before a0 Z = true) (w4 : (Cond.code y2 bytes2 maxL2 none).before a0 Z = true) (hy : y2.cls ≠ "java/lang/invoke/MethodHandle" ∧ y2.cls ≠ "java/lang/invoke/VarHandle")
    (hM : Mt false l Z y2 bytes2 maxL2 none rm n0 Q2 h (.ref a :: argsL).toArray) (hd : decode bytes pc = .ok (.invokespecial i, 3)) (hz : Ls.size = maxL) (hpd : parseMethodDescriptor y2.desc = some ⟨ps, r2⟩) (hlen : argsL.length = ps.length) (hst : st = argsL.reverse ++ .ref a :: rest)
    (hW : (rest.map fun v => v.category).sum ≤ W) (hf : rm.frames + 1 ≤ R.frames) (hl : W + (maxL2 + 11) + rm.locals ≤ R.locals) (hc : cells + rm.cells ≤ R.cells) (hs : slots + rm.slots ≤ R.slots) (hp : pc + 3 = pc')
    (q : ∀ v h', Q2 v h' → Go wd l R Z y bytes maxL ret n0 K N Q h' (cells + rm.cells) (slots + rm.slots) pc' Ls (v.toList ++ rest)) : Go wd l R Z y bytes maxL ret n0 K N Q h cells slots pc Ls st := by
  subst hp hst
  intro p e s0 s m args below meth c T locs hR O X eT F
  obtain ⟨v, vm₁, ⟨T2, L2, k2, n2⟩, -, X2, ⟨Lc, hQ, l2, y2, z2⟩, st2⟩ := X.specialBack O.1 (y := y2) hy1 O.2.2.2.1 (mvT O.2.2.2.2.2.1 w1) (mvT O.2.2.2.2.2.1 w2) (mvT O.2.2.2.2.2.1 w4) hy
    (backOf (W := W) (Q := fun v h' L => (Q2 v h' ∧ h.size ≤ h'.size) ∧ Fr n0 L) hM O.2.2.2.2.2.1 w4 w3 hf hl) (g := mkF m pc Ls (argsL.reverse ++ .ref a :: rest)) rfl (hz.trans O.2.2.1.symm) (Steps.refl _) (a := a) (argsL := argsL) (rest := rest) (lenOf hpd hlen) rfl (by show 2 * 0 + _ ≤ _; omega) (hb O.2.1 hd) (fun _ _ => ⟨rfl, eT, hc, hs⟩)
  dsimp only [Pt.U, Pt.locs, Pt.cells, Pt.slots] at X2 l2 y2 z2 st2 hQ
  subst l2 y2 z2
  obtain ⟨s₂, o, h1, r⟩ := q v T2.heap hQ.1.1 p e s0 s m args below meth c T2 _ (hR.mono hQ.1.2) O X2 rfl (Fr.app F hQ.2)
  exact ⟨s₂, o, st2.trans h1, r⟩
theorem Go.callV {a : Addr} {C : String} (w1 : (Cond.methodLink y.cls i y2).before a0 Z = true) (w2 : (Cond.declares y2).before a0 Z = true) (w5 : (Cond.selects C y2 y2).before a0 Z = true) (w6 : (Cond.instanceMethod y2).before a0 Z = true) (w3 : (Cond.initialized y2.cls).before a0 Z = true) (w4 : (Cond.code y2 bytes2 maxL2 ret2).before a0 Z = true)
    (hy : y2.cls ≠ "java/lang/invoke/MethodHandle" ∧ y2.cls ≠ "java/lang/invoke/VarHandle") (hE : Exa Z h a C)
    (hM : Mt false l Z y2 bytes2 maxL2 ret2 rm n0 Q2 h (.ref a :: argsL).toArray) (hd : decode bytes pc = .ok (.invokevirtual i, 3)) (hz : Ls.size = maxL) (hpd : parseMethodDescriptor y2.desc = some ⟨ps, r2⟩) (hlen : argsL.length = ps.length) (hst : st = argsL.reverse ++ .ref a :: rest)
    (hW : (rest.map fun v => v.category).sum ≤ W) (hf : rm.frames + 1 ≤ R.frames) (hl : W + (maxL2 + 11) + rm.locals ≤ R.locals) (hc : cells + rm.cells ≤ R.cells) (hs : slots + rm.slots ≤ R.slots) (hp : pc + 3 = pc')
    (q : ∀ v h', Q2 v h' → Go wd l R Z y bytes maxL ret n0 K N Q h' (cells + rm.cells) (slots + rm.slots) pc' Ls (v.toList ++ rest)) : Go wd l R Z y bytes maxL ret n0 K N Q h cells slots pc Ls st := by
  subst hp hst
  intro p e s0 s m args below meth c T locs hR O X eT F
  obtain ⟨cq, kq, qa, qb, qc⟩ := isOf (T := T) O.2.2.2.2.2.1 eT hE
  obtain ⟨v, vm₁, ⟨T2, L2, k2, n2⟩, -, X2, ⟨Lc, hQ, l2, y2, z2⟩, st2⟩ := X.virtualBack O.1 (y := y2) (z := y2) O.2.2.2.1 (mvT O.2.2.2.2.2.1 w1) (mvT O.2.2.2.2.2.1 w2) (notFace_of_selects (args := #[]) (mvT O.2.2.2.2.2.1 w5)) (mvT O.2.2.2.2.2.1 w5) (mvT O.2.2.2.2.2.1 w6) hy
    (backOf (W := W) (Q := fun v h' L => (Q2 v h' ∧ h.size ≤ h'.size) ∧ Fr n0 L) hM O.2.2.2.2.2.1 w4 w3 hf hl) qa qc (g := mkF m pc Ls (argsL.reverse ++ .ref a :: rest)) rfl (hz.trans O.2.2.1.symm) (Steps.refl _) (argsL := argsL) (rest := rest) (lenOf hpd hlen) rfl (by show 2 * 0 + _ ≤ _; omega) (hb O.2.1 hd) (fun _ _ => ⟨rfl, eT, hc, hs⟩)
  dsimp only [Pt.U, Pt.locs, Pt.cells, Pt.slots] at X2 l2 y2 z2 st2 hQ
  subst l2 y2 z2
  obtain ⟨s₂, o, h1, r⟩ := q v T2.heap hQ.1.1 p e s0 s m args below meth c T2 _ (hR.mono hQ.1.2) O X2 rfl (Fr.app F hQ.2)
  exact ⟨s₂, o, st2.trans h1, r⟩
end GoLaws
end Jvm.RoadKit
namespace Jvm.RoadKit
open Sem ClassFile Op Lib Jvm.Stand Jvm.Free Jvm.LawKit
section GoArr
variable {wd : Bool} {l : Launch} {R : Room} {Z : State} {y : MethodName} {bytes : ByteArray} {maxL : Nat} {ret : Option FieldType} {n0 K N : Nat} {Q : Option Value → Heap → Prop} {h : Heap} {cells slots pc pc' : Nat} {Ls Ls' : Array Slot} {st st' : List Value} {a0 : Array Value}
theorem Go.newAE {aty : ArrayType} {n : Int32} {k : Nat} {ty : FieldType} {ad : String} (w : (Cond.arrayClass ty).before a0 Z = true) (hty : newarray.typeOf aty = ty) (had : "[" ++ ty.toString = ad) (hn : n.toInt = (k : Int)) {cap : Nat} (hcap : k ≤ cap) (hb8 : cap * 8 ≤ 536870912) (hd : decode bytes pc = .ok (.newarray aty, 2)) (hc : cells + 1 ≤ R.cells) (hs : slots + cap ≤ R.slots) (hp : pc + 2 = pc')
    (q : ∀ (h' : Heap) (a : Addr), a = h.size → Ext h h' → Ary Z h' a ty (List.replicate k (defaultValue ty)) → Exa Z h' a ad → Go wd l R Z y bytes maxL ret n0 K N Q h' (cells + 1) (slots + cap) pc' Ls (.ref a :: st)) : Go wd l R Z y bytes maxL ret n0 K N Q h cells slots pc Ls (.int n :: st) := by
  subst hp hty
  intro p e s0 s m args below meth c T locs hR O X eT F
  have z : (0 : Int32).toInt = 0 := rfl
  have hn0 : ¬ n < 0 := by rw [Int32.lt_iff_toInt_lt, z]; omega
  obtain ⟨T2, h2, cA, X2, e2, E2, A2, B2, st2⟩ := RoadKit.newPE X O.1 O.2.2.2.2.2.1 w eT (g := mkF m pc Ls (.int n :: st)) rfl (hb O.2.1 hd) rfl hn0 (cap := cap) (by rw [clamp_of hn]; exact hcap) hb8 hc hs had
  obtain ⟨s₂, o, h1, r⟩ := q h2 _ rfl E2 ⟨_, A2, by simp [RoadKit.newA, clamp_of hn]⟩ B2 p e s0 s m args below meth c T2 locs (hR.mono E2.1) O X2 e2 F
  exact ⟨s₂, o, st2 _ h1, r⟩
/-- the array at a is one of arrays of the class C -/
def Ova (Z : State) (h : Heap) (a : Addr) (ty : FieldType) (C : String) : Prop := ∃ cl : Cell, h[a]? = some cl ∧ OvrA Z cl.cls ty C
theorem Ova.sm {h h' : Heap} {a : Addr} {ty : FieldType} {C : String} (F : Ova Z h a ty C) (S : Sm h h' a) : Ova Z h' a ty C := by
  obtain ⟨c, A, r⟩ := F; exact ⟨c, S _ A, r⟩
theorem Ova.wr {h h' : Heap} {a b : Addr} {ty : FieldType} {C : String} {sl : Nat} {v : Value} (W : Wr h h' b sl v) (F : Ova Z h a ty C) : Ova Z h' a ty C := by
  obtain ⟨c, A, r⟩ := F
  obtain ⟨c', B, r2⟩ := (Keep.of_wr W).2.2 a c A
  exact ⟨c', B, by rw [r2.1]; exact r⟩
theorem Go.newRA {C ad : String} {i : Nat} {n : Int32} {k : Nat} {ty : FieldType} (hC : (FieldType.array ty).toString = C) (w1 : (Cond.classLink y.cls i C).before a0 Z = true) (w2 : (Cond.arrayOver (.array ty)).before a0 Z = true) (had : "[" ++ C = ad) (hn : n.toInt = (k : Int)) {cap : Nat} (hcap : k ≤ cap) (hb8 : cap * 8 ≤ 536870912) (hd : decode bytes pc = .ok (.anewarray i, 3)) (hc : cells + 1 ≤ R.cells) (hs : slots + cap ≤ R.slots) (hp : pc + 3 = pc')
    (q : ∀ (h' : Heap) (a : Addr), a = h.size → Ext h h' → Ary Z h' a (.array ty) (List.replicate k .null) → Ova Z h' a ty C → Go wd l R Z y bytes maxL ret n0 K N Q h' (cells + 1) (slots + cap) pc' Ls (.ref a :: st)) : Go wd l R Z y bytes maxL ret n0 K N Q h cells slots pc Ls (.int n :: st) := by
  subst hp
  intro p e s0 s m args below meth c T locs hR O X eT F
  have z : (0 : Int32).toInt = 0 := rfl
  have hn0 : ¬ n < 0 := by rw [Int32.lt_iff_toInt_lt, z]; omega
  obtain ⟨T2, h2, cA, X2, e2, E2, A2, B2, V2, st2⟩ := RoadKit.newRA X O.1 O.2.2.2.2.2.1 O.2.2.2.1 hC w1 w2 eT (g := mkF m pc Ls (.int n :: st)) rfl (hb O.2.1 hd) rfl hn0 (cap := cap) (by rw [clamp_of hn]; exact hcap) hb8 hc hs had
  obtain ⟨s₂, o, h1, r⟩ := q h2 _ rfl E2 ⟨_, A2, by simp [RoadKit.newA, clamp_of hn, defaultValue]⟩ ⟨_, A2.1, V2⟩ p e s0 s m args below meth c T2 locs (hR.mono E2.1) O X2 e2 F
  exact ⟨s₂, o, st2 _ h1, r⟩
theorem Go.stR {a : Addr} {vs : List Value} {j : Int32} {v : Value} {k : Nat} {ty : FieldType} (hA : Ary Z h a ty vs) (hty : ty.isReference = true) (hS : Sto Z h a v) (hj : j.toInt = (k : Int)) (hk : k < vs.length) (hd : decode bytes pc = .ok (.aastore, 1)) (ha : n0 ≤ a) (hp : pc + 1 = pc')
    (q : ∀ h', Wr h h' a k v → Ary Z h' a ty (vs.set k v) → Go wd l R Z y bytes maxL ret n0 K N Q h' cells slots pc' Ls st) : Go wd l R Z y bytes maxL ret n0 K N Q h cells slots pc Ls (v :: .int j :: .ref a :: st) := by
  subst hp
  have hA' := hA
  obtain ⟨cl, A, r⟩ := hA
  intro p e s0 s m args below meth c T locs hR O X eT F
  obtain ⟨T2, h2, X2, e2, W2, st2⟩ := RoadKit.stR X O.1 O.2.2.2.2.2.1 eT A (j := j) (v := v) (inb hj r hk) hty hS (g := mkF m pc Ls (v :: .int j :: .ref a :: st)) rfl rfl (hb O.2.1 hd)
  rw [clamp_of hj] at X2 W2
  obtain ⟨s₂, o, h1, r⟩ := q h2 W2 (hA'.set W2) p e s0 s m args below meth c T2 _ (hR.mono (Nat.le_of_eq W2.size.symm)) O X2 e2 (Fr.snoc X2 F ha)
  exact ⟨s₂, o, st2 _ h1, r⟩
theorem Sto.ova {a b : Addr} {ty ty0 : FieldType} {C : String} {vs : List Value} (A : Ary Z h a ty0 vs) (V : Ova Z h a ty C) (I : Exa Z h b C) : Sto Z h a (.ref b) := by
  obtain ⟨c, A, -⟩ := A
  obtain ⟨c', B, r⟩ := V
  cases A.1.symm.trans B
  exact Sto.ofVA A rfl r (Ins.self I)
end GoArr
end Jvm.RoadKit
namespace Jvm.Pilot.@@N@@
open Jvm Jvm.ClassFile Sem Op Lib Jvm.Free Jvm.Stand Jvm.LawKit Jvm.RoadKit Bundle Jvm.Pilot.@@N@@.Jvm.D
theorem d1_0 : decode prog_36_method_1_code 0 = .ok (.aload_n 0, 1) := by decide +kernel
theorem d1_1 : decode prog_36_method_1_code 1 = .ok (.iload_n 1, 1) := by decide +kernel
theorem d1_2 : decode prog_36_method_1_code 2 = .ok (.aload_n 2, 1) := by decide +kernel
theorem d1_3 : decode prog_36_method_1_code 3 = .ok (.aconst_null, 1) := by decide +kernel
theorem d1_4 : decode prog_36_method_1_code 4 = .ok (.iconst 0, 1) := by decide +kernel
theorem d1_5 : decode prog_36_method_1_code 5 = .ok (.aconst_null, 1) := by decide +kernel
theorem d1_6 : decode prog_36_method_1_code 6 = .ok (.invokespecial 1, 3) := by decide +kernel
theorem d1_9 : decode prog_36_method_1_code 9 = .ok (.return_, 1) := by decide +kernel
theorem d2_0 : decode prog_36_method_3_code 0 = .ok (.aload_n 0, 1) := by decide +kernel
theorem d2_1 : decode prog_36_method_3_code 1 = .ok (.invokespecial 7, 3) := by decide +kernel
theorem d2_4 : decode prog_36_method_3_code 4 = .ok (.aload_n 0, 1) := by decide +kernel
theorem d2_5 : decode prog_36_method_3_code 5 = .ok (.iload_n 1, 1) := by decide +kernel
theorem d2_6 : decode prog_36_method_3_code 6 = .ok (.putfield 12, 3) := by decide +kernel
theorem d2_9 : decode prog_36_method_3_code 9 = .ok (.aload_n 0, 1) := by decide +kernel
theorem d2_10 : decode prog_36_method_3_code 10 = .ok (.aload_n 2, 1) := by decide +kernel
theorem d2_11 : decode prog_36_method_3_code 11 = .ok (.putfield 16, 3) := by decide +kernel
theorem d2_14 : decode prog_36_method_3_code 14 = .ok (.aload_n 0, 1) := by decide +kernel
theorem d2_15 : decode prog_36_method_3_code 15 = .ok (.aload_n 3, 1) := by decide +kernel
theorem d2_16 : decode prog_36_method_3_code 16 = .ok (.putfield 20, 3) := by decide +kernel
theorem d2_19 : decode prog_36_method_3_code 19 = .ok (.aload_n 0, 1) := by decide +kernel
theorem d2_20 : decode prog_36_method_3_code 20 = .ok (.iload 4, 2) := by decide +kernel
theorem d2_22 : decode prog_36_method_3_code 22 = .ok (.putfield 23, 3) := by decide +kernel
theorem d2_25 : decode prog_36_method_3_code 25 = .ok (.aload_n 0, 1) := by decide +kernel
theorem d2_26 : decode prog_36_method_3_code 26 = .ok (.aload 5, 2) := by decide +kernel
theorem d2_28 : decode prog_36_method_3_code 28 = .ok (.putfield 27, 3) := by decide +kernel
theorem d2_31 : decode prog_36_method_3_code 31 = .ok (.return_, 1) := by decide +kernel
theorem d4_0 : decode prog_36_method_2_code 0 = .ok (.aload_n 0, 1) := by decide +kernel
theorem d4_1 : decode prog_36_method_2_code 1 = .ok (.iload_n 1, 1) := by decide +kernel
theorem d4_2 : decode prog_36_method_2_code 2 = .ok (.aload_n 2, 1) := by decide +kernel
theorem d4_3 : decode prog_36_method_2_code 3 = .ok (.aload_n 3, 1) := by decide +kernel
theorem d4_4 : decode prog_36_method_2_code 4 = .ok (.iload 4, 2) := by decide +kernel
theorem d4_6 : decode prog_36_method_2_code 6 = .ok (.aconst_null, 1) := by decide +kernel
theorem d4_7 : decode prog_36_method_2_code 7 = .ok (.invokespecial 1, 3) := by decide +kernel
theorem d4_10 : decode prog_36_method_2_code 10 = .ok (.return_, 1) := by decide +kernel
theorem d5_0 : decode prog_36_method_9_code 0 = .ok (.aload_n 0, 1) := by decide +kernel
theorem d5_1 : decode prog_36_method_9_code 1 = .ok (.getfield 27, 3) := by decide +kernel
theorem d5_4 : decode prog_36_method_9_code 4 = .ok (.ifnonnull 7, 3) := by decide +kernel
theorem d5_7 : decode prog_36_method_9_code 7 = .ok (.aconst_null, 1) := by decide +kernel
theorem d5_8 : decode prog_36_method_9_code 8 = .ok (.goto 9, 3) := by decide +kernel
theorem d5_11 : decode prog_36_method_9_code 11 = .ok (.aload_n 0, 1) := by decide +kernel
theorem d5_12 : decode prog_36_method_9_code 12 = .ok (.getfield 27, 3) := by decide +kernel
theorem d5_15 : decode prog_36_method_9_code 15 = .ok (.iload_n 1, 1) := by decide +kernel
theorem d5_16 : decode prog_36_method_9_code 16 = .ok (.aaload, 1) := by decide +kernel
theorem d5_17 : decode prog_36_method_9_code 17 = .ok (.areturn, 1) := by decide +kernel
theorem pd0 : parseMethodDescriptor "(I[I[IZ[[I)V" = some ⟨[.int, (.array .int), (.array .int), .boolean, (.array (.array .int))], none⟩ := by decide +kernel
theorem pd1 : parseMethodDescriptor "(I[I)V" = some ⟨[.int, (.array .int)], none⟩ := by decide +kernel
theorem pd2 : parseMethodDescriptor "(I[I[IZ)V" = some ⟨[.int, (.array .int), (.array .int), .boolean], none⟩ := by decide +kernel
theorem pd3 : parseMethodDescriptor "(I)[I" = some ⟨[.int], (some (.array .int))⟩ := by decide +kernel
theorem pn0 : plainName "com/example/doppelgrep/doppelgrep/engine/Group" = true := by first | (simp [plainName, overriddenIn]; done) | decide +kernel
theorem pn1 : plainName "com/example/doppelgrep/doppelgrep/engine/GroupRunsPinLaw" = true := by first | (simp [plainName, overriddenIn]; done) | decide +kernel

theorem own_b01 {s : Int32} (h : s.toInt = 0 ∨ s.toInt = 1) : s = 0 ∨ s = 1 := h.imp (fun q => Int32.toInt_inj.mp q) (fun q => Int32.toInt_inj.mp q)
theorem own_nb {s : Int32} (h : s.toInt = 0 ∨ s.toInt = 1) : narrow .boolean (.int s) = .int s := by rcases own_b01 h with rfl | rfl <;> rfl
theorem own_fb {s : Int32} (h : s.toInt = 0 ∨ s.toInt = 1) : fits .boolean (.int s) = true := by rcases own_b01 h with rfl | rfl <;> rfl
theorem own_cat {v : Value} (h : v.isRef = true) : v.category = 1 := by cases v <;> simp_all [Value.isRef, Value.category]
theorem own_nr {v : Value} {t : FieldType} (h : v.isRef = true) : narrow (.array t) v = v := by cases v <;> simp_all [Value.isRef, narrow]
theorem own_fr {v : Value} {t : FieldType} (h : v.isRef = true) : fits (.array t) v = true := by cases v <;> simp_all [Value.isRef, fits]

set_option maxRecDepth 65536 in
set_option maxHeartbeats 40000000 in
theorem m_full (l : Launch) (Z : State) (a0 : Array Value) (hw : ∀ d ∈ tables_1, d.before a0 Z = true) (a : Addr) (t : Int32) (st en : Value) (gp : Int32) (ru : Value) (h0 : Heap) (n0 : Nat) (z0 : n0 ≤ h0.size) (hE : Exa Z h0 a "com/example/doppelgrep/doppelgrep/engine/Group") (htokens : Fld Z h0 a "com/example/doppelgrep/doppelgrep/engine/Group" "tokens" "I" (.int (0 : Int32))) (hstarts : Fld Z h0 a "com/example/doppelgrep/doppelgrep/engine/Group" "starts" "[I" .null) (hends : Fld Z h0 a "com/example/doppelgrep/doppelgrep/engine/Group" "ends" "[I" .null) (hgapped : Fld Z h0 a "com/example/doppelgrep/doppelgrep/engine/Group" "gapped" "Z" (.int (0 : Int32))) (hruns : Fld Z h0 a "com/example/doppelgrep/doppelgrep/engine/Group" "runs" "[[I" .null) (hg : n0 ≤ a) (h1 : st.isRef = true) (h2 : en.isRef = true) (hs : gp.toInt = 0 ∨ gp.toInt = 1) (h4 : ru.isRef = true) : Mt false l Z (⟨"com/example/doppelgrep/doppelgrep/engine/Group", "<init>", "(I[I[IZ[[I)V"⟩ : MethodName) prog_36_method_3_code 6 none ({ frames := 1, cells := 0, slots := 0, locals := 12 } : Room) n0 (fun v h => v = none ∧ Keep h0 h [a] ∧ Exa Z h a "com/example/doppelgrep/doppelgrep/engine/Group" ∧ Fld Z h a "com/example/doppelgrep/doppelgrep/engine/Group" "tokens" "I" (.int t) ∧ Fld Z h a "com/example/doppelgrep/doppelgrep/engine/Group" "starts" "[I" st ∧ Fld Z h a "com/example/doppelgrep/doppelgrep/engine/Group" "ends" "[I" en ∧ Fld Z h a "com/example/doppelgrep/doppelgrep/engine/Group" "gapped" "Z" (.int gp) ∧ Fld Z h a "com/example/doppelgrep/doppelgrep/engine/Group" "runs" "[[I" ru) h0 #[(.ref a), (.int t), st, en, (.int gp), ru] := by
  refine Mt.go (Ls := #[.val (.ref a), .val (.int t), .val st, .val en, .val (.int gp), .val ru]) (plainFor_of_name pn0) (fun m => by rcases ref_cases h1 with rfl | ⟨_, rfl⟩ <;> rcases ref_cases h2 with rfl | ⟨_, rfl⟩ <;> rcases ref_cases h4 with rfl | ⟨_, rfl⟩ <;> rfl) ?_
  show (Go false l ({ frames := 1, cells := 0, slots := 0, locals := 12 } : Room) Z (⟨"com/example/doppelgrep/doppelgrep/engine/Group", "<init>", "(I[I[IZ[[I)V"⟩ : MethodName) prog_36_method_3_code 6 none n0 0 0 (fun v h => v = none ∧ Keep h0 h [a] ∧ Exa Z h a "com/example/doppelgrep/doppelgrep/engine/Group" ∧ Fld Z h a "com/example/doppelgrep/doppelgrep/engine/Group" "tokens" "I" (.int t) ∧ Fld Z h a "com/example/doppelgrep/doppelgrep/engine/Group" "starts" "[I" st ∧ Fld Z h a "com/example/doppelgrep/doppelgrep/engine/Group" "ends" "[I" en ∧ Fld Z h a "com/example/doppelgrep/doppelgrep/engine/Group" "gapped" "Z" (.int gp) ∧ Fld Z h a "com/example/doppelgrep/doppelgrep/engine/Group" "runs" "[[I" ru)) h0 0 0 0 #[.val (.ref a), .val (.int t), .val st, .val en, .val (.int gp), .val ru] []
  refine Go.aloadN (pc' := 1) d2_0 rfl rfl rfl ?_
  refine Go.initO (pc' := 4) (W := 0) (hw _ (List.mem_of_getElem? (i := 14) rfl)) (hw _ (List.mem_of_getElem? (i := 15) rfl)) (hw _ (List.mem_of_getElem? (i := 16) rfl)) d2_1 rfl (by decide) (Nat.le_of_eq rfl) (by decide) rfl ?_
  refine Go.aloadN (pc' := 5) d2_4 rfl rfl rfl ?_
  refine Go.iloadN (pc' := 6) d2_5 rfl rfl ?_
  refine Go.putF (pc' := 9) (ty := .int) (hw _ (List.mem_of_getElem? (i := 17) rfl)) htokens hE (Or.inr ⟨(hw _ (List.mem_of_getElem? (i := 18) rfl)), rfl, rfl⟩) (hw _ (List.mem_of_getElem? (i := 6) rfl)) (by decide) rfl rfl d2_6 hg rfl ?_
  intro h_1 W_2
  have f_3 : Exa Z h_1 a "com/example/doppelgrep/doppelgrep/engine/Group" := Exa.wr W_2 hE
  have t_4 : a < h_1.size := Nat.lt_of_lt_of_le hE.lt (Nat.le_of_eq W_2.size.symm)
  have z_5 : n0 ≤ h_1.size := Nat.le_trans z0 (Nat.le_of_eq W_2.size.symm)
  have b_6 : h0.size ≤ h_1.size := Nat.le_trans (Nat.le_refl _) (Nat.le_of_eq W_2.size.symm)
  have K_7 : Keep h0 h_1 [a] := (Keep.refl _ _).wr W_2 (Or.inl (List.mem_of_getElem? (i := 0) rfl))
  have f_8 : Fld Z h_1 a "com/example/doppelgrep/doppelgrep/engine/Group" "tokens" "I" (.int t) := Fld.same W_2 htokens
  have f_9 : Fld Z h_1 a "com/example/doppelgrep/doppelgrep/engine/Group" "starts" "[I" .null := Fld.other W_2 hstarts (Or.inr (slot_ne (Or.inr (hw _ (List.mem_of_getElem? (i := 20) rfl))) (Or.inr (hw _ (List.mem_of_getElem? (i := 18) rfl))) (by decide) (t := (.array .int)) (t' := .int) (by decide) (by decide)))
  have f_10 : Fld Z h_1 a "com/example/doppelgrep/doppelgrep/engine/Group" "ends" "[I" .null := Fld.other W_2 hends (Or.inr (slot_ne (Or.inr (hw _ (List.mem_of_getElem? (i := 22) rfl))) (Or.inr (hw _ (List.mem_of_getElem? (i := 18) rfl))) (by decide) (t := (.array .int)) (t' := .int) (by decide) (by decide)))
  have f_11 : Fld Z h_1 a "com/example/doppelgrep/doppelgrep/engine/Group" "gapped" "Z" (.int (0 : Int32)) := Fld.other W_2 hgapped (Or.inr (slot_ne (Or.inr (hw _ (List.mem_of_getElem? (i := 24) rfl))) (Or.inr (hw _ (List.mem_of_getElem? (i := 18) rfl))) (by decide) (t := .boolean) (t' := .int) (by decide) (by decide)))
  have f_12 : Fld Z h_1 a "com/example/doppelgrep/doppelgrep/engine/Group" "runs" "[[I" .null := Fld.other W_2 hruns (Or.inr (slot_ne (Or.inr (hw _ (List.mem_of_getElem? (i := 26) rfl))) (Or.inr (hw _ (List.mem_of_getElem? (i := 18) rfl))) (by decide) (t := (.array (.array .int))) (t' := .int) (by decide) (by decide)))
  refine Go.aloadN (pc' := 10) d2_9 rfl rfl rfl ?_
  refine Go.aloadN (pc' := 11) d2_10 rfl h1 rfl ?_
  refine Go.putF (pc' := 14) (ty := (.array .int)) (hw _ (List.mem_of_getElem? (i := 19) rfl)) f_9 f_3 (Or.inr ⟨(hw _ (List.mem_of_getElem? (i := 20) rfl)), rfl, rfl⟩) (hw _ (List.mem_of_getElem? (i := 6) rfl)) (by decide) (own_nr h1) (own_fr h1) d2_11 hg rfl ?_
  intro h_13 W_14
  have f_15 : Exa Z h_13 a "com/example/doppelgrep/doppelgrep/engine/Group" := Exa.wr W_14 f_3
  have t_16 : a < h_13.size := Nat.lt_of_lt_of_le t_4 (Nat.le_of_eq W_14.size.symm)
  have z_17 : n0 ≤ h_13.size := Nat.le_trans z_5 (Nat.le_of_eq W_14.size.symm)
  have b_18 : h0.size ≤ h_13.size := Nat.le_trans b_6 (Nat.le_of_eq W_14.size.symm)
  have K_19 : Keep h0 h_13 [a] := K_7.wr W_14 (Or.inl (List.mem_of_getElem? (i := 0) rfl))
  have f_20 : Fld Z h_13 a "com/example/doppelgrep/doppelgrep/engine/Group" "tokens" "I" (.int t) := Fld.other W_14 f_8 (Or.inr (slot_ne (Or.inr (hw _ (List.mem_of_getElem? (i := 18) rfl))) (Or.inr (hw _ (List.mem_of_getElem? (i := 20) rfl))) (by decide) (t := .int) (t' := (.array .int)) (by decide) (by decide)))
  have f_21 : Fld Z h_13 a "com/example/doppelgrep/doppelgrep/engine/Group" "starts" "[I" st := Fld.same W_14 f_9
  have f_22 : Fld Z h_13 a "com/example/doppelgrep/doppelgrep/engine/Group" "ends" "[I" .null := Fld.other W_14 f_10 (Or.inr (slot_ne (Or.inr (hw _ (List.mem_of_getElem? (i := 22) rfl))) (Or.inr (hw _ (List.mem_of_getElem? (i := 20) rfl))) (by decide) (t := (.array .int)) (t' := (.array .int)) (by decide) (by decide)))
  have f_23 : Fld Z h_13 a "com/example/doppelgrep/doppelgrep/engine/Group" "gapped" "Z" (.int (0 : Int32)) := Fld.other W_14 f_11 (Or.inr (slot_ne (Or.inr (hw _ (List.mem_of_getElem? (i := 24) rfl))) (Or.inr (hw _ (List.mem_of_getElem? (i := 20) rfl))) (by decide) (t := .boolean) (t' := (.array .int)) (by decide) (by decide)))
  have f_24 : Fld Z h_13 a "com/example/doppelgrep/doppelgrep/engine/Group" "runs" "[[I" .null := Fld.other W_14 f_12 (Or.inr (slot_ne (Or.inr (hw _ (List.mem_of_getElem? (i := 26) rfl))) (Or.inr (hw _ (List.mem_of_getElem? (i := 20) rfl))) (by decide) (t := (.array (.array .int))) (t' := (.array .int)) (by decide) (by decide)))
  refine Go.aloadN (pc' := 15) d2_14 rfl rfl rfl ?_
  refine Go.aloadN (pc' := 16) d2_15 rfl h2 rfl ?_
  refine Go.putF (pc' := 19) (ty := (.array .int)) (hw _ (List.mem_of_getElem? (i := 21) rfl)) f_22 f_15 (Or.inr ⟨(hw _ (List.mem_of_getElem? (i := 22) rfl)), rfl, rfl⟩) (hw _ (List.mem_of_getElem? (i := 6) rfl)) (by decide) (own_nr h2) (own_fr h2) d2_16 hg rfl ?_
  intro h_25 W_26
  have f_27 : Exa Z h_25 a "com/example/doppelgrep/doppelgrep/engine/Group" := Exa.wr W_26 f_15
  have t_28 : a < h_25.size := Nat.lt_of_lt_of_le t_16 (Nat.le_of_eq W_26.size.symm)
  have z_29 : n0 ≤ h_25.size := Nat.le_trans z_17 (Nat.le_of_eq W_26.size.symm)
  have b_30 : h0.size ≤ h_25.size := Nat.le_trans b_18 (Nat.le_of_eq W_26.size.symm)
  have K_31 : Keep h0 h_25 [a] := K_19.wr W_26 (Or.inl (List.mem_of_getElem? (i := 0) rfl))
  have f_32 : Fld Z h_25 a "com/example/doppelgrep/doppelgrep/engine/Group" "tokens" "I" (.int t) := Fld.other W_26 f_20 (Or.inr (slot_ne (Or.inr (hw _ (List.mem_of_getElem? (i := 18) rfl))) (Or.inr (hw _ (List.mem_of_getElem? (i := 22) rfl))) (by decide) (t := .int) (t' := (.array .int)) (by decide) (by decide)))
  have f_33 : Fld Z h_25 a "com/example/doppelgrep/doppelgrep/engine/Group" "starts" "[I" st := Fld.other W_26 f_21 (Or.inr (slot_ne (Or.inr (hw _ (List.mem_of_getElem? (i := 20) rfl))) (Or.inr (hw _ (List.mem_of_getElem? (i := 22) rfl))) (by decide) (t := (.array .int)) (t' := (.array .int)) (by decide) (by decide)))
  have f_34 : Fld Z h_25 a "com/example/doppelgrep/doppelgrep/engine/Group" "ends" "[I" en := Fld.same W_26 f_22
  have f_35 : Fld Z h_25 a "com/example/doppelgrep/doppelgrep/engine/Group" "gapped" "Z" (.int (0 : Int32)) := Fld.other W_26 f_23 (Or.inr (slot_ne (Or.inr (hw _ (List.mem_of_getElem? (i := 24) rfl))) (Or.inr (hw _ (List.mem_of_getElem? (i := 22) rfl))) (by decide) (t := .boolean) (t' := (.array .int)) (by decide) (by decide)))
  have f_36 : Fld Z h_25 a "com/example/doppelgrep/doppelgrep/engine/Group" "runs" "[[I" .null := Fld.other W_26 f_24 (Or.inr (slot_ne (Or.inr (hw _ (List.mem_of_getElem? (i := 26) rfl))) (Or.inr (hw _ (List.mem_of_getElem? (i := 22) rfl))) (by decide) (t := (.array (.array .int))) (t' := (.array .int)) (by decide) (by decide)))
  refine Go.aloadN (pc' := 20) d2_19 rfl rfl rfl ?_
  refine Go.iload (pc' := 22) d2_20 rfl rfl ?_
  refine Go.putF (pc' := 25) (ty := .boolean) (hw _ (List.mem_of_getElem? (i := 23) rfl)) f_35 f_27 (Or.inr ⟨(hw _ (List.mem_of_getElem? (i := 24) rfl)), rfl, rfl⟩) (hw _ (List.mem_of_getElem? (i := 6) rfl)) (by decide) (own_nb hs) (own_fb hs) d2_22 hg rfl ?_
  intro h_37 W_38
  have f_39 : Exa Z h_37 a "com/example/doppelgrep/doppelgrep/engine/Group" := Exa.wr W_38 f_27
  have t_40 : a < h_37.size := Nat.lt_of_lt_of_le t_28 (Nat.le_of_eq W_38.size.symm)
  have z_41 : n0 ≤ h_37.size := Nat.le_trans z_29 (Nat.le_of_eq W_38.size.symm)
  have b_42 : h0.size ≤ h_37.size := Nat.le_trans b_30 (Nat.le_of_eq W_38.size.symm)
  have K_43 : Keep h0 h_37 [a] := K_31.wr W_38 (Or.inl (List.mem_of_getElem? (i := 0) rfl))
  have f_44 : Fld Z h_37 a "com/example/doppelgrep/doppelgrep/engine/Group" "tokens" "I" (.int t) := Fld.other W_38 f_32 (Or.inr (slot_ne (Or.inr (hw _ (List.mem_of_getElem? (i := 18) rfl))) (Or.inr (hw _ (List.mem_of_getElem? (i := 24) rfl))) (by decide) (t := .int) (t' := .boolean) (by decide) (by decide)))
  have f_45 : Fld Z h_37 a "com/example/doppelgrep/doppelgrep/engine/Group" "starts" "[I" st := Fld.other W_38 f_33 (Or.inr (slot_ne (Or.inr (hw _ (List.mem_of_getElem? (i := 20) rfl))) (Or.inr (hw _ (List.mem_of_getElem? (i := 24) rfl))) (by decide) (t := (.array .int)) (t' := .boolean) (by decide) (by decide)))
  have f_46 : Fld Z h_37 a "com/example/doppelgrep/doppelgrep/engine/Group" "ends" "[I" en := Fld.other W_38 f_34 (Or.inr (slot_ne (Or.inr (hw _ (List.mem_of_getElem? (i := 22) rfl))) (Or.inr (hw _ (List.mem_of_getElem? (i := 24) rfl))) (by decide) (t := (.array .int)) (t' := .boolean) (by decide) (by decide)))
  have f_47 : Fld Z h_37 a "com/example/doppelgrep/doppelgrep/engine/Group" "gapped" "Z" (.int gp) := Fld.same W_38 f_35
  have f_48 : Fld Z h_37 a "com/example/doppelgrep/doppelgrep/engine/Group" "runs" "[[I" .null := Fld.other W_38 f_36 (Or.inr (slot_ne (Or.inr (hw _ (List.mem_of_getElem? (i := 26) rfl))) (Or.inr (hw _ (List.mem_of_getElem? (i := 24) rfl))) (by decide) (t := (.array (.array .int))) (t' := .boolean) (by decide) (by decide)))
  refine Go.aloadN (pc' := 26) d2_25 rfl rfl rfl ?_
  refine Go.aload (pc' := 28) d2_26 rfl h4 rfl ?_
  refine Go.putF (pc' := 31) (ty := (.array (.array .int))) (hw _ (List.mem_of_getElem? (i := 25) rfl)) f_48 f_39 (Or.inr ⟨(hw _ (List.mem_of_getElem? (i := 26) rfl)), rfl, rfl⟩) (hw _ (List.mem_of_getElem? (i := 6) rfl)) (by decide) (own_nr h4) (own_fr h4) d2_28 hg rfl ?_
  intro h_49 W_50
  have f_51 : Exa Z h_49 a "com/example/doppelgrep/doppelgrep/engine/Group" := Exa.wr W_50 f_39
  have t_52 : a < h_49.size := Nat.lt_of_lt_of_le t_40 (Nat.le_of_eq W_50.size.symm)
  have z_53 : n0 ≤ h_49.size := Nat.le_trans z_41 (Nat.le_of_eq W_50.size.symm)
  have b_54 : h0.size ≤ h_49.size := Nat.le_trans b_42 (Nat.le_of_eq W_50.size.symm)
  have K_55 : Keep h0 h_49 [a] := K_43.wr W_50 (Or.inl (List.mem_of_getElem? (i := 0) rfl))
  have f_56 : Fld Z h_49 a "com/example/doppelgrep/doppelgrep/engine/Group" "tokens" "I" (.int t) := Fld.other W_50 f_44 (Or.inr (slot_ne (Or.inr (hw _ (List.mem_of_getElem? (i := 18) rfl))) (Or.inr (hw _ (List.mem_of_getElem? (i := 26) rfl))) (by decide) (t := .int) (t' := (.array (.array .int))) (by decide) (by decide)))
  have f_57 : Fld Z h_49 a "com/example/doppelgrep/doppelgrep/engine/Group" "starts" "[I" st := Fld.other W_50 f_45 (Or.inr (slot_ne (Or.inr (hw _ (List.mem_of_getElem? (i := 20) rfl))) (Or.inr (hw _ (List.mem_of_getElem? (i := 26) rfl))) (by decide) (t := (.array .int)) (t' := (.array (.array .int))) (by decide) (by decide)))
  have f_58 : Fld Z h_49 a "com/example/doppelgrep/doppelgrep/engine/Group" "ends" "[I" en := Fld.other W_50 f_46 (Or.inr (slot_ne (Or.inr (hw _ (List.mem_of_getElem? (i := 22) rfl))) (Or.inr (hw _ (List.mem_of_getElem? (i := 26) rfl))) (by decide) (t := (.array .int)) (t' := (.array (.array .int))) (by decide) (by decide)))
  have f_59 : Fld Z h_49 a "com/example/doppelgrep/doppelgrep/engine/Group" "gapped" "Z" (.int gp) := Fld.other W_50 f_47 (Or.inr (slot_ne (Or.inr (hw _ (List.mem_of_getElem? (i := 24) rfl))) (Or.inr (hw _ (List.mem_of_getElem? (i := 26) rfl))) (by decide) (t := .boolean) (t' := (.array (.array .int))) (by decide) (by decide)))
  have f_60 : Fld Z h_49 a "com/example/doppelgrep/doppelgrep/engine/Group" "runs" "[[I" ru := Fld.same W_50 f_48
  exact Go.ret0 d2_31 rfl ⟨rfl, K_55, f_51, f_56, f_57, f_58, f_59, f_60⟩ (by decide) (by decide)
set_option maxRecDepth 65536 in
set_option maxHeartbeats 40000000 in
theorem m_two (l : Launch) (Z : State) (a0 : Array Value) (hw : ∀ d ∈ tables_1, d.before a0 Z = true) (a : Addr) (t : Int32) (st : Value) (h0 : Heap) (n0 : Nat) (z0 : n0 ≤ h0.size) (hE : Exa Z h0 a "com/example/doppelgrep/doppelgrep/engine/Group") (htokens : Fld Z h0 a "com/example/doppelgrep/doppelgrep/engine/Group" "tokens" "I" (.int (0 : Int32))) (hstarts : Fld Z h0 a "com/example/doppelgrep/doppelgrep/engine/Group" "starts" "[I" .null) (hends : Fld Z h0 a "com/example/doppelgrep/doppelgrep/engine/Group" "ends" "[I" .null) (hgapped : Fld Z h0 a "com/example/doppelgrep/doppelgrep/engine/Group" "gapped" "Z" (.int (0 : Int32))) (hruns : Fld Z h0 a "com/example/doppelgrep/doppelgrep/engine/Group" "runs" "[[I" .null) (hg : n0 ≤ a) (h1 : st.isRef = true) : Mt false l Z (⟨"com/example/doppelgrep/doppelgrep/engine/Group", "<init>", "(I[I)V"⟩ : MethodName) prog_36_method_1_code 3 none ({ frames := 2, cells := 0, slots := 0, locals := 29 } : Room) n0 (fun v h => v = none ∧ Keep h0 h [a] ∧ Exa Z h a "com/example/doppelgrep/doppelgrep/engine/Group" ∧ Fld Z h a "com/example/doppelgrep/doppelgrep/engine/Group" "tokens" "I" (.int t) ∧ Fld Z h a "com/example/doppelgrep/doppelgrep/engine/Group" "starts" "[I" st ∧ Fld Z h a "com/example/doppelgrep/doppelgrep/engine/Group" "ends" "[I" .null ∧ Fld Z h a "com/example/doppelgrep/doppelgrep/engine/Group" "gapped" "Z" (.int (0 : Int32)) ∧ Fld Z h a "com/example/doppelgrep/doppelgrep/engine/Group" "runs" "[[I" .null) h0 #[(.ref a), (.int t), st] := by
  refine Mt.go (Ls := #[.val (.ref a), .val (.int t), .val st]) (plainFor_of_name pn0) (fun m => by rcases ref_cases h1 with rfl | ⟨_, rfl⟩ <;> rfl) ?_
  show (Go false l ({ frames := 2, cells := 0, slots := 0, locals := 29 } : Room) Z (⟨"com/example/doppelgrep/doppelgrep/engine/Group", "<init>", "(I[I)V"⟩ : MethodName) prog_36_method_1_code 3 none n0 0 0 (fun v h => v = none ∧ Keep h0 h [a] ∧ Exa Z h a "com/example/doppelgrep/doppelgrep/engine/Group" ∧ Fld Z h a "com/example/doppelgrep/doppelgrep/engine/Group" "tokens" "I" (.int t) ∧ Fld Z h a "com/example/doppelgrep/doppelgrep/engine/Group" "starts" "[I" st ∧ Fld Z h a "com/example/doppelgrep/doppelgrep/engine/Group" "ends" "[I" .null ∧ Fld Z h a "com/example/doppelgrep/doppelgrep/engine/Group" "gapped" "Z" (.int (0 : Int32)) ∧ Fld Z h a "com/example/doppelgrep/doppelgrep/engine/Group" "runs" "[[I" .null)) h0 0 0 0 #[.val (.ref a), .val (.int t), .val st] []
  refine Go.aloadN (pc' := 1) d1_0 rfl rfl rfl ?_
  refine Go.iloadN (pc' := 2) d1_1 rfl rfl ?_
  refine Go.aloadN (pc' := 3) d1_2 rfl h1 rfl ?_
  refine Go.aconstNull (pc' := 4) d1_3 rfl ?_
  refine Go.iconst (pc' := 5) (v := (0 : Int32)) d1_4 rfl rfl ?_
  refine Go.aconstNull (pc' := 6) d1_5 rfl ?_
  refine Go.callN (pc' := 9) (argsL := [(.int t), st, .null, (.int (0 : Int32)), .null]) (rest := []) (W := 0) rfl (hw _ (List.mem_of_getElem? (i := 11) rfl)) (hw _ (List.mem_of_getElem? (i := 12) rfl)) (hw _ (List.mem_of_getElem? (i := 7) rfl)) (hw _ (List.mem_of_getElem? (i := 13) rfl)) (by decide) (m_full l Z a0 hw a t st .null (0 : Int32) .null h0 n0 z0 hE htokens hstarts hends hgapped hruns hg h1 rfl (by decide) rfl) d1_6 rfl pd0 rfl rfl (Nat.le_of_eq rfl) (by decide) (by decide) (by decide) (by decide) rfl ?_
  rintro _ h_61 ⟨rfl, K_62, E_63, F_64, F_65, F_66, F_67, F_68⟩
  have f_69 : Exa Z h_61 a "com/example/doppelgrep/doppelgrep/engine/Group" := hE.keep K_62
  have t_75 : a < h_61.size := Nat.lt_of_lt_of_le hE.lt K_62.1
  have z_76 : n0 ≤ h_61.size := Nat.le_trans z0 K_62.1
  have b_77 : h0.size ≤ h_61.size := Nat.le_trans (Nat.le_refl _) K_62.1
  have K_78 : Keep h0 h_61 [a] := (Keep.refl _ _).trans K_62 (allS (Or.inl (List.mem_of_getElem? (i := 0) rfl)) all0)
  show (Go false l ({ frames := 2, cells := 0, slots := 0, locals := 29 } : Room) Z (⟨"com/example/doppelgrep/doppelgrep/engine/Group", "<init>", "(I[I)V"⟩ : MethodName) prog_36_method_1_code 3 none n0 0 0 (fun v h => v = none ∧ Keep h0 h [a] ∧ Exa Z h a "com/example/doppelgrep/doppelgrep/engine/Group" ∧ Fld Z h a "com/example/doppelgrep/doppelgrep/engine/Group" "tokens" "I" (.int t) ∧ Fld Z h a "com/example/doppelgrep/doppelgrep/engine/Group" "starts" "[I" st ∧ Fld Z h a "com/example/doppelgrep/doppelgrep/engine/Group" "ends" "[I" .null ∧ Fld Z h a "com/example/doppelgrep/doppelgrep/engine/Group" "gapped" "Z" (.int (0 : Int32)) ∧ Fld Z h a "com/example/doppelgrep/doppelgrep/engine/Group" "runs" "[[I" .null)) h_61 (0 + 0) (0 + 0) 9 #[.val (.ref a), .val (.int t), .val st] []
  exact Go.ret0 d1_9 rfl ⟨rfl, K_78, f_69, F_64, F_65, F_66, F_67, F_68⟩ (by decide) (by decide)
set_option maxRecDepth 65536 in
set_option maxHeartbeats 40000000 in
theorem m_four (l : Launch) (Z : State) (a0 : Array Value) (hw : ∀ d ∈ tables_1, d.before a0 Z = true) (a : Addr) (t : Int32) (st en : Value) (gp : Int32) (h0 : Heap) (n0 : Nat) (z0 : n0 ≤ h0.size) (hE : Exa Z h0 a "com/example/doppelgrep/doppelgrep/engine/Group") (htokens : Fld Z h0 a "com/example/doppelgrep/doppelgrep/engine/Group" "tokens" "I" (.int (0 : Int32))) (hstarts : Fld Z h0 a "com/example/doppelgrep/doppelgrep/engine/Group" "starts" "[I" .null) (hends : Fld Z h0 a "com/example/doppelgrep/doppelgrep/engine/Group" "ends" "[I" .null) (hgapped : Fld Z h0 a "com/example/doppelgrep/doppelgrep/engine/Group" "gapped" "Z" (.int (0 : Int32))) (hruns : Fld Z h0 a "com/example/doppelgrep/doppelgrep/engine/Group" "runs" "[[I" .null) (hg : n0 ≤ a) (h1 : st.isRef = true) (h2 : en.isRef = true) (hs : gp.toInt = 0 ∨ gp.toInt = 1) : Mt false l Z (⟨"com/example/doppelgrep/doppelgrep/engine/Group", "<init>", "(I[I[IZ)V"⟩ : MethodName) prog_36_method_2_code 5 none ({ frames := 2, cells := 0, slots := 0, locals := 29 } : Room) n0 (fun v h => v = none ∧ Keep h0 h [a] ∧ Exa Z h a "com/example/doppelgrep/doppelgrep/engine/Group" ∧ Fld Z h a "com/example/doppelgrep/doppelgrep/engine/Group" "tokens" "I" (.int t) ∧ Fld Z h a "com/example/doppelgrep/doppelgrep/engine/Group" "starts" "[I" st ∧ Fld Z h a "com/example/doppelgrep/doppelgrep/engine/Group" "ends" "[I" en ∧ Fld Z h a "com/example/doppelgrep/doppelgrep/engine/Group" "gapped" "Z" (.int gp) ∧ Fld Z h a "com/example/doppelgrep/doppelgrep/engine/Group" "runs" "[[I" .null) h0 #[(.ref a), (.int t), st, en, (.int gp)] := by
  refine Mt.go (Ls := #[.val (.ref a), .val (.int t), .val st, .val en, .val (.int gp)]) (plainFor_of_name pn0) (fun m => by rcases ref_cases h1 with rfl | ⟨_, rfl⟩ <;> rcases ref_cases h2 with rfl | ⟨_, rfl⟩ <;> rfl) ?_
  show (Go false l ({ frames := 2, cells := 0, slots := 0, locals := 29 } : Room) Z (⟨"com/example/doppelgrep/doppelgrep/engine/Group", "<init>", "(I[I[IZ)V"⟩ : MethodName) prog_36_method_2_code 5 none n0 0 0 (fun v h => v = none ∧ Keep h0 h [a] ∧ Exa Z h a "com/example/doppelgrep/doppelgrep/engine/Group" ∧ Fld Z h a "com/example/doppelgrep/doppelgrep/engine/Group" "tokens" "I" (.int t) ∧ Fld Z h a "com/example/doppelgrep/doppelgrep/engine/Group" "starts" "[I" st ∧ Fld Z h a "com/example/doppelgrep/doppelgrep/engine/Group" "ends" "[I" en ∧ Fld Z h a "com/example/doppelgrep/doppelgrep/engine/Group" "gapped" "Z" (.int gp) ∧ Fld Z h a "com/example/doppelgrep/doppelgrep/engine/Group" "runs" "[[I" .null)) h0 0 0 0 #[.val (.ref a), .val (.int t), .val st, .val en, .val (.int gp)] []
  refine Go.aloadN (pc' := 1) d4_0 rfl rfl rfl ?_
  refine Go.iloadN (pc' := 2) d4_1 rfl rfl ?_
  refine Go.aloadN (pc' := 3) d4_2 rfl h1 rfl ?_
  refine Go.aloadN (pc' := 4) d4_3 rfl h2 rfl ?_
  refine Go.iload (pc' := 6) d4_4 rfl rfl ?_
  refine Go.aconstNull (pc' := 7) d4_6 rfl ?_
  refine Go.callN (pc' := 10) (argsL := [(.int t), st, en, (.int gp), .null]) (rest := []) (W := 0) rfl (hw _ (List.mem_of_getElem? (i := 11) rfl)) (hw _ (List.mem_of_getElem? (i := 12) rfl)) (hw _ (List.mem_of_getElem? (i := 7) rfl)) (hw _ (List.mem_of_getElem? (i := 13) rfl)) (by decide) (m_full l Z a0 hw a t st en gp .null h0 n0 z0 hE htokens hstarts hends hgapped hruns hg h1 h2 hs rfl) d4_7 rfl pd0 rfl rfl (Nat.le_of_eq rfl) (by decide) (by decide) (by decide) (by decide) rfl ?_
  rintro _ h_79 ⟨rfl, K_80, E_81, F_82, F_83, F_84, F_85, F_86⟩
  have f_87 : Exa Z h_79 a "com/example/doppelgrep/doppelgrep/engine/Group" := hE.keep K_80
  have t_93 : a < h_79.size := Nat.lt_of_lt_of_le hE.lt K_80.1
  have z_94 : n0 ≤ h_79.size := Nat.le_trans z0 K_80.1
  have b_95 : h0.size ≤ h_79.size := Nat.le_trans (Nat.le_refl _) K_80.1
  have K_96 : Keep h0 h_79 [a] := (Keep.refl _ _).trans K_80 (allS (Or.inl (List.mem_of_getElem? (i := 0) rfl)) all0)
  show (Go false l ({ frames := 2, cells := 0, slots := 0, locals := 29 } : Room) Z (⟨"com/example/doppelgrep/doppelgrep/engine/Group", "<init>", "(I[I[IZ)V"⟩ : MethodName) prog_36_method_2_code 5 none n0 0 0 (fun v h => v = none ∧ Keep h0 h [a] ∧ Exa Z h a "com/example/doppelgrep/doppelgrep/engine/Group" ∧ Fld Z h a "com/example/doppelgrep/doppelgrep/engine/Group" "tokens" "I" (.int t) ∧ Fld Z h a "com/example/doppelgrep/doppelgrep/engine/Group" "starts" "[I" st ∧ Fld Z h a "com/example/doppelgrep/doppelgrep/engine/Group" "ends" "[I" en ∧ Fld Z h a "com/example/doppelgrep/doppelgrep/engine/Group" "gapped" "Z" (.int gp) ∧ Fld Z h a "com/example/doppelgrep/doppelgrep/engine/Group" "runs" "[[I" .null)) h_79 (0 + 0) (0 + 0) 10 #[.val (.ref a), .val (.int t), .val st, .val en, .val (.int gp)] []
  exact Go.ret0 d4_10 rfl ⟨rfl, K_96, f_87, F_82, F_83, F_84, F_85, F_86⟩ (by decide) (by decide)
set_option maxRecDepth 65536 in
set_option maxHeartbeats 40000000 in
theorem m_rN (l : Launch) (Z : State) (a0 : Array Value) (hw : ∀ d ∈ tables_1, d.before a0 Z = true) (a : Addr) (i : Int32) (h0 : Heap) (n0 : Nat) (z0 : n0 ≤ h0.size) (hF : Fld Z h0 a "com/example/doppelgrep/doppelgrep/engine/Group" "runs" "[[I" .null) : Mt false l Z (⟨"com/example/doppelgrep/doppelgrep/engine/Group", "runs", "(I)[I"⟩ : MethodName) prog_36_method_9_code 2 (some (.array .int)) ({ frames := 0, cells := 0, slots := 0, locals := 0 } : Room) n0 (fun v h => v = some .null ∧ h0 = h) h0 #[(.ref a), (.int i)] := by
  refine Mt.go (Ls := #[.val (.ref a), .val (.int i)]) (plainFor_of_name pn0) (fun m => by first | (simp [entryFrame, mkF, argsToLocals, Value.category]; done) | rfl) ?_
  show (Go false l ({ frames := 0, cells := 0, slots := 0, locals := 0 } : Room) Z (⟨"com/example/doppelgrep/doppelgrep/engine/Group", "runs", "(I)[I"⟩ : MethodName) prog_36_method_9_code 2 (some (.array .int)) n0 0 0 (fun v h => v = some .null ∧ h0 = h)) h0 0 0 0 #[.val (.ref a), .val (.int i)] []
  refine Go.aloadN (pc' := 1) d5_0 rfl rfl rfl ?_
  refine Go.getF (pc' := 4) (hw _ (List.mem_of_getElem? (i := 25) rfl)) hF d5_1 rfl ?_
  refine Go.nonnullNo (pc' := 7) d5_4 rfl ?_
  refine Go.aconstNull (pc' := 8) d5_7 rfl ?_
  refine Go.goto (pc' := 17) d5_8 (by decide) (by decide) ?_
  exact Go.retA d5_17 rfl rfl rfl ⟨rfl, rfl⟩ (by decide) (by decide)
set_option maxRecDepth 65536 in
set_option maxHeartbeats 40000000 in
theorem m_rR (l : Launch) (Z : State) (a0 : Array Value) (hw : ∀ d ∈ tables_1, d.before a0 Z = true) (a b : Addr) (i : Int32) (u : Value) (k : Nat) (vs : List Value) (h0 : Heap) (n0 : Nat) (z0 : n0 ≤ h0.size) (hF : Fld Z h0 a "com/example/doppelgrep/doppelgrep/engine/Group" "runs" "[[I" (.ref b)) (hA : Ary Z h0 b (.array .int) vs) (hi : i.toInt = (k : Int)) (hx : vs[k]? = some u) (hu : u.isRef = true) : Mt false l Z (⟨"com/example/doppelgrep/doppelgrep/engine/Group", "runs", "(I)[I"⟩ : MethodName) prog_36_method_9_code 2 (some (.array .int)) ({ frames := 0, cells := 0, slots := 0, locals := 0 } : Room) n0 (fun v h => v = some u ∧ h0 = h) h0 #[(.ref a), (.int i)] := by
  refine Mt.go (Ls := #[.val (.ref a), .val (.int i)]) (plainFor_of_name pn0) (fun m => by first | (simp [entryFrame, mkF, argsToLocals, Value.category]; done) | rfl) ?_
  show (Go false l ({ frames := 0, cells := 0, slots := 0, locals := 0 } : Room) Z (⟨"com/example/doppelgrep/doppelgrep/engine/Group", "runs", "(I)[I"⟩ : MethodName) prog_36_method_9_code 2 (some (.array .int)) n0 0 0 (fun v h => v = some u ∧ h0 = h)) h0 0 0 0 #[.val (.ref a), .val (.int i)] []
  refine Go.aloadN (pc' := 1) d5_0 rfl rfl rfl ?_
  refine Go.getF (pc' := 4) (hw _ (List.mem_of_getElem? (i := 25) rfl)) hF d5_1 rfl ?_
  refine Go.nonnullYes (pc' := 11) d5_4 (by decide) (by decide) ?_
  refine Go.aloadN (pc' := 12) d5_11 rfl rfl rfl ?_
  refine Go.getF (pc' := 15) (hw _ (List.mem_of_getElem? (i := 25) rfl)) hF d5_12 rfl ?_
  refine Go.iloadN (pc' := 16) d5_15 rfl rfl ?_
  refine Go.ldA (pc' := 17) (k := k) (v := u) hA rfl hi hx d5_16 rfl ?_
  exact Go.retA d5_17 rfl rfl hu ⟨rfl, rfl⟩ (by decide) (by decide)
set_option maxRecDepth 65536 in
set_option maxHeartbeats 40000000 in
theorem rm1 (l : Launch) (Z : State) (a0 : Array Value) (hw : ∀ d ∈ tables_1, d.before a0 Z = true) (ws : List Jvm.Cond) (t0 p0 x0 x1 g0 : Int32) (h0 : Heap) (n0 : Nat) (z0 : n0 ≤ h0.size)  : MetFree l x (head1 (Jvm.Cond.code x code maxLocals ret :: ws) room_1) (fun a U => a = #[(.int t0), (.int p0), (.int x0), (.int x1), (.int g0)] ∧ Z.Warmed39 U.vm ∧ U.heap = h0) (fun _ _ _ _ _ => True) (fun _ U o U' => ∃ v L, o = .returned v ∧ (((fun v h => v = some (.int 1)) v U'.heap ∧ h0.size ≤ U'.heap.size) ∧ Fr n0 L) ∧ GoEnd false U o U' L 32 128) := by
  refine met_go (y := x) (Q := fun v h => v = some (.int 1)) (Ls := #[.val (.int t0), .val (.int p0), .val (.int x0), .val (.int x1), .val (.int g0), .unset, .unset, .unset, .unset, .unset, .unset, .unset, .unset, .unset, .unset, .unset, .unset, .unset]) (plainFor_of_name pn1) (fun m => by first | (simp [entryFrame, mkF, argsToLocals, Value.category, maxLocals]; done) | rfl) ?_
  show (Go false l room_1 Z x code maxLocals ret n0 32 128 (fun v h => v = some (.int 1))) h0 0 0 0 #[.val (.int t0), .val (.int p0), .val (.int x0), .val (.int x1), .val (.int g0), .unset, .unset, .unset, .unset, .unset, .unset, .unset, .unset, .unset, .unset, .unset, .unset, .unset] []
  refine Go.iloadN (pc' := 1) at_0 rfl rfl ?_
  refine Go.ldcI (pc' := 3) (hw _ (List.mem_of_getElem? (i := 0) rfl)) at_1 rfl ?_
  refine Go.iand (pc' := 4) at_3 rfl ?_
  refine Go.iconst (pc' := 5) (v := (3 : Int32)) at_4 rfl rfl ?_
  refine Go.irem (pc' := 6) at_5 (by decide) rfl ?_
  generalize ep_97 : (p0 &&& (2147483647 : Int32)) % (3 : Int32) = p_97
  have k_98 : p_97.toInt = 0 ∨ p_97.toInt = 1 ∨ p_97.toInt = 2 := by
    rw [← ep_97]
    have : (2147483647 : Int32).toInt = 2147483647 := by decide
    have := c_mask p0 (2147483647 : Int32) 31 (by decide) (by decide)
    have := rng32 (p0 &&& (2147483647 : Int32))
    have := rng32 p0
    have : (3 : Int32).toInt = 3 := by decide
    have := c_irem (p0 &&& (2147483647 : Int32)) (3 : Int32) 3 (by decide)
    have := rng32 ((p0 &&& (2147483647 : Int32)) % (3 : Int32))
    omega
  refine Go.istore (pc' := 8) (Ls' := #[.val (.int t0), .val (.int p0), .val (.int x0), .val (.int x1), .val (.int g0), .val (.int p_97), .unset, .unset, .unset, .unset, .unset, .unset, .unset, .unset, .unset, .unset, .unset, .unset]) at_6 rfl rfl ?_
  refine Go.iconst (pc' := 9) (v := (3 : Int32)) at_8 rfl rfl ?_
  refine Go.newAE (pc' := 11) (k := 3) (ty := .int) (cap := 3) (hw _ (List.mem_of_getElem? (i := 1) rfl)) rfl (ad := "[I") (by decide) rfl (by decide) (by decide) at_9 (by decide) (by decide) rfl ?_
  intro h_99 a_100 q_101 E_102 A_103 X_104
  have g_105 : n0 ≤ a_100 := q_101 ▸ z0
  have z_106 : n0 ≤ h_99.size := Nat.le_trans z0 E_102.1
  have t_107 : a_100 < h_99.size := A_103.lt
  change Ary Z h_99 a_100 .int [(.int (0 : Int32)), (.int (0 : Int32)), (.int (0 : Int32))] at A_103
  refine Go.dup (pc' := 12) at_11 rfl rfl ?_
  refine Go.iconst (pc' := 13) (v := (0 : Int32)) at_12 rfl rfl ?_
  refine Go.iloadN (pc' := 14) at_13 rfl rfl ?_
  refine Go.stI (pc' := 15) (k := 0) A_103 rfl (by show 0 < 3; decide) at_14 g_105 rfl ?_
  intro h_108 W_109 A_110
  have f_111 : Exa Z h_108 a_100 "[I" := Exa.wr W_109 X_104
  have t_112 : a_100 < h_108.size := Nat.lt_of_lt_of_le t_107 (Nat.le_of_eq W_109.size.symm)
  have z_113 : n0 ≤ h_108.size := Nat.le_trans z_106 (Nat.le_of_eq W_109.size.symm)
  change Ary Z h_108 a_100 .int [(.int x0), (.int (0 : Int32)), (.int (0 : Int32))] at A_110
  refine Go.dup (pc' := 16) at_15 rfl rfl ?_
  refine Go.iconst (pc' := 17) (v := (1 : Int32)) at_16 rfl rfl ?_
  refine Go.iloadN (pc' := 18) at_17 rfl rfl ?_
  refine Go.iconst (pc' := 19) (v := (1 : Int32)) at_18 rfl rfl ?_
  refine Go.iadd (pc' := 20) at_19 rfl ?_
  refine Go.stI (pc' := 21) (k := 1) A_110 rfl (by show 1 < 3; decide) at_20 g_105 rfl ?_
  intro h_114 W_115 A_116
  have f_117 : Exa Z h_114 a_100 "[I" := Exa.wr W_115 f_111
  have t_118 : a_100 < h_114.size := Nat.lt_of_lt_of_le t_112 (Nat.le_of_eq W_115.size.symm)
  have z_119 : n0 ≤ h_114.size := Nat.le_trans z_113 (Nat.le_of_eq W_115.size.symm)
  change Ary Z h_114 a_100 .int [(.int x0), (.int (x0 + (1 : Int32))), (.int (0 : Int32))] at A_116
  refine Go.dup (pc' := 22) at_21 rfl rfl ?_
  refine Go.iconst (pc' := 23) (v := (2 : Int32)) at_22 rfl rfl ?_
  refine Go.iloadN (pc' := 24) at_23 rfl rfl ?_
  refine Go.iconst (pc' := 25) (v := (2 : Int32)) at_24 rfl rfl ?_
  refine Go.iadd (pc' := 26) at_25 rfl ?_
  refine Go.stI (pc' := 27) (k := 2) A_116 rfl (by show 2 < 3; decide) at_26 g_105 rfl ?_
  intro h_120 W_121 A_122
  have f_123 : Exa Z h_120 a_100 "[I" := Exa.wr W_121 f_117
  have t_124 : a_100 < h_120.size := Nat.lt_of_lt_of_le t_118 (Nat.le_of_eq W_121.size.symm)
  have z_125 : n0 ≤ h_120.size := Nat.le_trans z_119 (Nat.le_of_eq W_121.size.symm)
  change Ary Z h_120 a_100 .int [(.int x0), (.int (x0 + (1 : Int32))), (.int (x0 + (2 : Int32)))] at A_122
  refine Go.astore (pc' := 29) (Ls' := #[.val (.int t0), .val (.int p0), .val (.int x0), .val (.int x1), .val (.int g0), .val (.int p_97), .val (.ref a_100), .unset, .unset, .unset, .unset, .unset, .unset, .unset, .unset, .unset, .unset, .unset]) at_27 rfl rfl rfl ?_
  refine Go.iconst (pc' := 30) (v := (3 : Int32)) at_29 rfl rfl ?_
  refine Go.newAE (pc' := 32) (k := 3) (ty := .int) (cap := 3) (hw _ (List.mem_of_getElem? (i := 1) rfl)) rfl (ad := "[I") (by decide) rfl (by decide) (by decide) at_30 (by decide) (by decide) rfl ?_
  intro h_126 a_127 q_128 E_129 A_130 X_131
  have n_132 : a_100 ≠ a_127 := Nat.ne_of_lt (q_128 ▸ t_124)
  have g_133 : n0 ≤ a_127 := q_128 ▸ z_125
  have f_134 : Exa Z h_126 a_100 "[I" := f_123.sm (Sm.ext E_129)
  have f_135 : Ary Z h_126 a_100 .int [(.int x0), (.int (x0 + (1 : Int32))), (.int (x0 + (2 : Int32)))] := A_122.sm (Sm.ext E_129)
  have t_136 : a_100 < h_126.size := Nat.lt_of_lt_of_le t_124 E_129.1
  have z_137 : n0 ≤ h_126.size := Nat.le_trans z_125 E_129.1
  have t_138 : a_127 < h_126.size := A_130.lt
  change Ary Z h_126 a_127 .int [(.int (0 : Int32)), (.int (0 : Int32)), (.int (0 : Int32))] at A_130
  refine Go.dup (pc' := 33) at_32 rfl rfl ?_
  refine Go.iconst (pc' := 34) (v := (0 : Int32)) at_33 rfl rfl ?_
  refine Go.iloadN (pc' := 35) at_34 rfl rfl ?_
  refine Go.stI (pc' := 36) (k := 0) A_130 rfl (by show 0 < 3; decide) at_35 g_133 rfl ?_
  intro h_139 W_140 A_141
  have f_142 : Exa Z h_139 a_100 "[I" := f_134.sm (Sm.wr W_140 n_132)
  have f_143 : Ary Z h_139 a_100 .int [(.int x0), (.int (x0 + (1 : Int32))), (.int (x0 + (2 : Int32)))] := f_135.sm (Sm.wr W_140 n_132)
  have f_144 : Exa Z h_139 a_127 "[I" := Exa.wr W_140 X_131
  have t_145 : a_100 < h_139.size := Nat.lt_of_lt_of_le t_136 (Nat.le_of_eq W_140.size.symm)
  have t_146 : a_127 < h_139.size := Nat.lt_of_lt_of_le t_138 (Nat.le_of_eq W_140.size.symm)
  have z_147 : n0 ≤ h_139.size := Nat.le_trans z_137 (Nat.le_of_eq W_140.size.symm)
  change Ary Z h_139 a_127 .int [(.int x1), (.int (0 : Int32)), (.int (0 : Int32))] at A_141
  refine Go.dup (pc' := 37) at_36 rfl rfl ?_
  refine Go.iconst (pc' := 38) (v := (1 : Int32)) at_37 rfl rfl ?_
  refine Go.iloadN (pc' := 39) at_38 rfl rfl ?_
  refine Go.iconst (pc' := 40) (v := (1 : Int32)) at_39 rfl rfl ?_
  refine Go.iadd (pc' := 41) at_40 rfl ?_
  refine Go.stI (pc' := 42) (k := 1) A_141 rfl (by show 1 < 3; decide) at_41 g_133 rfl ?_
  intro h_148 W_149 A_150
  have f_151 : Exa Z h_148 a_100 "[I" := f_142.sm (Sm.wr W_149 n_132)
  have f_152 : Ary Z h_148 a_100 .int [(.int x0), (.int (x0 + (1 : Int32))), (.int (x0 + (2 : Int32)))] := f_143.sm (Sm.wr W_149 n_132)
  have f_153 : Exa Z h_148 a_127 "[I" := Exa.wr W_149 f_144
  have t_154 : a_100 < h_148.size := Nat.lt_of_lt_of_le t_145 (Nat.le_of_eq W_149.size.symm)
  have t_155 : a_127 < h_148.size := Nat.lt_of_lt_of_le t_146 (Nat.le_of_eq W_149.size.symm)
  have z_156 : n0 ≤ h_148.size := Nat.le_trans z_147 (Nat.le_of_eq W_149.size.symm)
  change Ary Z h_148 a_127 .int [(.int x1), (.int (x1 + (1 : Int32))), (.int (0 : Int32))] at A_150
  refine Go.dup (pc' := 43) at_42 rfl rfl ?_
  refine Go.iconst (pc' := 44) (v := (2 : Int32)) at_43 rfl rfl ?_
  refine Go.iloadN (pc' := 45) at_44 rfl rfl ?_
  refine Go.iconst (pc' := 46) (v := (2 : Int32)) at_45 rfl rfl ?_
  refine Go.iadd (pc' := 47) at_46 rfl ?_
  refine Go.stI (pc' := 48) (k := 2) A_150 rfl (by show 2 < 3; decide) at_47 g_133 rfl ?_
  intro h_157 W_158 A_159
  have f_160 : Exa Z h_157 a_100 "[I" := f_151.sm (Sm.wr W_158 n_132)
  have f_161 : Ary Z h_157 a_100 .int [(.int x0), (.int (x0 + (1 : Int32))), (.int (x0 + (2 : Int32)))] := f_152.sm (Sm.wr W_158 n_132)
  have f_162 : Exa Z h_157 a_127 "[I" := Exa.wr W_158 f_153
  have t_163 : a_100 < h_157.size := Nat.lt_of_lt_of_le t_154 (Nat.le_of_eq W_158.size.symm)
  have t_164 : a_127 < h_157.size := Nat.lt_of_lt_of_le t_155 (Nat.le_of_eq W_158.size.symm)
  have z_165 : n0 ≤ h_157.size := Nat.le_trans z_156 (Nat.le_of_eq W_158.size.symm)
  change Ary Z h_157 a_127 .int [(.int x1), (.int (x1 + (1 : Int32))), (.int (x1 + (2 : Int32)))] at A_159
  refine Go.astore (pc' := 50) (Ls' := #[.val (.int t0), .val (.int p0), .val (.int x0), .val (.int x1), .val (.int g0), .val (.int p_97), .val (.ref a_100), .val (.ref a_127), .unset, .unset, .unset, .unset, .unset, .unset, .unset, .unset, .unset, .unset]) at_48 rfl rfl rfl ?_
  refine Go.iconst (pc' := 51) (v := (2 : Int32)) at_50 rfl rfl ?_
  refine Go.newAE (pc' := 53) (k := 2) (ty := .int) (cap := 2) (hw _ (List.mem_of_getElem? (i := 1) rfl)) rfl (ad := "[I") (by decide) rfl (by decide) (by decide) at_51 (by decide) (by decide) rfl ?_
  intro h_166 a_167 q_168 E_169 A_170 X_171
  have n_172 : a_100 ≠ a_167 := Nat.ne_of_lt (q_168 ▸ t_163)
  have n_173 : a_127 ≠ a_167 := Nat.ne_of_lt (q_168 ▸ t_164)
  have g_174 : n0 ≤ a_167 := q_168 ▸ z_165
  have f_175 : Exa Z h_166 a_100 "[I" := f_160.sm (Sm.ext E_169)
  have f_176 : Ary Z h_166 a_100 .int [(.int x0), (.int (x0 + (1 : Int32))), (.int (x0 + (2 : Int32)))] := f_161.sm (Sm.ext E_169)
  have f_177 : Exa Z h_166 a_127 "[I" := f_162.sm (Sm.ext E_169)
  have f_178 : Ary Z h_166 a_127 .int [(.int x1), (.int (x1 + (1 : Int32))), (.int (x1 + (2 : Int32)))] := A_159.sm (Sm.ext E_169)
  have t_179 : a_100 < h_166.size := Nat.lt_of_lt_of_le t_163 E_169.1
  have t_180 : a_127 < h_166.size := Nat.lt_of_lt_of_le t_164 E_169.1
  have z_181 : n0 ≤ h_166.size := Nat.le_trans z_165 E_169.1
  have t_182 : a_167 < h_166.size := A_170.lt
  change Ary Z h_166 a_167 .int [(.int (0 : Int32)), (.int (0 : Int32))] at A_170
  refine Go.dup (pc' := 54) at_53 rfl rfl ?_
  refine Go.iconst (pc' := 55) (v := (0 : Int32)) at_54 rfl rfl ?_
  refine Go.iloadN (pc' := 56) at_55 rfl rfl ?_
  refine Go.stI (pc' := 57) (k := 0) A_170 rfl (by show 0 < 2; decide) at_56 g_174 rfl ?_
  intro h_183 W_184 A_185
  have f_186 : Exa Z h_183 a_100 "[I" := f_175.sm (Sm.wr W_184 n_172)
  have f_187 : Ary Z h_183 a_100 .int [(.int x0), (.int (x0 + (1 : Int32))), (.int (x0 + (2 : Int32)))] := f_176.sm (Sm.wr W_184 n_172)
  have f_188 : Exa Z h_183 a_127 "[I" := f_177.sm (Sm.wr W_184 n_173)
  have f_189 : Ary Z h_183 a_127 .int [(.int x1), (.int (x1 + (1 : Int32))), (.int (x1 + (2 : Int32)))] := f_178.sm (Sm.wr W_184 n_173)
  have f_190 : Exa Z h_183 a_167 "[I" := Exa.wr W_184 X_171
  have t_191 : a_100 < h_183.size := Nat.lt_of_lt_of_le t_179 (Nat.le_of_eq W_184.size.symm)
  have t_192 : a_127 < h_183.size := Nat.lt_of_lt_of_le t_180 (Nat.le_of_eq W_184.size.symm)
  have t_193 : a_167 < h_183.size := Nat.lt_of_lt_of_le t_182 (Nat.le_of_eq W_184.size.symm)
  have z_194 : n0 ≤ h_183.size := Nat.le_trans z_181 (Nat.le_of_eq W_184.size.symm)
  change Ary Z h_183 a_167 .int [(.int x0), (.int (0 : Int32))] at A_185
  refine Go.dup (pc' := 58) at_57 rfl rfl ?_
  refine Go.iconst (pc' := 59) (v := (1 : Int32)) at_58 rfl rfl ?_
  refine Go.iloadN (pc' := 60) at_59 rfl rfl ?_
  refine Go.stI (pc' := 61) (k := 1) A_185 rfl (by show 1 < 2; decide) at_60 g_174 rfl ?_
  intro h_195 W_196 A_197
  have f_198 : Exa Z h_195 a_100 "[I" := f_186.sm (Sm.wr W_196 n_172)
  have f_199 : Ary Z h_195 a_100 .int [(.int x0), (.int (x0 + (1 : Int32))), (.int (x0 + (2 : Int32)))] := f_187.sm (Sm.wr W_196 n_172)
  have f_200 : Exa Z h_195 a_127 "[I" := f_188.sm (Sm.wr W_196 n_173)
  have f_201 : Ary Z h_195 a_127 .int [(.int x1), (.int (x1 + (1 : Int32))), (.int (x1 + (2 : Int32)))] := f_189.sm (Sm.wr W_196 n_173)
  have f_202 : Exa Z h_195 a_167 "[I" := Exa.wr W_196 f_190
  have t_203 : a_100 < h_195.size := Nat.lt_of_lt_of_le t_191 (Nat.le_of_eq W_196.size.symm)
  have t_204 : a_127 < h_195.size := Nat.lt_of_lt_of_le t_192 (Nat.le_of_eq W_196.size.symm)
  have t_205 : a_167 < h_195.size := Nat.lt_of_lt_of_le t_193 (Nat.le_of_eq W_196.size.symm)
  have z_206 : n0 ≤ h_195.size := Nat.le_trans z_194 (Nat.le_of_eq W_196.size.symm)
  change Ary Z h_195 a_167 .int [(.int x0), (.int x1)] at A_197
  refine Go.astore (pc' := 63) (Ls' := #[.val (.int t0), .val (.int p0), .val (.int x0), .val (.int x1), .val (.int g0), .val (.int p_97), .val (.ref a_100), .val (.ref a_127), .val (.ref a_167), .unset, .unset, .unset, .unset, .unset, .unset, .unset, .unset, .unset]) at_61 rfl rfl rfl ?_
  refine Go.iconst (pc' := 64) (v := (0 : Int32)) at_63 rfl rfl ?_
  refine Go.newAE (pc' := 66) (k := 0) (ty := .int) (cap := 0) (hw _ (List.mem_of_getElem? (i := 1) rfl)) rfl (ad := "[I") (by decide) rfl (by decide) (by decide) at_64 (by decide) (by decide) rfl ?_
  intro h_207 a_208 q_209 E_210 A_211 X_212
  have n_213 : a_100 ≠ a_208 := Nat.ne_of_lt (q_209 ▸ t_203)
  have n_214 : a_127 ≠ a_208 := Nat.ne_of_lt (q_209 ▸ t_204)
  have n_215 : a_167 ≠ a_208 := Nat.ne_of_lt (q_209 ▸ t_205)
  have g_216 : n0 ≤ a_208 := q_209 ▸ z_206
  have f_217 : Exa Z h_207 a_100 "[I" := f_198.sm (Sm.ext E_210)
  have f_218 : Ary Z h_207 a_100 .int [(.int x0), (.int (x0 + (1 : Int32))), (.int (x0 + (2 : Int32)))] := f_199.sm (Sm.ext E_210)
  have f_219 : Exa Z h_207 a_127 "[I" := f_200.sm (Sm.ext E_210)
  have f_220 : Ary Z h_207 a_127 .int [(.int x1), (.int (x1 + (1 : Int32))), (.int (x1 + (2 : Int32)))] := f_201.sm (Sm.ext E_210)
  have f_221 : Exa Z h_207 a_167 "[I" := f_202.sm (Sm.ext E_210)
  have f_222 : Ary Z h_207 a_167 .int [(.int x0), (.int x1)] := A_197.sm (Sm.ext E_210)
  have t_223 : a_100 < h_207.size := Nat.lt_of_lt_of_le t_203 E_210.1
  have t_224 : a_127 < h_207.size := Nat.lt_of_lt_of_le t_204 E_210.1
  have t_225 : a_167 < h_207.size := Nat.lt_of_lt_of_le t_205 E_210.1
  have z_226 : n0 ≤ h_207.size := Nat.le_trans z_206 E_210.1
  have t_227 : a_208 < h_207.size := A_211.lt
  change Ary Z h_207 a_208 .int [] at A_211
  refine Go.astore (pc' := 68) (Ls' := #[.val (.int t0), .val (.int p0), .val (.int x0), .val (.int x1), .val (.int g0), .val (.int p_97), .val (.ref a_100), .val (.ref a_127), .val (.ref a_167), .val (.ref a_208), .unset, .unset, .unset, .unset, .unset, .unset, .unset, .unset]) at_66 rfl rfl rfl ?_
  refine Go.iload (pc' := 70) at_68 rfl rfl ?_
  refine Go.iconst (pc' := 71) (v := (1 : Int32)) at_70 rfl rfl ?_
  refine Go.iand (pc' := 72) at_71 rfl ?_
  refine Go.ifc (pc1 := 79) (pc2 := 75) at_72 (by decide) (by decide) rfl (fun (c_228 : (g0 &&& (1 : Int32)).toInt = 0) => ?_) (fun (c_228 : (g0 &&& (1 : Int32)).toInt ≠ 0) => ?_)
  · refine Go.iconst (pc' := 80) (v := (4 : Int32)) at_79 rfl rfl ?_
    refine Go.newAE (pc' := 82) (k := 4) (ty := .int) (cap := 4) (hw _ (List.mem_of_getElem? (i := 1) rfl)) rfl (ad := "[I") (by decide) rfl (by decide) (by decide) at_80 (by decide) (by decide) rfl ?_
    intro h_229 a_230 q_231 E_232 A_233 X_234
    have n_235 : a_100 ≠ a_230 := Nat.ne_of_lt (q_231 ▸ t_223)
    have n_236 : a_127 ≠ a_230 := Nat.ne_of_lt (q_231 ▸ t_224)
    have n_237 : a_167 ≠ a_230 := Nat.ne_of_lt (q_231 ▸ t_225)
    have n_238 : a_208 ≠ a_230 := Nat.ne_of_lt (q_231 ▸ t_227)
    have g_239 : n0 ≤ a_230 := q_231 ▸ z_226
    have f_240 : Exa Z h_229 a_100 "[I" := f_217.sm (Sm.ext E_232)
    have f_241 : Ary Z h_229 a_100 .int [(.int x0), (.int (x0 + (1 : Int32))), (.int (x0 + (2 : Int32)))] := f_218.sm (Sm.ext E_232)
    have f_242 : Exa Z h_229 a_127 "[I" := f_219.sm (Sm.ext E_232)
    have f_243 : Ary Z h_229 a_127 .int [(.int x1), (.int (x1 + (1 : Int32))), (.int (x1 + (2 : Int32)))] := f_220.sm (Sm.ext E_232)
    have f_244 : Exa Z h_229 a_167 "[I" := f_221.sm (Sm.ext E_232)
    have f_245 : Ary Z h_229 a_167 .int [(.int x0), (.int x1)] := f_222.sm (Sm.ext E_232)
    have f_246 : Ary Z h_229 a_208 .int [] := A_211.sm (Sm.ext E_232)
    have f_247 : Exa Z h_229 a_208 "[I" := X_212.sm (Sm.ext E_232)
    have t_248 : a_100 < h_229.size := Nat.lt_of_lt_of_le t_223 E_232.1
    have t_249 : a_127 < h_229.size := Nat.lt_of_lt_of_le t_224 E_232.1
    have t_250 : a_167 < h_229.size := Nat.lt_of_lt_of_le t_225 E_232.1
    have t_251 : a_208 < h_229.size := Nat.lt_of_lt_of_le t_227 E_232.1
    have z_252 : n0 ≤ h_229.size := Nat.le_trans z_226 E_232.1
    have t_253 : a_230 < h_229.size := A_233.lt
    change Ary Z h_229 a_230 .int [(.int (0 : Int32)), (.int (0 : Int32)), (.int (0 : Int32)), (.int (0 : Int32))] at A_233
    refine Go.dup (pc' := 83) at_82 rfl rfl ?_
    refine Go.iconst (pc' := 84) (v := (0 : Int32)) at_83 rfl rfl ?_
    refine Go.iloadN (pc' := 85) at_84 rfl rfl ?_
    refine Go.stI (pc' := 86) (k := 0) A_233 rfl (by show 0 < 4; decide) at_85 g_239 rfl ?_
    intro h_254 W_255 A_256
    have f_257 : Exa Z h_254 a_100 "[I" := f_240.sm (Sm.wr W_255 n_235)
    have f_258 : Ary Z h_254 a_100 .int [(.int x0), (.int (x0 + (1 : Int32))), (.int (x0 + (2 : Int32)))] := f_241.sm (Sm.wr W_255 n_235)
    have f_259 : Exa Z h_254 a_127 "[I" := f_242.sm (Sm.wr W_255 n_236)
    have f_260 : Ary Z h_254 a_127 .int [(.int x1), (.int (x1 + (1 : Int32))), (.int (x1 + (2 : Int32)))] := f_243.sm (Sm.wr W_255 n_236)
    have f_261 : Exa Z h_254 a_167 "[I" := f_244.sm (Sm.wr W_255 n_237)
    have f_262 : Ary Z h_254 a_167 .int [(.int x0), (.int x1)] := f_245.sm (Sm.wr W_255 n_237)
    have f_263 : Ary Z h_254 a_208 .int [] := f_246.sm (Sm.wr W_255 n_238)
    have f_264 : Exa Z h_254 a_208 "[I" := f_247.sm (Sm.wr W_255 n_238)
    have f_265 : Exa Z h_254 a_230 "[I" := Exa.wr W_255 X_234
    have t_266 : a_100 < h_254.size := Nat.lt_of_lt_of_le t_248 (Nat.le_of_eq W_255.size.symm)
    have t_267 : a_127 < h_254.size := Nat.lt_of_lt_of_le t_249 (Nat.le_of_eq W_255.size.symm)
    have t_268 : a_167 < h_254.size := Nat.lt_of_lt_of_le t_250 (Nat.le_of_eq W_255.size.symm)
    have t_269 : a_208 < h_254.size := Nat.lt_of_lt_of_le t_251 (Nat.le_of_eq W_255.size.symm)
    have t_270 : a_230 < h_254.size := Nat.lt_of_lt_of_le t_253 (Nat.le_of_eq W_255.size.symm)
    have z_271 : n0 ≤ h_254.size := Nat.le_trans z_252 (Nat.le_of_eq W_255.size.symm)
    change Ary Z h_254 a_230 .int [(.int x0), (.int (0 : Int32)), (.int (0 : Int32)), (.int (0 : Int32))] at A_256
    refine Go.dup (pc' := 87) at_86 rfl rfl ?_
    refine Go.iconst (pc' := 88) (v := (1 : Int32)) at_87 rfl rfl ?_
    refine Go.iloadN (pc' := 89) at_88 rfl rfl ?_
    refine Go.stI (pc' := 90) (k := 1) A_256 rfl (by show 1 < 4; decide) at_89 g_239 rfl ?_
    intro h_272 W_273 A_274
    have f_275 : Exa Z h_272 a_100 "[I" := f_257.sm (Sm.wr W_273 n_235)
    have f_276 : Ary Z h_272 a_100 .int [(.int x0), (.int (x0 + (1 : Int32))), (.int (x0 + (2 : Int32)))] := f_258.sm (Sm.wr W_273 n_235)
    have f_277 : Exa Z h_272 a_127 "[I" := f_259.sm (Sm.wr W_273 n_236)
    have f_278 : Ary Z h_272 a_127 .int [(.int x1), (.int (x1 + (1 : Int32))), (.int (x1 + (2 : Int32)))] := f_260.sm (Sm.wr W_273 n_236)
    have f_279 : Exa Z h_272 a_167 "[I" := f_261.sm (Sm.wr W_273 n_237)
    have f_280 : Ary Z h_272 a_167 .int [(.int x0), (.int x1)] := f_262.sm (Sm.wr W_273 n_237)
    have f_281 : Ary Z h_272 a_208 .int [] := f_263.sm (Sm.wr W_273 n_238)
    have f_282 : Exa Z h_272 a_208 "[I" := f_264.sm (Sm.wr W_273 n_238)
    have f_283 : Exa Z h_272 a_230 "[I" := Exa.wr W_273 f_265
    have t_284 : a_100 < h_272.size := Nat.lt_of_lt_of_le t_266 (Nat.le_of_eq W_273.size.symm)
    have t_285 : a_127 < h_272.size := Nat.lt_of_lt_of_le t_267 (Nat.le_of_eq W_273.size.symm)
    have t_286 : a_167 < h_272.size := Nat.lt_of_lt_of_le t_268 (Nat.le_of_eq W_273.size.symm)
    have t_287 : a_208 < h_272.size := Nat.lt_of_lt_of_le t_269 (Nat.le_of_eq W_273.size.symm)
    have t_288 : a_230 < h_272.size := Nat.lt_of_lt_of_le t_270 (Nat.le_of_eq W_273.size.symm)
    have z_289 : n0 ≤ h_272.size := Nat.le_trans z_271 (Nat.le_of_eq W_273.size.symm)
    change Ary Z h_272 a_230 .int [(.int x0), (.int x0), (.int (0 : Int32)), (.int (0 : Int32))] at A_274
    refine Go.dup (pc' := 91) at_90 rfl rfl ?_
    refine Go.iconst (pc' := 92) (v := (2 : Int32)) at_91 rfl rfl ?_
    refine Go.iloadN (pc' := 93) at_92 rfl rfl ?_
    refine Go.stI (pc' := 94) (k := 2) A_274 rfl (by show 2 < 4; decide) at_93 g_239 rfl ?_
    intro h_290 W_291 A_292
    have f_293 : Exa Z h_290 a_100 "[I" := f_275.sm (Sm.wr W_291 n_235)
    have f_294 : Ary Z h_290 a_100 .int [(.int x0), (.int (x0 + (1 : Int32))), (.int (x0 + (2 : Int32)))] := f_276.sm (Sm.wr W_291 n_235)
    have f_295 : Exa Z h_290 a_127 "[I" := f_277.sm (Sm.wr W_291 n_236)
    have f_296 : Ary Z h_290 a_127 .int [(.int x1), (.int (x1 + (1 : Int32))), (.int (x1 + (2 : Int32)))] := f_278.sm (Sm.wr W_291 n_236)
    have f_297 : Exa Z h_290 a_167 "[I" := f_279.sm (Sm.wr W_291 n_237)
    have f_298 : Ary Z h_290 a_167 .int [(.int x0), (.int x1)] := f_280.sm (Sm.wr W_291 n_237)
    have f_299 : Ary Z h_290 a_208 .int [] := f_281.sm (Sm.wr W_291 n_238)
    have f_300 : Exa Z h_290 a_208 "[I" := f_282.sm (Sm.wr W_291 n_238)
    have f_301 : Exa Z h_290 a_230 "[I" := Exa.wr W_291 f_283
    have t_302 : a_100 < h_290.size := Nat.lt_of_lt_of_le t_284 (Nat.le_of_eq W_291.size.symm)
    have t_303 : a_127 < h_290.size := Nat.lt_of_lt_of_le t_285 (Nat.le_of_eq W_291.size.symm)
    have t_304 : a_167 < h_290.size := Nat.lt_of_lt_of_le t_286 (Nat.le_of_eq W_291.size.symm)
    have t_305 : a_208 < h_290.size := Nat.lt_of_lt_of_le t_287 (Nat.le_of_eq W_291.size.symm)
    have t_306 : a_230 < h_290.size := Nat.lt_of_lt_of_le t_288 (Nat.le_of_eq W_291.size.symm)
    have z_307 : n0 ≤ h_290.size := Nat.le_trans z_289 (Nat.le_of_eq W_291.size.symm)
    change Ary Z h_290 a_230 .int [(.int x0), (.int x0), (.int x1), (.int (0 : Int32))] at A_292
    refine Go.dup (pc' := 95) at_94 rfl rfl ?_
    refine Go.iconst (pc' := 96) (v := (3 : Int32)) at_95 rfl rfl ?_
    refine Go.iloadN (pc' := 97) at_96 rfl rfl ?_
    refine Go.stI (pc' := 98) (k := 3) A_292 rfl (by show 3 < 4; decide) at_97 g_239 rfl ?_
    intro h_308 W_309 A_310
    have f_311 : Exa Z h_308 a_100 "[I" := f_293.sm (Sm.wr W_309 n_235)
    have f_312 : Ary Z h_308 a_100 .int [(.int x0), (.int (x0 + (1 : Int32))), (.int (x0 + (2 : Int32)))] := f_294.sm (Sm.wr W_309 n_235)
    have f_313 : Exa Z h_308 a_127 "[I" := f_295.sm (Sm.wr W_309 n_236)
    have f_314 : Ary Z h_308 a_127 .int [(.int x1), (.int (x1 + (1 : Int32))), (.int (x1 + (2 : Int32)))] := f_296.sm (Sm.wr W_309 n_236)
    have f_315 : Exa Z h_308 a_167 "[I" := f_297.sm (Sm.wr W_309 n_237)
    have f_316 : Ary Z h_308 a_167 .int [(.int x0), (.int x1)] := f_298.sm (Sm.wr W_309 n_237)
    have f_317 : Ary Z h_308 a_208 .int [] := f_299.sm (Sm.wr W_309 n_238)
    have f_318 : Exa Z h_308 a_208 "[I" := f_300.sm (Sm.wr W_309 n_238)
    have f_319 : Exa Z h_308 a_230 "[I" := Exa.wr W_309 f_301
    have t_320 : a_100 < h_308.size := Nat.lt_of_lt_of_le t_302 (Nat.le_of_eq W_309.size.symm)
    have t_321 : a_127 < h_308.size := Nat.lt_of_lt_of_le t_303 (Nat.le_of_eq W_309.size.symm)
    have t_322 : a_167 < h_308.size := Nat.lt_of_lt_of_le t_304 (Nat.le_of_eq W_309.size.symm)
    have t_323 : a_208 < h_308.size := Nat.lt_of_lt_of_le t_305 (Nat.le_of_eq W_309.size.symm)
    have t_324 : a_230 < h_308.size := Nat.lt_of_lt_of_le t_306 (Nat.le_of_eq W_309.size.symm)
    have z_325 : n0 ≤ h_308.size := Nat.le_trans z_307 (Nat.le_of_eq W_309.size.symm)
    change Ary Z h_308 a_230 .int [(.int x0), (.int x0), (.int x1), (.int x1)] at A_310
    refine Go.astore (pc' := 100) (Ls' := #[.val (.int t0), .val (.int p0), .val (.int x0), .val (.int x1), .val (.int g0), .val (.int p_97), .val (.ref a_100), .val (.ref a_127), .val (.ref a_167), .val (.ref a_208), .val (.ref a_230), .unset, .unset, .unset, .unset, .unset, .unset, .unset]) at_98 rfl rfl rfl ?_
    refine Go.iconst (pc' := 101) (v := (3 : Int32)) at_100 rfl rfl ?_
    refine Go.newRA (pc' := 104) (k := 3) (ty := .int) (cap := 3) (C := "[I") (ad := "[[I") (by decide) (hw _ (List.mem_of_getElem? (i := 2) rfl)) (hw _ (List.mem_of_getElem? (i := 3) rfl)) (by decide) rfl (by decide) (by decide) at_101 (by decide) (by decide) rfl ?_
    intro h_326 a_327 q_328 E_329 A_330 V_331
    have n_332 : a_100 ≠ a_327 := Nat.ne_of_lt (q_328 ▸ t_320)
    have n_333 : a_127 ≠ a_327 := Nat.ne_of_lt (q_328 ▸ t_321)
    have n_334 : a_167 ≠ a_327 := Nat.ne_of_lt (q_328 ▸ t_322)
    have n_335 : a_208 ≠ a_327 := Nat.ne_of_lt (q_328 ▸ t_323)
    have n_336 : a_230 ≠ a_327 := Nat.ne_of_lt (q_328 ▸ t_324)
    have g_337 : n0 ≤ a_327 := q_328 ▸ z_325
    have f_338 : Exa Z h_326 a_100 "[I" := f_311.sm (Sm.ext E_329)
    have f_339 : Ary Z h_326 a_100 .int [(.int x0), (.int (x0 + (1 : Int32))), (.int (x0 + (2 : Int32)))] := f_312.sm (Sm.ext E_329)
    have f_340 : Exa Z h_326 a_127 "[I" := f_313.sm (Sm.ext E_329)
    have f_341 : Ary Z h_326 a_127 .int [(.int x1), (.int (x1 + (1 : Int32))), (.int (x1 + (2 : Int32)))] := f_314.sm (Sm.ext E_329)
    have f_342 : Exa Z h_326 a_167 "[I" := f_315.sm (Sm.ext E_329)
    have f_343 : Ary Z h_326 a_167 .int [(.int x0), (.int x1)] := f_316.sm (Sm.ext E_329)
    have f_344 : Ary Z h_326 a_208 .int [] := f_317.sm (Sm.ext E_329)
    have f_345 : Exa Z h_326 a_208 "[I" := f_318.sm (Sm.ext E_329)
    have f_346 : Exa Z h_326 a_230 "[I" := f_319.sm (Sm.ext E_329)
    have f_347 : Ary Z h_326 a_230 .int [(.int x0), (.int x0), (.int x1), (.int x1)] := A_310.sm (Sm.ext E_329)
    have t_348 : a_100 < h_326.size := Nat.lt_of_lt_of_le t_320 E_329.1
    have t_349 : a_127 < h_326.size := Nat.lt_of_lt_of_le t_321 E_329.1
    have t_350 : a_167 < h_326.size := Nat.lt_of_lt_of_le t_322 E_329.1
    have t_351 : a_208 < h_326.size := Nat.lt_of_lt_of_le t_323 E_329.1
    have t_352 : a_230 < h_326.size := Nat.lt_of_lt_of_le t_324 E_329.1
    have z_353 : n0 ≤ h_326.size := Nat.le_trans z_325 E_329.1
    have t_354 : a_327 < h_326.size := A_330.lt
    change Ary Z h_326 a_327 (.array .int) [.null, .null, .null] at A_330
    refine Go.dup (pc' := 105) at_104 rfl rfl ?_
    refine Go.iconst (pc' := 106) (v := (0 : Int32)) at_105 rfl rfl ?_
    refine Go.aload (pc' := 108) at_106 rfl rfl rfl ?_
    refine Go.stR (pc' := 109) (k := 0) A_330 rfl (Sto.ova A_330 V_331 f_342) rfl (by show 0 < 3; decide) at_108 g_337 rfl ?_
    intro h_355 W_356 A_357
    have f_358 : Exa Z h_355 a_100 "[I" := f_338.sm (Sm.wr W_356 n_332)
    have f_359 : Ary Z h_355 a_100 .int [(.int x0), (.int (x0 + (1 : Int32))), (.int (x0 + (2 : Int32)))] := f_339.sm (Sm.wr W_356 n_332)
    have f_360 : Exa Z h_355 a_127 "[I" := f_340.sm (Sm.wr W_356 n_333)
    have f_361 : Ary Z h_355 a_127 .int [(.int x1), (.int (x1 + (1 : Int32))), (.int (x1 + (2 : Int32)))] := f_341.sm (Sm.wr W_356 n_333)
    have f_362 : Exa Z h_355 a_167 "[I" := f_342.sm (Sm.wr W_356 n_334)
    have f_363 : Ary Z h_355 a_167 .int [(.int x0), (.int x1)] := f_343.sm (Sm.wr W_356 n_334)
    have f_364 : Ary Z h_355 a_208 .int [] := f_344.sm (Sm.wr W_356 n_335)
    have f_365 : Exa Z h_355 a_208 "[I" := f_345.sm (Sm.wr W_356 n_335)
    have f_366 : Exa Z h_355 a_230 "[I" := f_346.sm (Sm.wr W_356 n_336)
    have f_367 : Ary Z h_355 a_230 .int [(.int x0), (.int x0), (.int x1), (.int x1)] := f_347.sm (Sm.wr W_356 n_336)
    have f_368 : Ova Z h_355 a_327 .int "[I" := Ova.wr W_356 V_331
    have t_369 : a_100 < h_355.size := Nat.lt_of_lt_of_le t_348 (Nat.le_of_eq W_356.size.symm)
    have t_370 : a_127 < h_355.size := Nat.lt_of_lt_of_le t_349 (Nat.le_of_eq W_356.size.symm)
    have t_371 : a_167 < h_355.size := Nat.lt_of_lt_of_le t_350 (Nat.le_of_eq W_356.size.symm)
    have t_372 : a_208 < h_355.size := Nat.lt_of_lt_of_le t_351 (Nat.le_of_eq W_356.size.symm)
    have t_373 : a_230 < h_355.size := Nat.lt_of_lt_of_le t_352 (Nat.le_of_eq W_356.size.symm)
    have t_374 : a_327 < h_355.size := Nat.lt_of_lt_of_le t_354 (Nat.le_of_eq W_356.size.symm)
    have z_375 : n0 ≤ h_355.size := Nat.le_trans z_353 (Nat.le_of_eq W_356.size.symm)
    change Ary Z h_355 a_327 (.array .int) [(.ref a_167), .null, .null] at A_357
    refine Go.dup (pc' := 110) at_109 rfl rfl ?_
    refine Go.iconst (pc' := 111) (v := (1 : Int32)) at_110 rfl rfl ?_
    refine Go.aload (pc' := 113) at_111 rfl rfl rfl ?_
    refine Go.stR (pc' := 114) (k := 1) A_357 rfl (Sto.ova A_357 f_368 f_365) rfl (by show 1 < 3; decide) at_113 g_337 rfl ?_
    intro h_376 W_377 A_378
    have f_379 : Exa Z h_376 a_100 "[I" := f_358.sm (Sm.wr W_377 n_332)
    have f_380 : Ary Z h_376 a_100 .int [(.int x0), (.int (x0 + (1 : Int32))), (.int (x0 + (2 : Int32)))] := f_359.sm (Sm.wr W_377 n_332)
    have f_381 : Exa Z h_376 a_127 "[I" := f_360.sm (Sm.wr W_377 n_333)
    have f_382 : Ary Z h_376 a_127 .int [(.int x1), (.int (x1 + (1 : Int32))), (.int (x1 + (2 : Int32)))] := f_361.sm (Sm.wr W_377 n_333)
    have f_383 : Exa Z h_376 a_167 "[I" := f_362.sm (Sm.wr W_377 n_334)
    have f_384 : Ary Z h_376 a_167 .int [(.int x0), (.int x1)] := f_363.sm (Sm.wr W_377 n_334)
    have f_385 : Ary Z h_376 a_208 .int [] := f_364.sm (Sm.wr W_377 n_335)
    have f_386 : Exa Z h_376 a_208 "[I" := f_365.sm (Sm.wr W_377 n_335)
    have f_387 : Exa Z h_376 a_230 "[I" := f_366.sm (Sm.wr W_377 n_336)
    have f_388 : Ary Z h_376 a_230 .int [(.int x0), (.int x0), (.int x1), (.int x1)] := f_367.sm (Sm.wr W_377 n_336)
    have f_389 : Ova Z h_376 a_327 .int "[I" := Ova.wr W_377 f_368
    have t_390 : a_100 < h_376.size := Nat.lt_of_lt_of_le t_369 (Nat.le_of_eq W_377.size.symm)
    have t_391 : a_127 < h_376.size := Nat.lt_of_lt_of_le t_370 (Nat.le_of_eq W_377.size.symm)
    have t_392 : a_167 < h_376.size := Nat.lt_of_lt_of_le t_371 (Nat.le_of_eq W_377.size.symm)
    have t_393 : a_208 < h_376.size := Nat.lt_of_lt_of_le t_372 (Nat.le_of_eq W_377.size.symm)
    have t_394 : a_230 < h_376.size := Nat.lt_of_lt_of_le t_373 (Nat.le_of_eq W_377.size.symm)
    have t_395 : a_327 < h_376.size := Nat.lt_of_lt_of_le t_374 (Nat.le_of_eq W_377.size.symm)
    have z_396 : n0 ≤ h_376.size := Nat.le_trans z_375 (Nat.le_of_eq W_377.size.symm)
    change Ary Z h_376 a_327 (.array .int) [(.ref a_167), (.ref a_208), .null] at A_378
    refine Go.dup (pc' := 115) at_114 rfl rfl ?_
    refine Go.iconst (pc' := 116) (v := (2 : Int32)) at_115 rfl rfl ?_
    refine Go.aload (pc' := 118) at_116 rfl rfl rfl ?_
    refine Go.stR (pc' := 119) (k := 2) A_378 rfl (Sto.ova A_378 f_389 f_387) rfl (by show 2 < 3; decide) at_118 g_337 rfl ?_
    intro h_397 W_398 A_399
    have f_400 : Exa Z h_397 a_100 "[I" := f_379.sm (Sm.wr W_398 n_332)
    have f_401 : Ary Z h_397 a_100 .int [(.int x0), (.int (x0 + (1 : Int32))), (.int (x0 + (2 : Int32)))] := f_380.sm (Sm.wr W_398 n_332)
    have f_402 : Exa Z h_397 a_127 "[I" := f_381.sm (Sm.wr W_398 n_333)
    have f_403 : Ary Z h_397 a_127 .int [(.int x1), (.int (x1 + (1 : Int32))), (.int (x1 + (2 : Int32)))] := f_382.sm (Sm.wr W_398 n_333)
    have f_404 : Exa Z h_397 a_167 "[I" := f_383.sm (Sm.wr W_398 n_334)
    have f_405 : Ary Z h_397 a_167 .int [(.int x0), (.int x1)] := f_384.sm (Sm.wr W_398 n_334)
    have f_406 : Ary Z h_397 a_208 .int [] := f_385.sm (Sm.wr W_398 n_335)
    have f_407 : Exa Z h_397 a_208 "[I" := f_386.sm (Sm.wr W_398 n_335)
    have f_408 : Exa Z h_397 a_230 "[I" := f_387.sm (Sm.wr W_398 n_336)
    have f_409 : Ary Z h_397 a_230 .int [(.int x0), (.int x0), (.int x1), (.int x1)] := f_388.sm (Sm.wr W_398 n_336)
    have f_410 : Ova Z h_397 a_327 .int "[I" := Ova.wr W_398 f_389
    have t_411 : a_100 < h_397.size := Nat.lt_of_lt_of_le t_390 (Nat.le_of_eq W_398.size.symm)
    have t_412 : a_127 < h_397.size := Nat.lt_of_lt_of_le t_391 (Nat.le_of_eq W_398.size.symm)
    have t_413 : a_167 < h_397.size := Nat.lt_of_lt_of_le t_392 (Nat.le_of_eq W_398.size.symm)
    have t_414 : a_208 < h_397.size := Nat.lt_of_lt_of_le t_393 (Nat.le_of_eq W_398.size.symm)
    have t_415 : a_230 < h_397.size := Nat.lt_of_lt_of_le t_394 (Nat.le_of_eq W_398.size.symm)
    have t_416 : a_327 < h_397.size := Nat.lt_of_lt_of_le t_395 (Nat.le_of_eq W_398.size.symm)
    have z_417 : n0 ≤ h_397.size := Nat.le_trans z_396 (Nat.le_of_eq W_398.size.symm)
    change Ary Z h_397 a_327 (.array .int) [(.ref a_167), (.ref a_208), (.ref a_230)] at A_399
    refine Go.astore (pc' := 121) (Ls' := #[.val (.int t0), .val (.int p0), .val (.int x0), .val (.int x1), .val (.int g0), .val (.int p_97), .val (.ref a_100), .val (.ref a_127), .val (.ref a_167), .val (.ref a_208), .val (.ref a_230), .val (.ref a_327), .unset, .unset, .unset, .unset, .unset, .unset]) at_119 rfl rfl rfl ?_
    refine Go.iload (pc' := 123) at_121 rfl rfl ?_
    refine Go.iconst (pc' := 124) (v := (2 : Int32)) at_123 rfl rfl ?_
    refine Go.iand (pc' := 125) at_124 rfl ?_
    have J : ∀ s : Int32, (s.toInt = 0 ∨ s.toInt = 1) → (Go false l room_1 Z x code maxLocals ret n0 32 128 (fun v h => v = some (.int 1))) h_397 (0 + 1 + 1 + 1 + 1 + 1 + 1) (0 + 3 + 3 + 2 + 0 + 4 + 3) 133 #[.val (.int t0), .val (.int p0), .val (.int x0), .val (.int x1), .val (.int g0), .val (.int p_97), .val (.ref a_100), .val (.ref a_127), .val (.ref a_167), .val (.ref a_208), .val (.ref a_230), .val (.ref a_327), .unset, .unset, .unset, .unset, .unset, .unset] [(.int s)] := by
      intro s hs
      refine Go.istore (pc' := 135) (Ls' := #[.val (.int t0), .val (.int p0), .val (.int x0), .val (.int x1), .val (.int g0), .val (.int p_97), .val (.ref a_100), .val (.ref a_127), .val (.ref a_167), .val (.ref a_208), .val (.ref a_230), .val (.ref a_327), .val (.int s), .unset, .unset, .unset, .unset, .unset]) at_133 rfl rfl ?_
      refine Go.iload (pc' := 137) at_135 rfl rfl ?_
      refine Go.iconst (pc' := 138) (v := (4 : Int32)) at_137 rfl rfl ?_
      refine Go.iand (pc' := 139) at_138 rfl ?_
      refine Go.ifc (pc1 := 146) (pc2 := 142) at_139 (by decide) (by decide) rfl (fun (c_418 : (g0 &&& (4 : Int32)).toInt = 0) => ?_) (fun (c_418 : (g0 &&& (4 : Int32)).toInt ≠ 0) => ?_)
      · refine Go.aload (pc' := 148) at_146 rfl rfl rfl ?_
        refine Go.astore (pc' := 150) (Ls' := #[.val (.int t0), .val (.int p0), .val (.int x0), .val (.int x1), .val (.int g0), .val (.int p_97), .val (.ref a_100), .val (.ref a_127), .val (.ref a_167), .val (.ref a_208), .val (.ref a_230), .val (.ref a_327), .val (.int s), .val (.ref a_127), .unset, .unset, .unset, .unset]) at_148 rfl rfl rfl ?_
        refine Go.newO (pc' := 153) (hw _ (List.mem_of_getElem? (i := 5) rfl)) (hw _ (List.mem_of_getElem? (i := 6) rfl)) (hw _ (List.mem_of_getElem? (i := 7) rfl)) at_150 (by decide) (by decide) rfl ?_
        intro h_419 a_420 q_421 E_422 A_423 D_424
        have n_425 : a_100 ≠ a_420 := Nat.ne_of_lt (q_421 ▸ t_411)
        have n_426 : a_127 ≠ a_420 := Nat.ne_of_lt (q_421 ▸ t_412)
        have n_427 : a_167 ≠ a_420 := Nat.ne_of_lt (q_421 ▸ t_413)
        have n_428 : a_208 ≠ a_420 := Nat.ne_of_lt (q_421 ▸ t_414)
        have n_429 : a_230 ≠ a_420 := Nat.ne_of_lt (q_421 ▸ t_415)
        have n_430 : a_327 ≠ a_420 := Nat.ne_of_lt (q_421 ▸ t_416)
        have g_431 : n0 ≤ a_420 := q_421 ▸ z_417
        have f_432 : Exa Z h_419 a_100 "[I" := f_400.sm (Sm.ext E_422)
        have f_433 : Ary Z h_419 a_100 .int [(.int x0), (.int (x0 + (1 : Int32))), (.int (x0 + (2 : Int32)))] := f_401.sm (Sm.ext E_422)
        have f_434 : Exa Z h_419 a_127 "[I" := f_402.sm (Sm.ext E_422)
        have f_435 : Ary Z h_419 a_127 .int [(.int x1), (.int (x1 + (1 : Int32))), (.int (x1 + (2 : Int32)))] := f_403.sm (Sm.ext E_422)
        have f_436 : Exa Z h_419 a_167 "[I" := f_404.sm (Sm.ext E_422)
        have f_437 : Ary Z h_419 a_167 .int [(.int x0), (.int x1)] := f_405.sm (Sm.ext E_422)
        have f_438 : Ary Z h_419 a_208 .int [] := f_406.sm (Sm.ext E_422)
        have f_439 : Exa Z h_419 a_208 "[I" := f_407.sm (Sm.ext E_422)
        have f_440 : Exa Z h_419 a_230 "[I" := f_408.sm (Sm.ext E_422)
        have f_441 : Ary Z h_419 a_230 .int [(.int x0), (.int x0), (.int x1), (.int x1)] := f_409.sm (Sm.ext E_422)
        have f_442 : Ova Z h_419 a_327 .int "[I" := f_410.sm (Sm.ext E_422)
        have f_443 : Ary Z h_419 a_327 (.array .int) [(.ref a_167), (.ref a_208), (.ref a_230)] := A_399.sm (Sm.ext E_422)
        have t_444 : a_100 < h_419.size := Nat.lt_of_lt_of_le t_411 E_422.1
        have t_445 : a_127 < h_419.size := Nat.lt_of_lt_of_le t_412 E_422.1
        have t_446 : a_167 < h_419.size := Nat.lt_of_lt_of_le t_413 E_422.1
        have t_447 : a_208 < h_419.size := Nat.lt_of_lt_of_le t_414 E_422.1
        have t_448 : a_230 < h_419.size := Nat.lt_of_lt_of_le t_415 E_422.1
        have t_449 : a_327 < h_419.size := Nat.lt_of_lt_of_le t_416 E_422.1
        have z_450 : n0 ≤ h_419.size := Nat.le_trans z_417 E_422.1
        have t_451 : a_420 < h_419.size := A_423.lt
        have f_452 : Fld Z h_419 a_420 "com/example/doppelgrep/doppelgrep/engine/Group" "tokens" "I" (.int (0 : Int32)) := D_424 (Or.inr (hw _ (List.mem_of_getElem? (i := 18) rfl))) (ty := .int) (by decide)
        have f_453 : Fld Z h_419 a_420 "com/example/doppelgrep/doppelgrep/engine/Group" "starts" "[I" .null := D_424 (Or.inr (hw _ (List.mem_of_getElem? (i := 20) rfl))) (ty := (.array .int)) (by decide)
        have f_454 : Fld Z h_419 a_420 "com/example/doppelgrep/doppelgrep/engine/Group" "ends" "[I" .null := D_424 (Or.inr (hw _ (List.mem_of_getElem? (i := 22) rfl))) (ty := (.array .int)) (by decide)
        have f_455 : Fld Z h_419 a_420 "com/example/doppelgrep/doppelgrep/engine/Group" "gapped" "Z" (.int (0 : Int32)) := D_424 (Or.inr (hw _ (List.mem_of_getElem? (i := 24) rfl))) (ty := .boolean) (by decide)
        have f_456 : Fld Z h_419 a_420 "com/example/doppelgrep/doppelgrep/engine/Group" "runs" "[[I" .null := D_424 (Or.inr (hw _ (List.mem_of_getElem? (i := 26) rfl))) (ty := (.array (.array .int))) (by decide)
        refine Go.dup (pc' := 154) at_153 rfl rfl ?_
        refine Go.iloadN (pc' := 155) at_154 rfl rfl ?_
        refine Go.aload (pc' := 157) at_155 rfl rfl rfl ?_
        refine Go.callN (pc' := 160) (argsL := [(.int t0), (.ref a_100)]) (rest := [(.ref a_420)]) (W := 1) rfl (hw _ (List.mem_of_getElem? (i := 8) rfl)) (hw _ (List.mem_of_getElem? (i := 9) rfl)) (hw _ (List.mem_of_getElem? (i := 7) rfl)) (hw _ (List.mem_of_getElem? (i := 10) rfl)) (by decide) (m_two l Z a0 hw a_420 t0 (.ref a_100) h_419 n0 z_450 A_423 f_452 f_453 f_454 f_455 f_456 g_431 rfl) at_157 rfl pd1 rfl rfl (Nat.le_of_eq rfl) (by decide) (by decide) (by decide) (by decide) rfl ?_
        rintro _ h_457 ⟨rfl, K_458, E_459, F_460, F_461, F_462, F_463, F_464⟩
        have f_465 : Exa Z h_457 a_100 "[I" := f_432.sm (Sm.keep K_458 (ninS n_425 nin0))
        have f_466 : Ary Z h_457 a_100 .int [(.int x0), (.int (x0 + (1 : Int32))), (.int (x0 + (2 : Int32)))] := f_433.sm (Sm.keep K_458 (ninS n_425 nin0))
        have f_467 : Exa Z h_457 a_127 "[I" := f_434.sm (Sm.keep K_458 (ninS n_426 nin0))
        have f_468 : Ary Z h_457 a_127 .int [(.int x1), (.int (x1 + (1 : Int32))), (.int (x1 + (2 : Int32)))] := f_435.sm (Sm.keep K_458 (ninS n_426 nin0))
        have f_469 : Exa Z h_457 a_167 "[I" := f_436.sm (Sm.keep K_458 (ninS n_427 nin0))
        have f_470 : Ary Z h_457 a_167 .int [(.int x0), (.int x1)] := f_437.sm (Sm.keep K_458 (ninS n_427 nin0))
        have f_471 : Ary Z h_457 a_208 .int [] := f_438.sm (Sm.keep K_458 (ninS n_428 nin0))
        have f_472 : Exa Z h_457 a_208 "[I" := f_439.sm (Sm.keep K_458 (ninS n_428 nin0))
        have f_473 : Exa Z h_457 a_230 "[I" := f_440.sm (Sm.keep K_458 (ninS n_429 nin0))
        have f_474 : Ary Z h_457 a_230 .int [(.int x0), (.int x0), (.int x1), (.int x1)] := f_441.sm (Sm.keep K_458 (ninS n_429 nin0))
        have f_475 : Ova Z h_457 a_327 .int "[I" := f_442.sm (Sm.keep K_458 (ninS n_430 nin0))
        have f_476 : Ary Z h_457 a_327 (.array .int) [(.ref a_167), (.ref a_208), (.ref a_230)] := f_443.sm (Sm.keep K_458 (ninS n_430 nin0))
        have f_477 : Exa Z h_457 a_420 "com/example/doppelgrep/doppelgrep/engine/Group" := A_423.keep K_458
        have t_483 : a_100 < h_457.size := Nat.lt_of_lt_of_le t_444 K_458.1
        have t_484 : a_127 < h_457.size := Nat.lt_of_lt_of_le t_445 K_458.1
        have t_485 : a_167 < h_457.size := Nat.lt_of_lt_of_le t_446 K_458.1
        have t_486 : a_208 < h_457.size := Nat.lt_of_lt_of_le t_447 K_458.1
        have t_487 : a_230 < h_457.size := Nat.lt_of_lt_of_le t_448 K_458.1
        have t_488 : a_327 < h_457.size := Nat.lt_of_lt_of_le t_449 K_458.1
        have t_489 : a_420 < h_457.size := Nat.lt_of_lt_of_le t_451 K_458.1
        have z_490 : n0 ≤ h_457.size := Nat.le_trans z_450 K_458.1
        show (Go false l room_1 Z x code maxLocals ret n0 32 128 (fun v h => v = some (.int 1))) h_457 (0 + 1 + 1 + 1 + 1 + 1 + 1 + 1 + 0) (0 + 3 + 3 + 2 + 0 + 4 + 3 + 5 + 0) 160 #[.val (.int t0), .val (.int p0), .val (.int x0), .val (.int x1), .val (.int g0), .val (.int p_97), .val (.ref a_100), .val (.ref a_127), .val (.ref a_167), .val (.ref a_208), .val (.ref a_230), .val (.ref a_327), .val (.int s), .val (.ref a_127), .unset, .unset, .unset, .unset] [(.ref a_420)]
        refine Go.astore (pc' := 162) (Ls' := #[.val (.int t0), .val (.int p0), .val (.int x0), .val (.int x1), .val (.int g0), .val (.int p_97), .val (.ref a_100), .val (.ref a_127), .val (.ref a_167), .val (.ref a_208), .val (.ref a_230), .val (.ref a_327), .val (.int s), .val (.ref a_127), .val (.ref a_420), .unset, .unset, .unset]) at_160 rfl rfl rfl ?_
        refine Go.newO (pc' := 165) (hw _ (List.mem_of_getElem? (i := 5) rfl)) (hw _ (List.mem_of_getElem? (i := 6) rfl)) (hw _ (List.mem_of_getElem? (i := 7) rfl)) at_162 (by decide) (by decide) rfl ?_
        intro h_491 a_492 q_493 E_494 A_495 D_496
        have n_497 : a_100 ≠ a_492 := Nat.ne_of_lt (q_493 ▸ t_483)
        have n_498 : a_127 ≠ a_492 := Nat.ne_of_lt (q_493 ▸ t_484)
        have n_499 : a_167 ≠ a_492 := Nat.ne_of_lt (q_493 ▸ t_485)
        have n_500 : a_208 ≠ a_492 := Nat.ne_of_lt (q_493 ▸ t_486)
        have n_501 : a_230 ≠ a_492 := Nat.ne_of_lt (q_493 ▸ t_487)
        have n_502 : a_327 ≠ a_492 := Nat.ne_of_lt (q_493 ▸ t_488)
        have n_503 : a_420 ≠ a_492 := Nat.ne_of_lt (q_493 ▸ t_489)
        have g_504 : n0 ≤ a_492 := q_493 ▸ z_490
        have f_505 : Exa Z h_491 a_100 "[I" := f_465.sm (Sm.ext E_494)
        have f_506 : Ary Z h_491 a_100 .int [(.int x0), (.int (x0 + (1 : Int32))), (.int (x0 + (2 : Int32)))] := f_466.sm (Sm.ext E_494)
        have f_507 : Exa Z h_491 a_127 "[I" := f_467.sm (Sm.ext E_494)
        have f_508 : Ary Z h_491 a_127 .int [(.int x1), (.int (x1 + (1 : Int32))), (.int (x1 + (2 : Int32)))] := f_468.sm (Sm.ext E_494)
        have f_509 : Exa Z h_491 a_167 "[I" := f_469.sm (Sm.ext E_494)
        have f_510 : Ary Z h_491 a_167 .int [(.int x0), (.int x1)] := f_470.sm (Sm.ext E_494)
        have f_511 : Ary Z h_491 a_208 .int [] := f_471.sm (Sm.ext E_494)
        have f_512 : Exa Z h_491 a_208 "[I" := f_472.sm (Sm.ext E_494)
        have f_513 : Exa Z h_491 a_230 "[I" := f_473.sm (Sm.ext E_494)
        have f_514 : Ary Z h_491 a_230 .int [(.int x0), (.int x0), (.int x1), (.int x1)] := f_474.sm (Sm.ext E_494)
        have f_515 : Ova Z h_491 a_327 .int "[I" := f_475.sm (Sm.ext E_494)
        have f_516 : Ary Z h_491 a_327 (.array .int) [(.ref a_167), (.ref a_208), (.ref a_230)] := f_476.sm (Sm.ext E_494)
        have f_517 : Exa Z h_491 a_420 "com/example/doppelgrep/doppelgrep/engine/Group" := f_477.sm (Sm.ext E_494)
        have f_518 : Fld Z h_491 a_420 "com/example/doppelgrep/doppelgrep/engine/Group" "tokens" "I" (.int t0) := F_460.sm (Sm.ext E_494)
        have f_519 : Fld Z h_491 a_420 "com/example/doppelgrep/doppelgrep/engine/Group" "starts" "[I" (.ref a_100) := F_461.sm (Sm.ext E_494)
        have f_520 : Fld Z h_491 a_420 "com/example/doppelgrep/doppelgrep/engine/Group" "ends" "[I" .null := F_462.sm (Sm.ext E_494)
        have f_521 : Fld Z h_491 a_420 "com/example/doppelgrep/doppelgrep/engine/Group" "gapped" "Z" (.int (0 : Int32)) := F_463.sm (Sm.ext E_494)
        have f_522 : Fld Z h_491 a_420 "com/example/doppelgrep/doppelgrep/engine/Group" "runs" "[[I" .null := F_464.sm (Sm.ext E_494)
        have t_523 : a_100 < h_491.size := Nat.lt_of_lt_of_le t_483 E_494.1
        have t_524 : a_127 < h_491.size := Nat.lt_of_lt_of_le t_484 E_494.1
        have t_525 : a_167 < h_491.size := Nat.lt_of_lt_of_le t_485 E_494.1
        have t_526 : a_208 < h_491.size := Nat.lt_of_lt_of_le t_486 E_494.1
        have t_527 : a_230 < h_491.size := Nat.lt_of_lt_of_le t_487 E_494.1
        have t_528 : a_327 < h_491.size := Nat.lt_of_lt_of_le t_488 E_494.1
        have t_529 : a_420 < h_491.size := Nat.lt_of_lt_of_le t_489 E_494.1
        have z_530 : n0 ≤ h_491.size := Nat.le_trans z_490 E_494.1
        have t_531 : a_492 < h_491.size := A_495.lt
        have f_532 : Fld Z h_491 a_492 "com/example/doppelgrep/doppelgrep/engine/Group" "tokens" "I" (.int (0 : Int32)) := D_496 (Or.inr (hw _ (List.mem_of_getElem? (i := 18) rfl))) (ty := .int) (by decide)
        have f_533 : Fld Z h_491 a_492 "com/example/doppelgrep/doppelgrep/engine/Group" "starts" "[I" .null := D_496 (Or.inr (hw _ (List.mem_of_getElem? (i := 20) rfl))) (ty := (.array .int)) (by decide)
        have f_534 : Fld Z h_491 a_492 "com/example/doppelgrep/doppelgrep/engine/Group" "ends" "[I" .null := D_496 (Or.inr (hw _ (List.mem_of_getElem? (i := 22) rfl))) (ty := (.array .int)) (by decide)
        have f_535 : Fld Z h_491 a_492 "com/example/doppelgrep/doppelgrep/engine/Group" "gapped" "Z" (.int (0 : Int32)) := D_496 (Or.inr (hw _ (List.mem_of_getElem? (i := 24) rfl))) (ty := .boolean) (by decide)
        have f_536 : Fld Z h_491 a_492 "com/example/doppelgrep/doppelgrep/engine/Group" "runs" "[[I" .null := D_496 (Or.inr (hw _ (List.mem_of_getElem? (i := 26) rfl))) (ty := (.array (.array .int))) (by decide)
        refine Go.dup (pc' := 166) at_165 rfl rfl ?_
        refine Go.iloadN (pc' := 167) at_166 rfl rfl ?_
        refine Go.aload (pc' := 169) at_167 rfl rfl rfl ?_
        refine Go.aload (pc' := 171) at_169 rfl rfl rfl ?_
        refine Go.iload (pc' := 173) at_171 rfl rfl ?_
        refine Go.callN (pc' := 176) (argsL := [(.int t0), (.ref a_100), (.ref a_127), (.int s)]) (rest := [(.ref a_492)]) (W := 1) rfl (hw _ (List.mem_of_getElem? (i := 27) rfl)) (hw _ (List.mem_of_getElem? (i := 28) rfl)) (hw _ (List.mem_of_getElem? (i := 7) rfl)) (hw _ (List.mem_of_getElem? (i := 29) rfl)) (by decide) (m_four l Z a0 hw a_492 t0 (.ref a_100) (.ref a_127) s h_491 n0 z_530 A_495 f_532 f_533 f_534 f_535 f_536 g_504 rfl rfl hs) at_173 rfl pd2 rfl rfl (Nat.le_of_eq rfl) (by decide) (by decide) (by decide) (by decide) rfl ?_
        rintro _ h_537 ⟨rfl, K_538, E_539, F_540, F_541, F_542, F_543, F_544⟩
        have f_545 : Exa Z h_537 a_100 "[I" := f_505.sm (Sm.keep K_538 (ninS n_497 nin0))
        have f_546 : Ary Z h_537 a_100 .int [(.int x0), (.int (x0 + (1 : Int32))), (.int (x0 + (2 : Int32)))] := f_506.sm (Sm.keep K_538 (ninS n_497 nin0))
        have f_547 : Exa Z h_537 a_127 "[I" := f_507.sm (Sm.keep K_538 (ninS n_498 nin0))
        have f_548 : Ary Z h_537 a_127 .int [(.int x1), (.int (x1 + (1 : Int32))), (.int (x1 + (2 : Int32)))] := f_508.sm (Sm.keep K_538 (ninS n_498 nin0))
        have f_549 : Exa Z h_537 a_167 "[I" := f_509.sm (Sm.keep K_538 (ninS n_499 nin0))
        have f_550 : Ary Z h_537 a_167 .int [(.int x0), (.int x1)] := f_510.sm (Sm.keep K_538 (ninS n_499 nin0))
        have f_551 : Ary Z h_537 a_208 .int [] := f_511.sm (Sm.keep K_538 (ninS n_500 nin0))
        have f_552 : Exa Z h_537 a_208 "[I" := f_512.sm (Sm.keep K_538 (ninS n_500 nin0))
        have f_553 : Exa Z h_537 a_230 "[I" := f_513.sm (Sm.keep K_538 (ninS n_501 nin0))
        have f_554 : Ary Z h_537 a_230 .int [(.int x0), (.int x0), (.int x1), (.int x1)] := f_514.sm (Sm.keep K_538 (ninS n_501 nin0))
        have f_555 : Ova Z h_537 a_327 .int "[I" := f_515.sm (Sm.keep K_538 (ninS n_502 nin0))
        have f_556 : Ary Z h_537 a_327 (.array .int) [(.ref a_167), (.ref a_208), (.ref a_230)] := f_516.sm (Sm.keep K_538 (ninS n_502 nin0))
        have f_557 : Exa Z h_537 a_420 "com/example/doppelgrep/doppelgrep/engine/Group" := f_517.sm (Sm.keep K_538 (ninS n_503 nin0))
        have f_558 : Fld Z h_537 a_420 "com/example/doppelgrep/doppelgrep/engine/Group" "tokens" "I" (.int t0) := f_518.sm (Sm.keep K_538 (ninS n_503 nin0))
        have f_559 : Fld Z h_537 a_420 "com/example/doppelgrep/doppelgrep/engine/Group" "starts" "[I" (.ref a_100) := f_519.sm (Sm.keep K_538 (ninS n_503 nin0))
        have f_560 : Fld Z h_537 a_420 "com/example/doppelgrep/doppelgrep/engine/Group" "ends" "[I" .null := f_520.sm (Sm.keep K_538 (ninS n_503 nin0))
        have f_561 : Fld Z h_537 a_420 "com/example/doppelgrep/doppelgrep/engine/Group" "gapped" "Z" (.int (0 : Int32)) := f_521.sm (Sm.keep K_538 (ninS n_503 nin0))
        have f_562 : Fld Z h_537 a_420 "com/example/doppelgrep/doppelgrep/engine/Group" "runs" "[[I" .null := f_522.sm (Sm.keep K_538 (ninS n_503 nin0))
        have f_563 : Exa Z h_537 a_492 "com/example/doppelgrep/doppelgrep/engine/Group" := A_495.keep K_538
        have t_569 : a_100 < h_537.size := Nat.lt_of_lt_of_le t_523 K_538.1
        have t_570 : a_127 < h_537.size := Nat.lt_of_lt_of_le t_524 K_538.1
        have t_571 : a_167 < h_537.size := Nat.lt_of_lt_of_le t_525 K_538.1
        have t_572 : a_208 < h_537.size := Nat.lt_of_lt_of_le t_526 K_538.1
        have t_573 : a_230 < h_537.size := Nat.lt_of_lt_of_le t_527 K_538.1
        have t_574 : a_327 < h_537.size := Nat.lt_of_lt_of_le t_528 K_538.1
        have t_575 : a_420 < h_537.size := Nat.lt_of_lt_of_le t_529 K_538.1
        have t_576 : a_492 < h_537.size := Nat.lt_of_lt_of_le t_531 K_538.1
        have z_577 : n0 ≤ h_537.size := Nat.le_trans z_530 K_538.1
        show (Go false l room_1 Z x code maxLocals ret n0 32 128 (fun v h => v = some (.int 1))) h_537 (0 + 1 + 1 + 1 + 1 + 1 + 1 + 1 + 0 + 1 + 0) (0 + 3 + 3 + 2 + 0 + 4 + 3 + 5 + 0 + 5 + 0) 176 #[.val (.int t0), .val (.int p0), .val (.int x0), .val (.int x1), .val (.int g0), .val (.int p_97), .val (.ref a_100), .val (.ref a_127), .val (.ref a_167), .val (.ref a_208), .val (.ref a_230), .val (.ref a_327), .val (.int s), .val (.ref a_127), .val (.ref a_420), .unset, .unset, .unset] [(.ref a_492)]
        refine Go.astore (pc' := 178) (Ls' := #[.val (.int t0), .val (.int p0), .val (.int x0), .val (.int x1), .val (.int g0), .val (.int p_97), .val (.ref a_100), .val (.ref a_127), .val (.ref a_167), .val (.ref a_208), .val (.ref a_230), .val (.ref a_327), .val (.int s), .val (.ref a_127), .val (.ref a_420), .val (.ref a_492), .unset, .unset]) at_176 rfl rfl rfl ?_
        refine Go.newO (pc' := 181) (hw _ (List.mem_of_getElem? (i := 5) rfl)) (hw _ (List.mem_of_getElem? (i := 6) rfl)) (hw _ (List.mem_of_getElem? (i := 7) rfl)) at_178 (by decide) (by decide) rfl ?_
        intro h_578 a_579 q_580 E_581 A_582 D_583
        have n_584 : a_100 ≠ a_579 := Nat.ne_of_lt (q_580 ▸ t_569)
        have n_585 : a_127 ≠ a_579 := Nat.ne_of_lt (q_580 ▸ t_570)
        have n_586 : a_167 ≠ a_579 := Nat.ne_of_lt (q_580 ▸ t_571)
        have n_587 : a_208 ≠ a_579 := Nat.ne_of_lt (q_580 ▸ t_572)
        have n_588 : a_230 ≠ a_579 := Nat.ne_of_lt (q_580 ▸ t_573)
        have n_589 : a_327 ≠ a_579 := Nat.ne_of_lt (q_580 ▸ t_574)
        have n_590 : a_420 ≠ a_579 := Nat.ne_of_lt (q_580 ▸ t_575)
        have n_591 : a_492 ≠ a_579 := Nat.ne_of_lt (q_580 ▸ t_576)
        have g_592 : n0 ≤ a_579 := q_580 ▸ z_577
        have f_593 : Exa Z h_578 a_100 "[I" := f_545.sm (Sm.ext E_581)
        have f_594 : Ary Z h_578 a_100 .int [(.int x0), (.int (x0 + (1 : Int32))), (.int (x0 + (2 : Int32)))] := f_546.sm (Sm.ext E_581)
        have f_595 : Exa Z h_578 a_127 "[I" := f_547.sm (Sm.ext E_581)
        have f_596 : Ary Z h_578 a_127 .int [(.int x1), (.int (x1 + (1 : Int32))), (.int (x1 + (2 : Int32)))] := f_548.sm (Sm.ext E_581)
        have f_597 : Exa Z h_578 a_167 "[I" := f_549.sm (Sm.ext E_581)
        have f_598 : Ary Z h_578 a_167 .int [(.int x0), (.int x1)] := f_550.sm (Sm.ext E_581)
        have f_599 : Ary Z h_578 a_208 .int [] := f_551.sm (Sm.ext E_581)
        have f_600 : Exa Z h_578 a_208 "[I" := f_552.sm (Sm.ext E_581)
        have f_601 : Exa Z h_578 a_230 "[I" := f_553.sm (Sm.ext E_581)
        have f_602 : Ary Z h_578 a_230 .int [(.int x0), (.int x0), (.int x1), (.int x1)] := f_554.sm (Sm.ext E_581)
        have f_603 : Ova Z h_578 a_327 .int "[I" := f_555.sm (Sm.ext E_581)
        have f_604 : Ary Z h_578 a_327 (.array .int) [(.ref a_167), (.ref a_208), (.ref a_230)] := f_556.sm (Sm.ext E_581)
        have f_605 : Exa Z h_578 a_420 "com/example/doppelgrep/doppelgrep/engine/Group" := f_557.sm (Sm.ext E_581)
        have f_606 : Fld Z h_578 a_420 "com/example/doppelgrep/doppelgrep/engine/Group" "tokens" "I" (.int t0) := f_558.sm (Sm.ext E_581)
        have f_607 : Fld Z h_578 a_420 "com/example/doppelgrep/doppelgrep/engine/Group" "starts" "[I" (.ref a_100) := f_559.sm (Sm.ext E_581)
        have f_608 : Fld Z h_578 a_420 "com/example/doppelgrep/doppelgrep/engine/Group" "ends" "[I" .null := f_560.sm (Sm.ext E_581)
        have f_609 : Fld Z h_578 a_420 "com/example/doppelgrep/doppelgrep/engine/Group" "gapped" "Z" (.int (0 : Int32)) := f_561.sm (Sm.ext E_581)
        have f_610 : Fld Z h_578 a_420 "com/example/doppelgrep/doppelgrep/engine/Group" "runs" "[[I" .null := f_562.sm (Sm.ext E_581)
        have f_611 : Exa Z h_578 a_492 "com/example/doppelgrep/doppelgrep/engine/Group" := f_563.sm (Sm.ext E_581)
        have f_612 : Fld Z h_578 a_492 "com/example/doppelgrep/doppelgrep/engine/Group" "tokens" "I" (.int t0) := F_540.sm (Sm.ext E_581)
        have f_613 : Fld Z h_578 a_492 "com/example/doppelgrep/doppelgrep/engine/Group" "starts" "[I" (.ref a_100) := F_541.sm (Sm.ext E_581)
        have f_614 : Fld Z h_578 a_492 "com/example/doppelgrep/doppelgrep/engine/Group" "ends" "[I" (.ref a_127) := F_542.sm (Sm.ext E_581)
        have f_615 : Fld Z h_578 a_492 "com/example/doppelgrep/doppelgrep/engine/Group" "gapped" "Z" (.int s) := F_543.sm (Sm.ext E_581)
        have f_616 : Fld Z h_578 a_492 "com/example/doppelgrep/doppelgrep/engine/Group" "runs" "[[I" .null := F_544.sm (Sm.ext E_581)
        have t_617 : a_100 < h_578.size := Nat.lt_of_lt_of_le t_569 E_581.1
        have t_618 : a_127 < h_578.size := Nat.lt_of_lt_of_le t_570 E_581.1
        have t_619 : a_167 < h_578.size := Nat.lt_of_lt_of_le t_571 E_581.1
        have t_620 : a_208 < h_578.size := Nat.lt_of_lt_of_le t_572 E_581.1
        have t_621 : a_230 < h_578.size := Nat.lt_of_lt_of_le t_573 E_581.1
        have t_622 : a_327 < h_578.size := Nat.lt_of_lt_of_le t_574 E_581.1
        have t_623 : a_420 < h_578.size := Nat.lt_of_lt_of_le t_575 E_581.1
        have t_624 : a_492 < h_578.size := Nat.lt_of_lt_of_le t_576 E_581.1
        have z_625 : n0 ≤ h_578.size := Nat.le_trans z_577 E_581.1
        have t_626 : a_579 < h_578.size := A_582.lt
        have f_627 : Fld Z h_578 a_579 "com/example/doppelgrep/doppelgrep/engine/Group" "tokens" "I" (.int (0 : Int32)) := D_583 (Or.inr (hw _ (List.mem_of_getElem? (i := 18) rfl))) (ty := .int) (by decide)
        have f_628 : Fld Z h_578 a_579 "com/example/doppelgrep/doppelgrep/engine/Group" "starts" "[I" .null := D_583 (Or.inr (hw _ (List.mem_of_getElem? (i := 20) rfl))) (ty := (.array .int)) (by decide)
        have f_629 : Fld Z h_578 a_579 "com/example/doppelgrep/doppelgrep/engine/Group" "ends" "[I" .null := D_583 (Or.inr (hw _ (List.mem_of_getElem? (i := 22) rfl))) (ty := (.array .int)) (by decide)
        have f_630 : Fld Z h_578 a_579 "com/example/doppelgrep/doppelgrep/engine/Group" "gapped" "Z" (.int (0 : Int32)) := D_583 (Or.inr (hw _ (List.mem_of_getElem? (i := 24) rfl))) (ty := .boolean) (by decide)
        have f_631 : Fld Z h_578 a_579 "com/example/doppelgrep/doppelgrep/engine/Group" "runs" "[[I" .null := D_583 (Or.inr (hw _ (List.mem_of_getElem? (i := 26) rfl))) (ty := (.array (.array .int))) (by decide)
        refine Go.dup (pc' := 182) at_181 rfl rfl ?_
        refine Go.iloadN (pc' := 183) at_182 rfl rfl ?_
        refine Go.aload (pc' := 185) at_183 rfl rfl rfl ?_
        refine Go.aload (pc' := 187) at_185 rfl rfl rfl ?_
        refine Go.iload (pc' := 189) at_187 rfl rfl ?_
        refine Go.aload (pc' := 191) at_189 rfl rfl rfl ?_
        refine Go.callN (pc' := 194) (argsL := [(.int t0), (.ref a_100), (.ref a_127), (.int s), (.ref a_327)]) (rest := [(.ref a_579)]) (W := 1) rfl (hw _ (List.mem_of_getElem? (i := 30) rfl)) (hw _ (List.mem_of_getElem? (i := 12) rfl)) (hw _ (List.mem_of_getElem? (i := 7) rfl)) (hw _ (List.mem_of_getElem? (i := 13) rfl)) (by decide) (m_full l Z a0 hw a_579 t0 (.ref a_100) (.ref a_127) s (.ref a_327) h_578 n0 z_625 A_582 f_627 f_628 f_629 f_630 f_631 g_592 rfl rfl hs rfl) at_191 rfl pd0 rfl rfl (Nat.le_of_eq rfl) (by decide) (by decide) (by decide) (by decide) rfl ?_
        rintro _ h_632 ⟨rfl, K_633, E_634, F_635, F_636, F_637, F_638, F_639⟩
        have f_640 : Exa Z h_632 a_100 "[I" := f_593.sm (Sm.keep K_633 (ninS n_584 nin0))
        have f_641 : Ary Z h_632 a_100 .int [(.int x0), (.int (x0 + (1 : Int32))), (.int (x0 + (2 : Int32)))] := f_594.sm (Sm.keep K_633 (ninS n_584 nin0))
        have f_642 : Exa Z h_632 a_127 "[I" := f_595.sm (Sm.keep K_633 (ninS n_585 nin0))
        have f_643 : Ary Z h_632 a_127 .int [(.int x1), (.int (x1 + (1 : Int32))), (.int (x1 + (2 : Int32)))] := f_596.sm (Sm.keep K_633 (ninS n_585 nin0))
        have f_644 : Exa Z h_632 a_167 "[I" := f_597.sm (Sm.keep K_633 (ninS n_586 nin0))
        have f_645 : Ary Z h_632 a_167 .int [(.int x0), (.int x1)] := f_598.sm (Sm.keep K_633 (ninS n_586 nin0))
        have f_646 : Ary Z h_632 a_208 .int [] := f_599.sm (Sm.keep K_633 (ninS n_587 nin0))
        have f_647 : Exa Z h_632 a_208 "[I" := f_600.sm (Sm.keep K_633 (ninS n_587 nin0))
        have f_648 : Exa Z h_632 a_230 "[I" := f_601.sm (Sm.keep K_633 (ninS n_588 nin0))
        have f_649 : Ary Z h_632 a_230 .int [(.int x0), (.int x0), (.int x1), (.int x1)] := f_602.sm (Sm.keep K_633 (ninS n_588 nin0))
        have f_650 : Ova Z h_632 a_327 .int "[I" := f_603.sm (Sm.keep K_633 (ninS n_589 nin0))
        have f_651 : Ary Z h_632 a_327 (.array .int) [(.ref a_167), (.ref a_208), (.ref a_230)] := f_604.sm (Sm.keep K_633 (ninS n_589 nin0))
        have f_652 : Exa Z h_632 a_420 "com/example/doppelgrep/doppelgrep/engine/Group" := f_605.sm (Sm.keep K_633 (ninS n_590 nin0))
        have f_653 : Fld Z h_632 a_420 "com/example/doppelgrep/doppelgrep/engine/Group" "tokens" "I" (.int t0) := f_606.sm (Sm.keep K_633 (ninS n_590 nin0))
        have f_654 : Fld Z h_632 a_420 "com/example/doppelgrep/doppelgrep/engine/Group" "starts" "[I" (.ref a_100) := f_607.sm (Sm.keep K_633 (ninS n_590 nin0))
        have f_655 : Fld Z h_632 a_420 "com/example/doppelgrep/doppelgrep/engine/Group" "ends" "[I" .null := f_608.sm (Sm.keep K_633 (ninS n_590 nin0))
        have f_656 : Fld Z h_632 a_420 "com/example/doppelgrep/doppelgrep/engine/Group" "gapped" "Z" (.int (0 : Int32)) := f_609.sm (Sm.keep K_633 (ninS n_590 nin0))
        have f_657 : Fld Z h_632 a_420 "com/example/doppelgrep/doppelgrep/engine/Group" "runs" "[[I" .null := f_610.sm (Sm.keep K_633 (ninS n_590 nin0))
        have f_658 : Exa Z h_632 a_492 "com/example/doppelgrep/doppelgrep/engine/Group" := f_611.sm (Sm.keep K_633 (ninS n_591 nin0))
        have f_659 : Fld Z h_632 a_492 "com/example/doppelgrep/doppelgrep/engine/Group" "tokens" "I" (.int t0) := f_612.sm (Sm.keep K_633 (ninS n_591 nin0))
        have f_660 : Fld Z h_632 a_492 "com/example/doppelgrep/doppelgrep/engine/Group" "starts" "[I" (.ref a_100) := f_613.sm (Sm.keep K_633 (ninS n_591 nin0))
        have f_661 : Fld Z h_632 a_492 "com/example/doppelgrep/doppelgrep/engine/Group" "ends" "[I" (.ref a_127) := f_614.sm (Sm.keep K_633 (ninS n_591 nin0))
        have f_662 : Fld Z h_632 a_492 "com/example/doppelgrep/doppelgrep/engine/Group" "gapped" "Z" (.int s) := f_615.sm (Sm.keep K_633 (ninS n_591 nin0))
        have f_663 : Fld Z h_632 a_492 "com/example/doppelgrep/doppelgrep/engine/Group" "runs" "[[I" .null := f_616.sm (Sm.keep K_633 (ninS n_591 nin0))
        have f_664 : Exa Z h_632 a_579 "com/example/doppelgrep/doppelgrep/engine/Group" := A_582.keep K_633
        have t_670 : a_100 < h_632.size := Nat.lt_of_lt_of_le t_617 K_633.1
        have t_671 : a_127 < h_632.size := Nat.lt_of_lt_of_le t_618 K_633.1
        have t_672 : a_167 < h_632.size := Nat.lt_of_lt_of_le t_619 K_633.1
        have t_673 : a_208 < h_632.size := Nat.lt_of_lt_of_le t_620 K_633.1
        have t_674 : a_230 < h_632.size := Nat.lt_of_lt_of_le t_621 K_633.1
        have t_675 : a_327 < h_632.size := Nat.lt_of_lt_of_le t_622 K_633.1
        have t_676 : a_420 < h_632.size := Nat.lt_of_lt_of_le t_623 K_633.1
        have t_677 : a_492 < h_632.size := Nat.lt_of_lt_of_le t_624 K_633.1
        have t_678 : a_579 < h_632.size := Nat.lt_of_lt_of_le t_626 K_633.1
        have z_679 : n0 ≤ h_632.size := Nat.le_trans z_625 K_633.1
        show (Go false l room_1 Z x code maxLocals ret n0 32 128 (fun v h => v = some (.int 1))) h_632 (0 + 1 + 1 + 1 + 1 + 1 + 1 + 1 + 0 + 1 + 0 + 1 + 0) (0 + 3 + 3 + 2 + 0 + 4 + 3 + 5 + 0 + 5 + 0 + 5 + 0) 194 #[.val (.int t0), .val (.int p0), .val (.int x0), .val (.int x1), .val (.int g0), .val (.int p_97), .val (.ref a_100), .val (.ref a_127), .val (.ref a_167), .val (.ref a_208), .val (.ref a_230), .val (.ref a_327), .val (.int s), .val (.ref a_127), .val (.ref a_420), .val (.ref a_492), .unset, .unset] [(.ref a_579)]
        refine Go.astore (pc' := 196) (Ls' := #[.val (.int t0), .val (.int p0), .val (.int x0), .val (.int x1), .val (.int g0), .val (.int p_97), .val (.ref a_100), .val (.ref a_127), .val (.ref a_167), .val (.ref a_208), .val (.ref a_230), .val (.ref a_327), .val (.int s), .val (.ref a_127), .val (.ref a_420), .val (.ref a_492), .val (.ref a_579), .unset]) at_194 rfl rfl rfl ?_
        refine Go.iload (pc' := 198) at_196 rfl rfl ?_
        clear ep_97
        rcases k_98 with k_98 | k_98 | k_98
        · obtain rfl : p_97 = (0 : Int32) := Int32.toInt_inj.mp k_98
          refine Go.ifc (pc1 := 206) (pc2 := 201) at_198 (by decide) (by decide) rfl (fun (c_680 : (0 : Int) ≠ 0) => ?_) (fun (c_680 : (0 : Int) = 0) => ?_)
          · exact absurd c_680 (by decide)
          refine Go.aload (pc' := 203) at_201 rfl rfl rfl ?_
          refine Go.goto (pc' := 219) at_203 (by decide) (by decide) ?_
          refine Go.astore (pc' := 221) (Ls' := #[.val (.int t0), .val (.int p0), .val (.int x0), .val (.int x1), .val (.int g0), .val (.int (0 : Int32)), .val (.ref a_100), .val (.ref a_127), .val (.ref a_167), .val (.ref a_208), .val (.ref a_230), .val (.ref a_327), .val (.int s), .val (.ref a_127), .val (.ref a_420), .val (.ref a_492), .val (.ref a_579), .val (.ref a_167)]) at_219 rfl rfl rfl ?_
          refine Go.aload (pc' := 223) at_221 rfl rfl rfl ?_
          refine Go.iload (pc' := 225) at_223 rfl rfl ?_
          refine Go.callV (pc' := 228) (argsL := [(.int (0 : Int32))]) (rest := []) (W := 0) (hw _ (List.mem_of_getElem? (i := 31) rfl)) (hw _ (List.mem_of_getElem? (i := 32) rfl)) (hw _ (List.mem_of_getElem? (i := 34) rfl)) (hw _ (List.mem_of_getElem? (i := 33) rfl)) (hw _ (List.mem_of_getElem? (i := 7) rfl)) (hw _ (List.mem_of_getElem? (i := 35) rfl)) (by decide) f_652 (m_rN l Z a0 hw a_420 (0 : Int32) h_632 n0 z_679 f_657) at_225 rfl pd3 rfl rfl (Nat.le_of_eq rfl) (by decide) (by decide) (by decide) (by decide) rfl ?_
          rintro _ _ ⟨rfl, rfl⟩
          show (Go false l room_1 Z x code maxLocals ret n0 32 128 (fun v h => v = some (.int 1))) h_632 (0 + 1 + 1 + 1 + 1 + 1 + 1 + 1 + 0 + 1 + 0 + 1 + 0 + 0) (0 + 3 + 3 + 2 + 0 + 4 + 3 + 5 + 0 + 5 + 0 + 5 + 0 + 0) 228 #[.val (.int t0), .val (.int p0), .val (.int x0), .val (.int x1), .val (.int g0), .val (.int (0 : Int32)), .val (.ref a_100), .val (.ref a_127), .val (.ref a_167), .val (.ref a_208), .val (.ref a_230), .val (.ref a_327), .val (.int s), .val (.ref a_127), .val (.ref a_420), .val (.ref a_492), .val (.ref a_579), .val (.ref a_167)] [.null]
          refine Go.nonnullNo (pc' := 231) at_228 rfl ?_
          refine Go.aload (pc' := 233) at_231 rfl rfl rfl ?_
          refine Go.iload (pc' := 235) at_233 rfl rfl ?_
          refine Go.callV (pc' := 238) (argsL := [(.int (0 : Int32))]) (rest := []) (W := 0) (hw _ (List.mem_of_getElem? (i := 31) rfl)) (hw _ (List.mem_of_getElem? (i := 32) rfl)) (hw _ (List.mem_of_getElem? (i := 34) rfl)) (hw _ (List.mem_of_getElem? (i := 33) rfl)) (hw _ (List.mem_of_getElem? (i := 7) rfl)) (hw _ (List.mem_of_getElem? (i := 35) rfl)) (by decide) f_658 (m_rN l Z a0 hw a_492 (0 : Int32) h_632 n0 z_679 f_663) at_235 rfl pd3 rfl rfl (Nat.le_of_eq rfl) (by decide) (by decide) (by decide) (by decide) rfl ?_
          rintro _ _ ⟨rfl, rfl⟩
          show (Go false l room_1 Z x code maxLocals ret n0 32 128 (fun v h => v = some (.int 1))) h_632 (0 + 1 + 1 + 1 + 1 + 1 + 1 + 1 + 0 + 1 + 0 + 1 + 0 + 0 + 0) (0 + 3 + 3 + 2 + 0 + 4 + 3 + 5 + 0 + 5 + 0 + 5 + 0 + 0 + 0) 238 #[.val (.int t0), .val (.int p0), .val (.int x0), .val (.int x1), .val (.int g0), .val (.int (0 : Int32)), .val (.ref a_100), .val (.ref a_127), .val (.ref a_167), .val (.ref a_208), .val (.ref a_230), .val (.ref a_327), .val (.int s), .val (.ref a_127), .val (.ref a_420), .val (.ref a_492), .val (.ref a_579), .val (.ref a_167)] [.null]
          refine Go.nonnullNo (pc' := 241) at_238 rfl ?_
          refine Go.aload (pc' := 243) at_241 rfl rfl rfl ?_
          refine Go.iload (pc' := 245) at_243 rfl rfl ?_
          refine Go.callV (pc' := 248) (argsL := [(.int (0 : Int32))]) (rest := []) (W := 0) (hw _ (List.mem_of_getElem? (i := 31) rfl)) (hw _ (List.mem_of_getElem? (i := 32) rfl)) (hw _ (List.mem_of_getElem? (i := 34) rfl)) (hw _ (List.mem_of_getElem? (i := 33) rfl)) (hw _ (List.mem_of_getElem? (i := 7) rfl)) (hw _ (List.mem_of_getElem? (i := 35) rfl)) (by decide) f_664 (m_rR l Z a0 hw a_579 a_327 (0 : Int32) (.ref a_167) 0 [(.ref a_167), (.ref a_208), (.ref a_230)] h_632 n0 z_679 F_639 f_651 rfl rfl rfl) at_245 rfl pd3 rfl rfl (Nat.le_of_eq rfl) (by decide) (by decide) (by decide) (by decide) rfl ?_
          rintro _ _ ⟨rfl, rfl⟩
          show (Go false l room_1 Z x code maxLocals ret n0 32 128 (fun v h => v = some (.int 1))) h_632 (0 + 1 + 1 + 1 + 1 + 1 + 1 + 1 + 0 + 1 + 0 + 1 + 0 + 0 + 0 + 0) (0 + 3 + 3 + 2 + 0 + 4 + 3 + 5 + 0 + 5 + 0 + 5 + 0 + 0 + 0 + 0) 248 #[.val (.int t0), .val (.int p0), .val (.int x0), .val (.int x1), .val (.int g0), .val (.int (0 : Int32)), .val (.ref a_100), .val (.ref a_127), .val (.ref a_167), .val (.ref a_208), .val (.ref a_230), .val (.ref a_327), .val (.int s), .val (.ref a_127), .val (.ref a_420), .val (.ref a_492), .val (.ref a_579), .val (.ref a_167)] [(.ref a_167)]
          refine Go.aload (pc' := 250) at_248 rfl rfl rfl ?_
          refine Go.acmp (pc1 := 253) (pc2 := 257) at_250 rfl rfl (by decide) (by decide) (by decide) (fun c_681 => ?_) (fun c_681 => absurd rfl c_681)
          refine Go.iconst (pc' := 254) (v := (1 : Int32)) at_253 rfl rfl ?_
          refine Go.goto (pc' := 258) at_254 (by decide) (by decide) ?_
          exact Go.retN (t := .boolean) at_258 rfl (by simp) rfl rfl (by decide) (by decide)
        · obtain rfl : p_97 = (1 : Int32) := Int32.toInt_inj.mp k_98
          refine Go.ifc (pc1 := 206) (pc2 := 201) at_198 (by decide) (by decide) rfl (fun (c_682 : (1 : Int) ≠ 0) => ?_) (fun (c_682 : (1 : Int) = 0) => ?_)
          rotate_left
          · exact absurd c_682 (by decide)
          refine Go.iload (pc' := 208) at_206 rfl rfl ?_
          refine Go.iconst (pc' := 209) (v := (1 : Int32)) at_208 rfl rfl ?_
          refine Go.icmp (pc1 := 217) (pc2 := 212) at_209 (by decide) (by decide) rfl (fun (c_683 : (1 : Int) ≠ (1 : Int)) => ?_) (fun (c_683 : (1 : Int) = (1 : Int)) => ?_)
          · exact absurd c_683 (by decide)
          refine Go.aload (pc' := 214) at_212 rfl rfl rfl ?_
          refine Go.goto (pc' := 219) at_214 (by decide) (by decide) ?_
          refine Go.astore (pc' := 221) (Ls' := #[.val (.int t0), .val (.int p0), .val (.int x0), .val (.int x1), .val (.int g0), .val (.int (1 : Int32)), .val (.ref a_100), .val (.ref a_127), .val (.ref a_167), .val (.ref a_208), .val (.ref a_230), .val (.ref a_327), .val (.int s), .val (.ref a_127), .val (.ref a_420), .val (.ref a_492), .val (.ref a_579), .val (.ref a_208)]) at_219 rfl rfl rfl ?_
          refine Go.aload (pc' := 223) at_221 rfl rfl rfl ?_
          refine Go.iload (pc' := 225) at_223 rfl rfl ?_
          refine Go.callV (pc' := 228) (argsL := [(.int (1 : Int32))]) (rest := []) (W := 0) (hw _ (List.mem_of_getElem? (i := 31) rfl)) (hw _ (List.mem_of_getElem? (i := 32) rfl)) (hw _ (List.mem_of_getElem? (i := 34) rfl)) (hw _ (List.mem_of_getElem? (i := 33) rfl)) (hw _ (List.mem_of_getElem? (i := 7) rfl)) (hw _ (List.mem_of_getElem? (i := 35) rfl)) (by decide) f_652 (m_rN l Z a0 hw a_420 (1 : Int32) h_632 n0 z_679 f_657) at_225 rfl pd3 rfl rfl (Nat.le_of_eq rfl) (by decide) (by decide) (by decide) (by decide) rfl ?_
          rintro _ _ ⟨rfl, rfl⟩
          show (Go false l room_1 Z x code maxLocals ret n0 32 128 (fun v h => v = some (.int 1))) h_632 (0 + 1 + 1 + 1 + 1 + 1 + 1 + 1 + 0 + 1 + 0 + 1 + 0 + 0) (0 + 3 + 3 + 2 + 0 + 4 + 3 + 5 + 0 + 5 + 0 + 5 + 0 + 0) 228 #[.val (.int t0), .val (.int p0), .val (.int x0), .val (.int x1), .val (.int g0), .val (.int (1 : Int32)), .val (.ref a_100), .val (.ref a_127), .val (.ref a_167), .val (.ref a_208), .val (.ref a_230), .val (.ref a_327), .val (.int s), .val (.ref a_127), .val (.ref a_420), .val (.ref a_492), .val (.ref a_579), .val (.ref a_208)] [.null]
          refine Go.nonnullNo (pc' := 231) at_228 rfl ?_
          refine Go.aload (pc' := 233) at_231 rfl rfl rfl ?_
          refine Go.iload (pc' := 235) at_233 rfl rfl ?_
          refine Go.callV (pc' := 238) (argsL := [(.int (1 : Int32))]) (rest := []) (W := 0) (hw _ (List.mem_of_getElem? (i := 31) rfl)) (hw _ (List.mem_of_getElem? (i := 32) rfl)) (hw _ (List.mem_of_getElem? (i := 34) rfl)) (hw _ (List.mem_of_getElem? (i := 33) rfl)) (hw _ (List.mem_of_getElem? (i := 7) rfl)) (hw _ (List.mem_of_getElem? (i := 35) rfl)) (by decide) f_658 (m_rN l Z a0 hw a_492 (1 : Int32) h_632 n0 z_679 f_663) at_235 rfl pd3 rfl rfl (Nat.le_of_eq rfl) (by decide) (by decide) (by decide) (by decide) rfl ?_
          rintro _ _ ⟨rfl, rfl⟩
          show (Go false l room_1 Z x code maxLocals ret n0 32 128 (fun v h => v = some (.int 1))) h_632 (0 + 1 + 1 + 1 + 1 + 1 + 1 + 1 + 0 + 1 + 0 + 1 + 0 + 0 + 0) (0 + 3 + 3 + 2 + 0 + 4 + 3 + 5 + 0 + 5 + 0 + 5 + 0 + 0 + 0) 238 #[.val (.int t0), .val (.int p0), .val (.int x0), .val (.int x1), .val (.int g0), .val (.int (1 : Int32)), .val (.ref a_100), .val (.ref a_127), .val (.ref a_167), .val (.ref a_208), .val (.ref a_230), .val (.ref a_327), .val (.int s), .val (.ref a_127), .val (.ref a_420), .val (.ref a_492), .val (.ref a_579), .val (.ref a_208)] [.null]
          refine Go.nonnullNo (pc' := 241) at_238 rfl ?_
          refine Go.aload (pc' := 243) at_241 rfl rfl rfl ?_
          refine Go.iload (pc' := 245) at_243 rfl rfl ?_
          refine Go.callV (pc' := 248) (argsL := [(.int (1 : Int32))]) (rest := []) (W := 0) (hw _ (List.mem_of_getElem? (i := 31) rfl)) (hw _ (List.mem_of_getElem? (i := 32) rfl)) (hw _ (List.mem_of_getElem? (i := 34) rfl)) (hw _ (List.mem_of_getElem? (i := 33) rfl)) (hw _ (List.mem_of_getElem? (i := 7) rfl)) (hw _ (List.mem_of_getElem? (i := 35) rfl)) (by decide) f_664 (m_rR l Z a0 hw a_579 a_327 (1 : Int32) (.ref a_208) 1 [(.ref a_167), (.ref a_208), (.ref a_230)] h_632 n0 z_679 F_639 f_651 rfl rfl rfl) at_245 rfl pd3 rfl rfl (Nat.le_of_eq rfl) (by decide) (by decide) (by decide) (by decide) rfl ?_
          rintro _ _ ⟨rfl, rfl⟩
          show (Go false l room_1 Z x code maxLocals ret n0 32 128 (fun v h => v = some (.int 1))) h_632 (0 + 1 + 1 + 1 + 1 + 1 + 1 + 1 + 0 + 1 + 0 + 1 + 0 + 0 + 0 + 0) (0 + 3 + 3 + 2 + 0 + 4 + 3 + 5 + 0 + 5 + 0 + 5 + 0 + 0 + 0 + 0) 248 #[.val (.int t0), .val (.int p0), .val (.int x0), .val (.int x1), .val (.int g0), .val (.int (1 : Int32)), .val (.ref a_100), .val (.ref a_127), .val (.ref a_167), .val (.ref a_208), .val (.ref a_230), .val (.ref a_327), .val (.int s), .val (.ref a_127), .val (.ref a_420), .val (.ref a_492), .val (.ref a_579), .val (.ref a_208)] [(.ref a_208)]
          refine Go.aload (pc' := 250) at_248 rfl rfl rfl ?_
          refine Go.acmp (pc1 := 253) (pc2 := 257) at_250 rfl rfl (by decide) (by decide) (by decide) (fun c_684 => ?_) (fun c_684 => absurd rfl c_684)
          refine Go.iconst (pc' := 254) (v := (1 : Int32)) at_253 rfl rfl ?_
          refine Go.goto (pc' := 258) at_254 (by decide) (by decide) ?_
          exact Go.retN (t := .boolean) at_258 rfl (by simp) rfl rfl (by decide) (by decide)
        · obtain rfl : p_97 = (2 : Int32) := Int32.toInt_inj.mp k_98
          refine Go.ifc (pc1 := 206) (pc2 := 201) at_198 (by decide) (by decide) rfl (fun (c_685 : (2 : Int) ≠ 0) => ?_) (fun (c_685 : (2 : Int) = 0) => ?_)
          rotate_left
          · exact absurd c_685 (by decide)
          refine Go.iload (pc' := 208) at_206 rfl rfl ?_
          refine Go.iconst (pc' := 209) (v := (1 : Int32)) at_208 rfl rfl ?_
          refine Go.icmp (pc1 := 217) (pc2 := 212) at_209 (by decide) (by decide) rfl (fun (c_686 : (2 : Int) ≠ (1 : Int)) => ?_) (fun (c_686 : (2 : Int) = (1 : Int)) => ?_)
          rotate_left
          · exact absurd c_686 (by decide)
          refine Go.aload (pc' := 219) at_217 rfl rfl rfl ?_
          refine Go.astore (pc' := 221) (Ls' := #[.val (.int t0), .val (.int p0), .val (.int x0), .val (.int x1), .val (.int g0), .val (.int (2 : Int32)), .val (.ref a_100), .val (.ref a_127), .val (.ref a_167), .val (.ref a_208), .val (.ref a_230), .val (.ref a_327), .val (.int s), .val (.ref a_127), .val (.ref a_420), .val (.ref a_492), .val (.ref a_579), .val (.ref a_230)]) at_219 rfl rfl rfl ?_
          refine Go.aload (pc' := 223) at_221 rfl rfl rfl ?_
          refine Go.iload (pc' := 225) at_223 rfl rfl ?_
          refine Go.callV (pc' := 228) (argsL := [(.int (2 : Int32))]) (rest := []) (W := 0) (hw _ (List.mem_of_getElem? (i := 31) rfl)) (hw _ (List.mem_of_getElem? (i := 32) rfl)) (hw _ (List.mem_of_getElem? (i := 34) rfl)) (hw _ (List.mem_of_getElem? (i := 33) rfl)) (hw _ (List.mem_of_getElem? (i := 7) rfl)) (hw _ (List.mem_of_getElem? (i := 35) rfl)) (by decide) f_652 (m_rN l Z a0 hw a_420 (2 : Int32) h_632 n0 z_679 f_657) at_225 rfl pd3 rfl rfl (Nat.le_of_eq rfl) (by decide) (by decide) (by decide) (by decide) rfl ?_
          rintro _ _ ⟨rfl, rfl⟩
          show (Go false l room_1 Z x code maxLocals ret n0 32 128 (fun v h => v = some (.int 1))) h_632 (0 + 1 + 1 + 1 + 1 + 1 + 1 + 1 + 0 + 1 + 0 + 1 + 0 + 0) (0 + 3 + 3 + 2 + 0 + 4 + 3 + 5 + 0 + 5 + 0 + 5 + 0 + 0) 228 #[.val (.int t0), .val (.int p0), .val (.int x0), .val (.int x1), .val (.int g0), .val (.int (2 : Int32)), .val (.ref a_100), .val (.ref a_127), .val (.ref a_167), .val (.ref a_208), .val (.ref a_230), .val (.ref a_327), .val (.int s), .val (.ref a_127), .val (.ref a_420), .val (.ref a_492), .val (.ref a_579), .val (.ref a_230)] [.null]
          refine Go.nonnullNo (pc' := 231) at_228 rfl ?_
          refine Go.aload (pc' := 233) at_231 rfl rfl rfl ?_
          refine Go.iload (pc' := 235) at_233 rfl rfl ?_
          refine Go.callV (pc' := 238) (argsL := [(.int (2 : Int32))]) (rest := []) (W := 0) (hw _ (List.mem_of_getElem? (i := 31) rfl)) (hw _ (List.mem_of_getElem? (i := 32) rfl)) (hw _ (List.mem_of_getElem? (i := 34) rfl)) (hw _ (List.mem_of_getElem? (i := 33) rfl)) (hw _ (List.mem_of_getElem? (i := 7) rfl)) (hw _ (List.mem_of_getElem? (i := 35) rfl)) (by decide) f_658 (m_rN l Z a0 hw a_492 (2 : Int32) h_632 n0 z_679 f_663) at_235 rfl pd3 rfl rfl (Nat.le_of_eq rfl) (by decide) (by decide) (by decide) (by decide) rfl ?_
          rintro _ _ ⟨rfl, rfl⟩
          show (Go false l room_1 Z x code maxLocals ret n0 32 128 (fun v h => v = some (.int 1))) h_632 (0 + 1 + 1 + 1 + 1 + 1 + 1 + 1 + 0 + 1 + 0 + 1 + 0 + 0 + 0) (0 + 3 + 3 + 2 + 0 + 4 + 3 + 5 + 0 + 5 + 0 + 5 + 0 + 0 + 0) 238 #[.val (.int t0), .val (.int p0), .val (.int x0), .val (.int x1), .val (.int g0), .val (.int (2 : Int32)), .val (.ref a_100), .val (.ref a_127), .val (.ref a_167), .val (.ref a_208), .val (.ref a_230), .val (.ref a_327), .val (.int s), .val (.ref a_127), .val (.ref a_420), .val (.ref a_492), .val (.ref a_579), .val (.ref a_230)] [.null]
          refine Go.nonnullNo (pc' := 241) at_238 rfl ?_
          refine Go.aload (pc' := 243) at_241 rfl rfl rfl ?_
          refine Go.iload (pc' := 245) at_243 rfl rfl ?_
          refine Go.callV (pc' := 248) (argsL := [(.int (2 : Int32))]) (rest := []) (W := 0) (hw _ (List.mem_of_getElem? (i := 31) rfl)) (hw _ (List.mem_of_getElem? (i := 32) rfl)) (hw _ (List.mem_of_getElem? (i := 34) rfl)) (hw _ (List.mem_of_getElem? (i := 33) rfl)) (hw _ (List.mem_of_getElem? (i := 7) rfl)) (hw _ (List.mem_of_getElem? (i := 35) rfl)) (by decide) f_664 (m_rR l Z a0 hw a_579 a_327 (2 : Int32) (.ref a_230) 2 [(.ref a_167), (.ref a_208), (.ref a_230)] h_632 n0 z_679 F_639 f_651 rfl rfl rfl) at_245 rfl pd3 rfl rfl (Nat.le_of_eq rfl) (by decide) (by decide) (by decide) (by decide) rfl ?_
          rintro _ _ ⟨rfl, rfl⟩
          show (Go false l room_1 Z x code maxLocals ret n0 32 128 (fun v h => v = some (.int 1))) h_632 (0 + 1 + 1 + 1 + 1 + 1 + 1 + 1 + 0 + 1 + 0 + 1 + 0 + 0 + 0 + 0) (0 + 3 + 3 + 2 + 0 + 4 + 3 + 5 + 0 + 5 + 0 + 5 + 0 + 0 + 0 + 0) 248 #[.val (.int t0), .val (.int p0), .val (.int x0), .val (.int x1), .val (.int g0), .val (.int (2 : Int32)), .val (.ref a_100), .val (.ref a_127), .val (.ref a_167), .val (.ref a_208), .val (.ref a_230), .val (.ref a_327), .val (.int s), .val (.ref a_127), .val (.ref a_420), .val (.ref a_492), .val (.ref a_579), .val (.ref a_230)] [(.ref a_230)]
          refine Go.aload (pc' := 250) at_248 rfl rfl rfl ?_
          refine Go.acmp (pc1 := 253) (pc2 := 257) at_250 rfl rfl (by decide) (by decide) (by decide) (fun c_687 => ?_) (fun c_687 => absurd rfl c_687)
          refine Go.iconst (pc' := 254) (v := (1 : Int32)) at_253 rfl rfl ?_
          refine Go.goto (pc' := 258) at_254 (by decide) (by decide) ?_
          exact Go.retN (t := .boolean) at_258 rfl (by simp) rfl rfl (by decide) (by decide)
      · refine Go.aconstNull (pc' := 143) at_142 rfl ?_
        refine Go.goto (pc' := 148) at_143 (by decide) (by decide) ?_
        refine Go.astore (pc' := 150) (Ls' := #[.val (.int t0), .val (.int p0), .val (.int x0), .val (.int x1), .val (.int g0), .val (.int p_97), .val (.ref a_100), .val (.ref a_127), .val (.ref a_167), .val (.ref a_208), .val (.ref a_230), .val (.ref a_327), .val (.int s), .val .null, .unset, .unset, .unset, .unset]) at_148 rfl rfl rfl ?_
        refine Go.newO (pc' := 153) (hw _ (List.mem_of_getElem? (i := 5) rfl)) (hw _ (List.mem_of_getElem? (i := 6) rfl)) (hw _ (List.mem_of_getElem? (i := 7) rfl)) at_150 (by decide) (by decide) rfl ?_
        intro h_688 a_689 q_690 E_691 A_692 D_693
        have n_694 : a_100 ≠ a_689 := Nat.ne_of_lt (q_690 ▸ t_411)
        have n_695 : a_127 ≠ a_689 := Nat.ne_of_lt (q_690 ▸ t_412)
        have n_696 : a_167 ≠ a_689 := Nat.ne_of_lt (q_690 ▸ t_413)
        have n_697 : a_208 ≠ a_689 := Nat.ne_of_lt (q_690 ▸ t_414)
        have n_698 : a_230 ≠ a_689 := Nat.ne_of_lt (q_690 ▸ t_415)
        have n_699 : a_327 ≠ a_689 := Nat.ne_of_lt (q_690 ▸ t_416)
        have g_700 : n0 ≤ a_689 := q_690 ▸ z_417
        have f_701 : Exa Z h_688 a_100 "[I" := f_400.sm (Sm.ext E_691)
        have f_702 : Ary Z h_688 a_100 .int [(.int x0), (.int (x0 + (1 : Int32))), (.int (x0 + (2 : Int32)))] := f_401.sm (Sm.ext E_691)
        have f_703 : Exa Z h_688 a_127 "[I" := f_402.sm (Sm.ext E_691)
        have f_704 : Ary Z h_688 a_127 .int [(.int x1), (.int (x1 + (1 : Int32))), (.int (x1 + (2 : Int32)))] := f_403.sm (Sm.ext E_691)
        have f_705 : Exa Z h_688 a_167 "[I" := f_404.sm (Sm.ext E_691)
        have f_706 : Ary Z h_688 a_167 .int [(.int x0), (.int x1)] := f_405.sm (Sm.ext E_691)
        have f_707 : Ary Z h_688 a_208 .int [] := f_406.sm (Sm.ext E_691)
        have f_708 : Exa Z h_688 a_208 "[I" := f_407.sm (Sm.ext E_691)
        have f_709 : Exa Z h_688 a_230 "[I" := f_408.sm (Sm.ext E_691)
        have f_710 : Ary Z h_688 a_230 .int [(.int x0), (.int x0), (.int x1), (.int x1)] := f_409.sm (Sm.ext E_691)
        have f_711 : Ova Z h_688 a_327 .int "[I" := f_410.sm (Sm.ext E_691)
        have f_712 : Ary Z h_688 a_327 (.array .int) [(.ref a_167), (.ref a_208), (.ref a_230)] := A_399.sm (Sm.ext E_691)
        have t_713 : a_100 < h_688.size := Nat.lt_of_lt_of_le t_411 E_691.1
        have t_714 : a_127 < h_688.size := Nat.lt_of_lt_of_le t_412 E_691.1
        have t_715 : a_167 < h_688.size := Nat.lt_of_lt_of_le t_413 E_691.1
        have t_716 : a_208 < h_688.size := Nat.lt_of_lt_of_le t_414 E_691.1
        have t_717 : a_230 < h_688.size := Nat.lt_of_lt_of_le t_415 E_691.1
        have t_718 : a_327 < h_688.size := Nat.lt_of_lt_of_le t_416 E_691.1
        have z_719 : n0 ≤ h_688.size := Nat.le_trans z_417 E_691.1
        have t_720 : a_689 < h_688.size := A_692.lt
        have f_721 : Fld Z h_688 a_689 "com/example/doppelgrep/doppelgrep/engine/Group" "tokens" "I" (.int (0 : Int32)) := D_693 (Or.inr (hw _ (List.mem_of_getElem? (i := 18) rfl))) (ty := .int) (by decide)
        have f_722 : Fld Z h_688 a_689 "com/example/doppelgrep/doppelgrep/engine/Group" "starts" "[I" .null := D_693 (Or.inr (hw _ (List.mem_of_getElem? (i := 20) rfl))) (ty := (.array .int)) (by decide)
        have f_723 : Fld Z h_688 a_689 "com/example/doppelgrep/doppelgrep/engine/Group" "ends" "[I" .null := D_693 (Or.inr (hw _ (List.mem_of_getElem? (i := 22) rfl))) (ty := (.array .int)) (by decide)
        have f_724 : Fld Z h_688 a_689 "com/example/doppelgrep/doppelgrep/engine/Group" "gapped" "Z" (.int (0 : Int32)) := D_693 (Or.inr (hw _ (List.mem_of_getElem? (i := 24) rfl))) (ty := .boolean) (by decide)
        have f_725 : Fld Z h_688 a_689 "com/example/doppelgrep/doppelgrep/engine/Group" "runs" "[[I" .null := D_693 (Or.inr (hw _ (List.mem_of_getElem? (i := 26) rfl))) (ty := (.array (.array .int))) (by decide)
        refine Go.dup (pc' := 154) at_153 rfl rfl ?_
        refine Go.iloadN (pc' := 155) at_154 rfl rfl ?_
        refine Go.aload (pc' := 157) at_155 rfl rfl rfl ?_
        refine Go.callN (pc' := 160) (argsL := [(.int t0), (.ref a_100)]) (rest := [(.ref a_689)]) (W := 1) rfl (hw _ (List.mem_of_getElem? (i := 8) rfl)) (hw _ (List.mem_of_getElem? (i := 9) rfl)) (hw _ (List.mem_of_getElem? (i := 7) rfl)) (hw _ (List.mem_of_getElem? (i := 10) rfl)) (by decide) (m_two l Z a0 hw a_689 t0 (.ref a_100) h_688 n0 z_719 A_692 f_721 f_722 f_723 f_724 f_725 g_700 rfl) at_157 rfl pd1 rfl rfl (Nat.le_of_eq rfl) (by decide) (by decide) (by decide) (by decide) rfl ?_
        rintro _ h_726 ⟨rfl, K_727, E_728, F_729, F_730, F_731, F_732, F_733⟩
        have f_734 : Exa Z h_726 a_100 "[I" := f_701.sm (Sm.keep K_727 (ninS n_694 nin0))
        have f_735 : Ary Z h_726 a_100 .int [(.int x0), (.int (x0 + (1 : Int32))), (.int (x0 + (2 : Int32)))] := f_702.sm (Sm.keep K_727 (ninS n_694 nin0))
        have f_736 : Exa Z h_726 a_127 "[I" := f_703.sm (Sm.keep K_727 (ninS n_695 nin0))
        have f_737 : Ary Z h_726 a_127 .int [(.int x1), (.int (x1 + (1 : Int32))), (.int (x1 + (2 : Int32)))] := f_704.sm (Sm.keep K_727 (ninS n_695 nin0))
        have f_738 : Exa Z h_726 a_167 "[I" := f_705.sm (Sm.keep K_727 (ninS n_696 nin0))
        have f_739 : Ary Z h_726 a_167 .int [(.int x0), (.int x1)] := f_706.sm (Sm.keep K_727 (ninS n_696 nin0))
        have f_740 : Ary Z h_726 a_208 .int [] := f_707.sm (Sm.keep K_727 (ninS n_697 nin0))
        have f_741 : Exa Z h_726 a_208 "[I" := f_708.sm (Sm.keep K_727 (ninS n_697 nin0))
        have f_742 : Exa Z h_726 a_230 "[I" := f_709.sm (Sm.keep K_727 (ninS n_698 nin0))
        have f_743 : Ary Z h_726 a_230 .int [(.int x0), (.int x0), (.int x1), (.int x1)] := f_710.sm (Sm.keep K_727 (ninS n_698 nin0))
        have f_744 : Ova Z h_726 a_327 .int "[I" := f_711.sm (Sm.keep K_727 (ninS n_699 nin0))
        have f_745 : Ary Z h_726 a_327 (.array .int) [(.ref a_167), (.ref a_208), (.ref a_230)] := f_712.sm (Sm.keep K_727 (ninS n_699 nin0))
        have f_746 : Exa Z h_726 a_689 "com/example/doppelgrep/doppelgrep/engine/Group" := A_692.keep K_727
        have t_752 : a_100 < h_726.size := Nat.lt_of_lt_of_le t_713 K_727.1
        have t_753 : a_127 < h_726.size := Nat.lt_of_lt_of_le t_714 K_727.1
        have t_754 : a_167 < h_726.size := Nat.lt_of_lt_of_le t_715 K_727.1
        have t_755 : a_208 < h_726.size := Nat.lt_of_lt_of_le t_716 K_727.1
        have t_756 : a_230 < h_726.size := Nat.lt_of_lt_of_le t_717 K_727.1
        have t_757 : a_327 < h_726.size := Nat.lt_of_lt_of_le t_718 K_727.1
        have t_758 : a_689 < h_726.size := Nat.lt_of_lt_of_le t_720 K_727.1
        have z_759 : n0 ≤ h_726.size := Nat.le_trans z_719 K_727.1
        show (Go false l room_1 Z x code maxLocals ret n0 32 128 (fun v h => v = some (.int 1))) h_726 (0 + 1 + 1 + 1 + 1 + 1 + 1 + 1 + 0) (0 + 3 + 3 + 2 + 0 + 4 + 3 + 5 + 0) 160 #[.val (.int t0), .val (.int p0), .val (.int x0), .val (.int x1), .val (.int g0), .val (.int p_97), .val (.ref a_100), .val (.ref a_127), .val (.ref a_167), .val (.ref a_208), .val (.ref a_230), .val (.ref a_327), .val (.int s), .val .null, .unset, .unset, .unset, .unset] [(.ref a_689)]
        refine Go.astore (pc' := 162) (Ls' := #[.val (.int t0), .val (.int p0), .val (.int x0), .val (.int x1), .val (.int g0), .val (.int p_97), .val (.ref a_100), .val (.ref a_127), .val (.ref a_167), .val (.ref a_208), .val (.ref a_230), .val (.ref a_327), .val (.int s), .val .null, .val (.ref a_689), .unset, .unset, .unset]) at_160 rfl rfl rfl ?_
        refine Go.newO (pc' := 165) (hw _ (List.mem_of_getElem? (i := 5) rfl)) (hw _ (List.mem_of_getElem? (i := 6) rfl)) (hw _ (List.mem_of_getElem? (i := 7) rfl)) at_162 (by decide) (by decide) rfl ?_
        intro h_760 a_761 q_762 E_763 A_764 D_765
        have n_766 : a_100 ≠ a_761 := Nat.ne_of_lt (q_762 ▸ t_752)
        have n_767 : a_127 ≠ a_761 := Nat.ne_of_lt (q_762 ▸ t_753)
        have n_768 : a_167 ≠ a_761 := Nat.ne_of_lt (q_762 ▸ t_754)
        have n_769 : a_208 ≠ a_761 := Nat.ne_of_lt (q_762 ▸ t_755)
        have n_770 : a_230 ≠ a_761 := Nat.ne_of_lt (q_762 ▸ t_756)
        have n_771 : a_327 ≠ a_761 := Nat.ne_of_lt (q_762 ▸ t_757)
        have n_772 : a_689 ≠ a_761 := Nat.ne_of_lt (q_762 ▸ t_758)
        have g_773 : n0 ≤ a_761 := q_762 ▸ z_759
        have f_774 : Exa Z h_760 a_100 "[I" := f_734.sm (Sm.ext E_763)
        have f_775 : Ary Z h_760 a_100 .int [(.int x0), (.int (x0 + (1 : Int32))), (.int (x0 + (2 : Int32)))] := f_735.sm (Sm.ext E_763)
        have f_776 : Exa Z h_760 a_127 "[I" := f_736.sm (Sm.ext E_763)
        have f_777 : Ary Z h_760 a_127 .int [(.int x1), (.int (x1 + (1 : Int32))), (.int (x1 + (2 : Int32)))] := f_737.sm (Sm.ext E_763)
        have f_778 : Exa Z h_760 a_167 "[I" := f_738.sm (Sm.ext E_763)
        have f_779 : Ary Z h_760 a_167 .int [(.int x0), (.int x1)] := f_739.sm (Sm.ext E_763)
        have f_780 : Ary Z h_760 a_208 .int [] := f_740.sm (Sm.ext E_763)
        have f_781 : Exa Z h_760 a_208 "[I" := f_741.sm (Sm.ext E_763)
        have f_782 : Exa Z h_760 a_230 "[I" := f_742.sm (Sm.ext E_763)
        have f_783 : Ary Z h_760 a_230 .int [(.int x0), (.int x0), (.int x1), (.int x1)] := f_743.sm (Sm.ext E_763)
        have f_784 : Ova Z h_760 a_327 .int "[I" := f_744.sm (Sm.ext E_763)
        have f_785 : Ary Z h_760 a_327 (.array .int) [(.ref a_167), (.ref a_208), (.ref a_230)] := f_745.sm (Sm.ext E_763)
        have f_786 : Exa Z h_760 a_689 "com/example/doppelgrep/doppelgrep/engine/Group" := f_746.sm (Sm.ext E_763)
        have f_787 : Fld Z h_760 a_689 "com/example/doppelgrep/doppelgrep/engine/Group" "tokens" "I" (.int t0) := F_729.sm (Sm.ext E_763)
        have f_788 : Fld Z h_760 a_689 "com/example/doppelgrep/doppelgrep/engine/Group" "starts" "[I" (.ref a_100) := F_730.sm (Sm.ext E_763)
        have f_789 : Fld Z h_760 a_689 "com/example/doppelgrep/doppelgrep/engine/Group" "ends" "[I" .null := F_731.sm (Sm.ext E_763)
        have f_790 : Fld Z h_760 a_689 "com/example/doppelgrep/doppelgrep/engine/Group" "gapped" "Z" (.int (0 : Int32)) := F_732.sm (Sm.ext E_763)
        have f_791 : Fld Z h_760 a_689 "com/example/doppelgrep/doppelgrep/engine/Group" "runs" "[[I" .null := F_733.sm (Sm.ext E_763)
        have t_792 : a_100 < h_760.size := Nat.lt_of_lt_of_le t_752 E_763.1
        have t_793 : a_127 < h_760.size := Nat.lt_of_lt_of_le t_753 E_763.1
        have t_794 : a_167 < h_760.size := Nat.lt_of_lt_of_le t_754 E_763.1
        have t_795 : a_208 < h_760.size := Nat.lt_of_lt_of_le t_755 E_763.1
        have t_796 : a_230 < h_760.size := Nat.lt_of_lt_of_le t_756 E_763.1
        have t_797 : a_327 < h_760.size := Nat.lt_of_lt_of_le t_757 E_763.1
        have t_798 : a_689 < h_760.size := Nat.lt_of_lt_of_le t_758 E_763.1
        have z_799 : n0 ≤ h_760.size := Nat.le_trans z_759 E_763.1
        have t_800 : a_761 < h_760.size := A_764.lt
        have f_801 : Fld Z h_760 a_761 "com/example/doppelgrep/doppelgrep/engine/Group" "tokens" "I" (.int (0 : Int32)) := D_765 (Or.inr (hw _ (List.mem_of_getElem? (i := 18) rfl))) (ty := .int) (by decide)
        have f_802 : Fld Z h_760 a_761 "com/example/doppelgrep/doppelgrep/engine/Group" "starts" "[I" .null := D_765 (Or.inr (hw _ (List.mem_of_getElem? (i := 20) rfl))) (ty := (.array .int)) (by decide)
        have f_803 : Fld Z h_760 a_761 "com/example/doppelgrep/doppelgrep/engine/Group" "ends" "[I" .null := D_765 (Or.inr (hw _ (List.mem_of_getElem? (i := 22) rfl))) (ty := (.array .int)) (by decide)
        have f_804 : Fld Z h_760 a_761 "com/example/doppelgrep/doppelgrep/engine/Group" "gapped" "Z" (.int (0 : Int32)) := D_765 (Or.inr (hw _ (List.mem_of_getElem? (i := 24) rfl))) (ty := .boolean) (by decide)
        have f_805 : Fld Z h_760 a_761 "com/example/doppelgrep/doppelgrep/engine/Group" "runs" "[[I" .null := D_765 (Or.inr (hw _ (List.mem_of_getElem? (i := 26) rfl))) (ty := (.array (.array .int))) (by decide)
        refine Go.dup (pc' := 166) at_165 rfl rfl ?_
        refine Go.iloadN (pc' := 167) at_166 rfl rfl ?_
        refine Go.aload (pc' := 169) at_167 rfl rfl rfl ?_
        refine Go.aload (pc' := 171) at_169 rfl rfl rfl ?_
        refine Go.iload (pc' := 173) at_171 rfl rfl ?_
        refine Go.callN (pc' := 176) (argsL := [(.int t0), (.ref a_100), .null, (.int s)]) (rest := [(.ref a_761)]) (W := 1) rfl (hw _ (List.mem_of_getElem? (i := 27) rfl)) (hw _ (List.mem_of_getElem? (i := 28) rfl)) (hw _ (List.mem_of_getElem? (i := 7) rfl)) (hw _ (List.mem_of_getElem? (i := 29) rfl)) (by decide) (m_four l Z a0 hw a_761 t0 (.ref a_100) .null s h_760 n0 z_799 A_764 f_801 f_802 f_803 f_804 f_805 g_773 rfl rfl hs) at_173 rfl pd2 rfl rfl (Nat.le_of_eq rfl) (by decide) (by decide) (by decide) (by decide) rfl ?_
        rintro _ h_806 ⟨rfl, K_807, E_808, F_809, F_810, F_811, F_812, F_813⟩
        have f_814 : Exa Z h_806 a_100 "[I" := f_774.sm (Sm.keep K_807 (ninS n_766 nin0))
        have f_815 : Ary Z h_806 a_100 .int [(.int x0), (.int (x0 + (1 : Int32))), (.int (x0 + (2 : Int32)))] := f_775.sm (Sm.keep K_807 (ninS n_766 nin0))
        have f_816 : Exa Z h_806 a_127 "[I" := f_776.sm (Sm.keep K_807 (ninS n_767 nin0))
        have f_817 : Ary Z h_806 a_127 .int [(.int x1), (.int (x1 + (1 : Int32))), (.int (x1 + (2 : Int32)))] := f_777.sm (Sm.keep K_807 (ninS n_767 nin0))
        have f_818 : Exa Z h_806 a_167 "[I" := f_778.sm (Sm.keep K_807 (ninS n_768 nin0))
        have f_819 : Ary Z h_806 a_167 .int [(.int x0), (.int x1)] := f_779.sm (Sm.keep K_807 (ninS n_768 nin0))
        have f_820 : Ary Z h_806 a_208 .int [] := f_780.sm (Sm.keep K_807 (ninS n_769 nin0))
        have f_821 : Exa Z h_806 a_208 "[I" := f_781.sm (Sm.keep K_807 (ninS n_769 nin0))
        have f_822 : Exa Z h_806 a_230 "[I" := f_782.sm (Sm.keep K_807 (ninS n_770 nin0))
        have f_823 : Ary Z h_806 a_230 .int [(.int x0), (.int x0), (.int x1), (.int x1)] := f_783.sm (Sm.keep K_807 (ninS n_770 nin0))
        have f_824 : Ova Z h_806 a_327 .int "[I" := f_784.sm (Sm.keep K_807 (ninS n_771 nin0))
        have f_825 : Ary Z h_806 a_327 (.array .int) [(.ref a_167), (.ref a_208), (.ref a_230)] := f_785.sm (Sm.keep K_807 (ninS n_771 nin0))
        have f_826 : Exa Z h_806 a_689 "com/example/doppelgrep/doppelgrep/engine/Group" := f_786.sm (Sm.keep K_807 (ninS n_772 nin0))
        have f_827 : Fld Z h_806 a_689 "com/example/doppelgrep/doppelgrep/engine/Group" "tokens" "I" (.int t0) := f_787.sm (Sm.keep K_807 (ninS n_772 nin0))
        have f_828 : Fld Z h_806 a_689 "com/example/doppelgrep/doppelgrep/engine/Group" "starts" "[I" (.ref a_100) := f_788.sm (Sm.keep K_807 (ninS n_772 nin0))
        have f_829 : Fld Z h_806 a_689 "com/example/doppelgrep/doppelgrep/engine/Group" "ends" "[I" .null := f_789.sm (Sm.keep K_807 (ninS n_772 nin0))
        have f_830 : Fld Z h_806 a_689 "com/example/doppelgrep/doppelgrep/engine/Group" "gapped" "Z" (.int (0 : Int32)) := f_790.sm (Sm.keep K_807 (ninS n_772 nin0))
        have f_831 : Fld Z h_806 a_689 "com/example/doppelgrep/doppelgrep/engine/Group" "runs" "[[I" .null := f_791.sm (Sm.keep K_807 (ninS n_772 nin0))
        have f_832 : Exa Z h_806 a_761 "com/example/doppelgrep/doppelgrep/engine/Group" := A_764.keep K_807
        have t_838 : a_100 < h_806.size := Nat.lt_of_lt_of_le t_792 K_807.1
        have t_839 : a_127 < h_806.size := Nat.lt_of_lt_of_le t_793 K_807.1
        have t_840 : a_167 < h_806.size := Nat.lt_of_lt_of_le t_794 K_807.1
        have t_841 : a_208 < h_806.size := Nat.lt_of_lt_of_le t_795 K_807.1
        have t_842 : a_230 < h_806.size := Nat.lt_of_lt_of_le t_796 K_807.1
        have t_843 : a_327 < h_806.size := Nat.lt_of_lt_of_le t_797 K_807.1
        have t_844 : a_689 < h_806.size := Nat.lt_of_lt_of_le t_798 K_807.1
        have t_845 : a_761 < h_806.size := Nat.lt_of_lt_of_le t_800 K_807.1
        have z_846 : n0 ≤ h_806.size := Nat.le_trans z_799 K_807.1
        show (Go false l room_1 Z x code maxLocals ret n0 32 128 (fun v h => v = some (.int 1))) h_806 (0 + 1 + 1 + 1 + 1 + 1 + 1 + 1 + 0 + 1 + 0) (0 + 3 + 3 + 2 + 0 + 4 + 3 + 5 + 0 + 5 + 0) 176 #[.val (.int t0), .val (.int p0), .val (.int x0), .val (.int x1), .val (.int g0), .val (.int p_97), .val (.ref a_100), .val (.ref a_127), .val (.ref a_167), .val (.ref a_208), .val (.ref a_230), .val (.ref a_327), .val (.int s), .val .null, .val (.ref a_689), .unset, .unset, .unset] [(.ref a_761)]
        refine Go.astore (pc' := 178) (Ls' := #[.val (.int t0), .val (.int p0), .val (.int x0), .val (.int x1), .val (.int g0), .val (.int p_97), .val (.ref a_100), .val (.ref a_127), .val (.ref a_167), .val (.ref a_208), .val (.ref a_230), .val (.ref a_327), .val (.int s), .val .null, .val (.ref a_689), .val (.ref a_761), .unset, .unset]) at_176 rfl rfl rfl ?_
        refine Go.newO (pc' := 181) (hw _ (List.mem_of_getElem? (i := 5) rfl)) (hw _ (List.mem_of_getElem? (i := 6) rfl)) (hw _ (List.mem_of_getElem? (i := 7) rfl)) at_178 (by decide) (by decide) rfl ?_
        intro h_847 a_848 q_849 E_850 A_851 D_852
        have n_853 : a_100 ≠ a_848 := Nat.ne_of_lt (q_849 ▸ t_838)
        have n_854 : a_127 ≠ a_848 := Nat.ne_of_lt (q_849 ▸ t_839)
        have n_855 : a_167 ≠ a_848 := Nat.ne_of_lt (q_849 ▸ t_840)
        have n_856 : a_208 ≠ a_848 := Nat.ne_of_lt (q_849 ▸ t_841)
        have n_857 : a_230 ≠ a_848 := Nat.ne_of_lt (q_849 ▸ t_842)
        have n_858 : a_327 ≠ a_848 := Nat.ne_of_lt (q_849 ▸ t_843)
        have n_859 : a_689 ≠ a_848 := Nat.ne_of_lt (q_849 ▸ t_844)
        have n_860 : a_761 ≠ a_848 := Nat.ne_of_lt (q_849 ▸ t_845)
        have g_861 : n0 ≤ a_848 := q_849 ▸ z_846
        have f_862 : Exa Z h_847 a_100 "[I" := f_814.sm (Sm.ext E_850)
        have f_863 : Ary Z h_847 a_100 .int [(.int x0), (.int (x0 + (1 : Int32))), (.int (x0 + (2 : Int32)))] := f_815.sm (Sm.ext E_850)
        have f_864 : Exa Z h_847 a_127 "[I" := f_816.sm (Sm.ext E_850)
        have f_865 : Ary Z h_847 a_127 .int [(.int x1), (.int (x1 + (1 : Int32))), (.int (x1 + (2 : Int32)))] := f_817.sm (Sm.ext E_850)
        have f_866 : Exa Z h_847 a_167 "[I" := f_818.sm (Sm.ext E_850)
        have f_867 : Ary Z h_847 a_167 .int [(.int x0), (.int x1)] := f_819.sm (Sm.ext E_850)
        have f_868 : Ary Z h_847 a_208 .int [] := f_820.sm (Sm.ext E_850)
        have f_869 : Exa Z h_847 a_208 "[I" := f_821.sm (Sm.ext E_850)
        have f_870 : Exa Z h_847 a_230 "[I" := f_822.sm (Sm.ext E_850)
        have f_871 : Ary Z h_847 a_230 .int [(.int x0), (.int x0), (.int x1), (.int x1)] := f_823.sm (Sm.ext E_850)
        have f_872 : Ova Z h_847 a_327 .int "[I" := f_824.sm (Sm.ext E_850)
        have f_873 : Ary Z h_847 a_327 (.array .int) [(.ref a_167), (.ref a_208), (.ref a_230)] := f_825.sm (Sm.ext E_850)
        have f_874 : Exa Z h_847 a_689 "com/example/doppelgrep/doppelgrep/engine/Group" := f_826.sm (Sm.ext E_850)
        have f_875 : Fld Z h_847 a_689 "com/example/doppelgrep/doppelgrep/engine/Group" "tokens" "I" (.int t0) := f_827.sm (Sm.ext E_850)
        have f_876 : Fld Z h_847 a_689 "com/example/doppelgrep/doppelgrep/engine/Group" "starts" "[I" (.ref a_100) := f_828.sm (Sm.ext E_850)
        have f_877 : Fld Z h_847 a_689 "com/example/doppelgrep/doppelgrep/engine/Group" "ends" "[I" .null := f_829.sm (Sm.ext E_850)
        have f_878 : Fld Z h_847 a_689 "com/example/doppelgrep/doppelgrep/engine/Group" "gapped" "Z" (.int (0 : Int32)) := f_830.sm (Sm.ext E_850)
        have f_879 : Fld Z h_847 a_689 "com/example/doppelgrep/doppelgrep/engine/Group" "runs" "[[I" .null := f_831.sm (Sm.ext E_850)
        have f_880 : Exa Z h_847 a_761 "com/example/doppelgrep/doppelgrep/engine/Group" := f_832.sm (Sm.ext E_850)
        have f_881 : Fld Z h_847 a_761 "com/example/doppelgrep/doppelgrep/engine/Group" "tokens" "I" (.int t0) := F_809.sm (Sm.ext E_850)
        have f_882 : Fld Z h_847 a_761 "com/example/doppelgrep/doppelgrep/engine/Group" "starts" "[I" (.ref a_100) := F_810.sm (Sm.ext E_850)
        have f_883 : Fld Z h_847 a_761 "com/example/doppelgrep/doppelgrep/engine/Group" "ends" "[I" .null := F_811.sm (Sm.ext E_850)
        have f_884 : Fld Z h_847 a_761 "com/example/doppelgrep/doppelgrep/engine/Group" "gapped" "Z" (.int s) := F_812.sm (Sm.ext E_850)
        have f_885 : Fld Z h_847 a_761 "com/example/doppelgrep/doppelgrep/engine/Group" "runs" "[[I" .null := F_813.sm (Sm.ext E_850)
        have t_886 : a_100 < h_847.size := Nat.lt_of_lt_of_le t_838 E_850.1
        have t_887 : a_127 < h_847.size := Nat.lt_of_lt_of_le t_839 E_850.1
        have t_888 : a_167 < h_847.size := Nat.lt_of_lt_of_le t_840 E_850.1
        have t_889 : a_208 < h_847.size := Nat.lt_of_lt_of_le t_841 E_850.1
        have t_890 : a_230 < h_847.size := Nat.lt_of_lt_of_le t_842 E_850.1
        have t_891 : a_327 < h_847.size := Nat.lt_of_lt_of_le t_843 E_850.1
        have t_892 : a_689 < h_847.size := Nat.lt_of_lt_of_le t_844 E_850.1
        have t_893 : a_761 < h_847.size := Nat.lt_of_lt_of_le t_845 E_850.1
        have z_894 : n0 ≤ h_847.size := Nat.le_trans z_846 E_850.1
        have t_895 : a_848 < h_847.size := A_851.lt
        have f_896 : Fld Z h_847 a_848 "com/example/doppelgrep/doppelgrep/engine/Group" "tokens" "I" (.int (0 : Int32)) := D_852 (Or.inr (hw _ (List.mem_of_getElem? (i := 18) rfl))) (ty := .int) (by decide)
        have f_897 : Fld Z h_847 a_848 "com/example/doppelgrep/doppelgrep/engine/Group" "starts" "[I" .null := D_852 (Or.inr (hw _ (List.mem_of_getElem? (i := 20) rfl))) (ty := (.array .int)) (by decide)
        have f_898 : Fld Z h_847 a_848 "com/example/doppelgrep/doppelgrep/engine/Group" "ends" "[I" .null := D_852 (Or.inr (hw _ (List.mem_of_getElem? (i := 22) rfl))) (ty := (.array .int)) (by decide)
        have f_899 : Fld Z h_847 a_848 "com/example/doppelgrep/doppelgrep/engine/Group" "gapped" "Z" (.int (0 : Int32)) := D_852 (Or.inr (hw _ (List.mem_of_getElem? (i := 24) rfl))) (ty := .boolean) (by decide)
        have f_900 : Fld Z h_847 a_848 "com/example/doppelgrep/doppelgrep/engine/Group" "runs" "[[I" .null := D_852 (Or.inr (hw _ (List.mem_of_getElem? (i := 26) rfl))) (ty := (.array (.array .int))) (by decide)
        refine Go.dup (pc' := 182) at_181 rfl rfl ?_
        refine Go.iloadN (pc' := 183) at_182 rfl rfl ?_
        refine Go.aload (pc' := 185) at_183 rfl rfl rfl ?_
        refine Go.aload (pc' := 187) at_185 rfl rfl rfl ?_
        refine Go.iload (pc' := 189) at_187 rfl rfl ?_
        refine Go.aload (pc' := 191) at_189 rfl rfl rfl ?_
        refine Go.callN (pc' := 194) (argsL := [(.int t0), (.ref a_100), .null, (.int s), (.ref a_327)]) (rest := [(.ref a_848)]) (W := 1) rfl (hw _ (List.mem_of_getElem? (i := 30) rfl)) (hw _ (List.mem_of_getElem? (i := 12) rfl)) (hw _ (List.mem_of_getElem? (i := 7) rfl)) (hw _ (List.mem_of_getElem? (i := 13) rfl)) (by decide) (m_full l Z a0 hw a_848 t0 (.ref a_100) .null s (.ref a_327) h_847 n0 z_894 A_851 f_896 f_897 f_898 f_899 f_900 g_861 rfl rfl hs rfl) at_191 rfl pd0 rfl rfl (Nat.le_of_eq rfl) (by decide) (by decide) (by decide) (by decide) rfl ?_
        rintro _ h_901 ⟨rfl, K_902, E_903, F_904, F_905, F_906, F_907, F_908⟩
        have f_909 : Exa Z h_901 a_100 "[I" := f_862.sm (Sm.keep K_902 (ninS n_853 nin0))
        have f_910 : Ary Z h_901 a_100 .int [(.int x0), (.int (x0 + (1 : Int32))), (.int (x0 + (2 : Int32)))] := f_863.sm (Sm.keep K_902 (ninS n_853 nin0))
        have f_911 : Exa Z h_901 a_127 "[I" := f_864.sm (Sm.keep K_902 (ninS n_854 nin0))
        have f_912 : Ary Z h_901 a_127 .int [(.int x1), (.int (x1 + (1 : Int32))), (.int (x1 + (2 : Int32)))] := f_865.sm (Sm.keep K_902 (ninS n_854 nin0))
        have f_913 : Exa Z h_901 a_167 "[I" := f_866.sm (Sm.keep K_902 (ninS n_855 nin0))
        have f_914 : Ary Z h_901 a_167 .int [(.int x0), (.int x1)] := f_867.sm (Sm.keep K_902 (ninS n_855 nin0))
        have f_915 : Ary Z h_901 a_208 .int [] := f_868.sm (Sm.keep K_902 (ninS n_856 nin0))
        have f_916 : Exa Z h_901 a_208 "[I" := f_869.sm (Sm.keep K_902 (ninS n_856 nin0))
        have f_917 : Exa Z h_901 a_230 "[I" := f_870.sm (Sm.keep K_902 (ninS n_857 nin0))
        have f_918 : Ary Z h_901 a_230 .int [(.int x0), (.int x0), (.int x1), (.int x1)] := f_871.sm (Sm.keep K_902 (ninS n_857 nin0))
        have f_919 : Ova Z h_901 a_327 .int "[I" := f_872.sm (Sm.keep K_902 (ninS n_858 nin0))
        have f_920 : Ary Z h_901 a_327 (.array .int) [(.ref a_167), (.ref a_208), (.ref a_230)] := f_873.sm (Sm.keep K_902 (ninS n_858 nin0))
        have f_921 : Exa Z h_901 a_689 "com/example/doppelgrep/doppelgrep/engine/Group" := f_874.sm (Sm.keep K_902 (ninS n_859 nin0))
        have f_922 : Fld Z h_901 a_689 "com/example/doppelgrep/doppelgrep/engine/Group" "tokens" "I" (.int t0) := f_875.sm (Sm.keep K_902 (ninS n_859 nin0))
        have f_923 : Fld Z h_901 a_689 "com/example/doppelgrep/doppelgrep/engine/Group" "starts" "[I" (.ref a_100) := f_876.sm (Sm.keep K_902 (ninS n_859 nin0))
        have f_924 : Fld Z h_901 a_689 "com/example/doppelgrep/doppelgrep/engine/Group" "ends" "[I" .null := f_877.sm (Sm.keep K_902 (ninS n_859 nin0))
        have f_925 : Fld Z h_901 a_689 "com/example/doppelgrep/doppelgrep/engine/Group" "gapped" "Z" (.int (0 : Int32)) := f_878.sm (Sm.keep K_902 (ninS n_859 nin0))
        have f_926 : Fld Z h_901 a_689 "com/example/doppelgrep/doppelgrep/engine/Group" "runs" "[[I" .null := f_879.sm (Sm.keep K_902 (ninS n_859 nin0))
        have f_927 : Exa Z h_901 a_761 "com/example/doppelgrep/doppelgrep/engine/Group" := f_880.sm (Sm.keep K_902 (ninS n_860 nin0))
        have f_928 : Fld Z h_901 a_761 "com/example/doppelgrep/doppelgrep/engine/Group" "tokens" "I" (.int t0) := f_881.sm (Sm.keep K_902 (ninS n_860 nin0))
        have f_929 : Fld Z h_901 a_761 "com/example/doppelgrep/doppelgrep/engine/Group" "starts" "[I" (.ref a_100) := f_882.sm (Sm.keep K_902 (ninS n_860 nin0))
        have f_930 : Fld Z h_901 a_761 "com/example/doppelgrep/doppelgrep/engine/Group" "ends" "[I" .null := f_883.sm (Sm.keep K_902 (ninS n_860 nin0))
        have f_931 : Fld Z h_901 a_761 "com/example/doppelgrep/doppelgrep/engine/Group" "gapped" "Z" (.int s) := f_884.sm (Sm.keep K_902 (ninS n_860 nin0))
        have f_932 : Fld Z h_901 a_761 "com/example/doppelgrep/doppelgrep/engine/Group" "runs" "[[I" .null := f_885.sm (Sm.keep K_902 (ninS n_860 nin0))
        have f_933 : Exa Z h_901 a_848 "com/example/doppelgrep/doppelgrep/engine/Group" := A_851.keep K_902
        have t_939 : a_100 < h_901.size := Nat.lt_of_lt_of_le t_886 K_902.1
        have t_940 : a_127 < h_901.size := Nat.lt_of_lt_of_le t_887 K_902.1
        have t_941 : a_167 < h_901.size := Nat.lt_of_lt_of_le t_888 K_902.1
        have t_942 : a_208 < h_901.size := Nat.lt_of_lt_of_le t_889 K_902.1
        have t_943 : a_230 < h_901.size := Nat.lt_of_lt_of_le t_890 K_902.1
        have t_944 : a_327 < h_901.size := Nat.lt_of_lt_of_le t_891 K_902.1
        have t_945 : a_689 < h_901.size := Nat.lt_of_lt_of_le t_892 K_902.1
        have t_946 : a_761 < h_901.size := Nat.lt_of_lt_of_le t_893 K_902.1
        have t_947 : a_848 < h_901.size := Nat.lt_of_lt_of_le t_895 K_902.1
        have z_948 : n0 ≤ h_901.size := Nat.le_trans z_894 K_902.1
        show (Go false l room_1 Z x code maxLocals ret n0 32 128 (fun v h => v = some (.int 1))) h_901 (0 + 1 + 1 + 1 + 1 + 1 + 1 + 1 + 0 + 1 + 0 + 1 + 0) (0 + 3 + 3 + 2 + 0 + 4 + 3 + 5 + 0 + 5 + 0 + 5 + 0) 194 #[.val (.int t0), .val (.int p0), .val (.int x0), .val (.int x1), .val (.int g0), .val (.int p_97), .val (.ref a_100), .val (.ref a_127), .val (.ref a_167), .val (.ref a_208), .val (.ref a_230), .val (.ref a_327), .val (.int s), .val .null, .val (.ref a_689), .val (.ref a_761), .unset, .unset] [(.ref a_848)]
        refine Go.astore (pc' := 196) (Ls' := #[.val (.int t0), .val (.int p0), .val (.int x0), .val (.int x1), .val (.int g0), .val (.int p_97), .val (.ref a_100), .val (.ref a_127), .val (.ref a_167), .val (.ref a_208), .val (.ref a_230), .val (.ref a_327), .val (.int s), .val .null, .val (.ref a_689), .val (.ref a_761), .val (.ref a_848), .unset]) at_194 rfl rfl rfl ?_
        refine Go.iload (pc' := 198) at_196 rfl rfl ?_
        clear ep_97
        rcases k_98 with k_98 | k_98 | k_98
        · obtain rfl : p_97 = (0 : Int32) := Int32.toInt_inj.mp k_98
          refine Go.ifc (pc1 := 206) (pc2 := 201) at_198 (by decide) (by decide) rfl (fun (c_949 : (0 : Int) ≠ 0) => ?_) (fun (c_949 : (0 : Int) = 0) => ?_)
          · exact absurd c_949 (by decide)
          refine Go.aload (pc' := 203) at_201 rfl rfl rfl ?_
          refine Go.goto (pc' := 219) at_203 (by decide) (by decide) ?_
          refine Go.astore (pc' := 221) (Ls' := #[.val (.int t0), .val (.int p0), .val (.int x0), .val (.int x1), .val (.int g0), .val (.int (0 : Int32)), .val (.ref a_100), .val (.ref a_127), .val (.ref a_167), .val (.ref a_208), .val (.ref a_230), .val (.ref a_327), .val (.int s), .val .null, .val (.ref a_689), .val (.ref a_761), .val (.ref a_848), .val (.ref a_167)]) at_219 rfl rfl rfl ?_
          refine Go.aload (pc' := 223) at_221 rfl rfl rfl ?_
          refine Go.iload (pc' := 225) at_223 rfl rfl ?_
          refine Go.callV (pc' := 228) (argsL := [(.int (0 : Int32))]) (rest := []) (W := 0) (hw _ (List.mem_of_getElem? (i := 31) rfl)) (hw _ (List.mem_of_getElem? (i := 32) rfl)) (hw _ (List.mem_of_getElem? (i := 34) rfl)) (hw _ (List.mem_of_getElem? (i := 33) rfl)) (hw _ (List.mem_of_getElem? (i := 7) rfl)) (hw _ (List.mem_of_getElem? (i := 35) rfl)) (by decide) f_921 (m_rN l Z a0 hw a_689 (0 : Int32) h_901 n0 z_948 f_926) at_225 rfl pd3 rfl rfl (Nat.le_of_eq rfl) (by decide) (by decide) (by decide) (by decide) rfl ?_
          rintro _ _ ⟨rfl, rfl⟩
          show (Go false l room_1 Z x code maxLocals ret n0 32 128 (fun v h => v = some (.int 1))) h_901 (0 + 1 + 1 + 1 + 1 + 1 + 1 + 1 + 0 + 1 + 0 + 1 + 0 + 0) (0 + 3 + 3 + 2 + 0 + 4 + 3 + 5 + 0 + 5 + 0 + 5 + 0 + 0) 228 #[.val (.int t0), .val (.int p0), .val (.int x0), .val (.int x1), .val (.int g0), .val (.int (0 : Int32)), .val (.ref a_100), .val (.ref a_127), .val (.ref a_167), .val (.ref a_208), .val (.ref a_230), .val (.ref a_327), .val (.int s), .val .null, .val (.ref a_689), .val (.ref a_761), .val (.ref a_848), .val (.ref a_167)] [.null]
          refine Go.nonnullNo (pc' := 231) at_228 rfl ?_
          refine Go.aload (pc' := 233) at_231 rfl rfl rfl ?_
          refine Go.iload (pc' := 235) at_233 rfl rfl ?_
          refine Go.callV (pc' := 238) (argsL := [(.int (0 : Int32))]) (rest := []) (W := 0) (hw _ (List.mem_of_getElem? (i := 31) rfl)) (hw _ (List.mem_of_getElem? (i := 32) rfl)) (hw _ (List.mem_of_getElem? (i := 34) rfl)) (hw _ (List.mem_of_getElem? (i := 33) rfl)) (hw _ (List.mem_of_getElem? (i := 7) rfl)) (hw _ (List.mem_of_getElem? (i := 35) rfl)) (by decide) f_927 (m_rN l Z a0 hw a_761 (0 : Int32) h_901 n0 z_948 f_932) at_235 rfl pd3 rfl rfl (Nat.le_of_eq rfl) (by decide) (by decide) (by decide) (by decide) rfl ?_
          rintro _ _ ⟨rfl, rfl⟩
          show (Go false l room_1 Z x code maxLocals ret n0 32 128 (fun v h => v = some (.int 1))) h_901 (0 + 1 + 1 + 1 + 1 + 1 + 1 + 1 + 0 + 1 + 0 + 1 + 0 + 0 + 0) (0 + 3 + 3 + 2 + 0 + 4 + 3 + 5 + 0 + 5 + 0 + 5 + 0 + 0 + 0) 238 #[.val (.int t0), .val (.int p0), .val (.int x0), .val (.int x1), .val (.int g0), .val (.int (0 : Int32)), .val (.ref a_100), .val (.ref a_127), .val (.ref a_167), .val (.ref a_208), .val (.ref a_230), .val (.ref a_327), .val (.int s), .val .null, .val (.ref a_689), .val (.ref a_761), .val (.ref a_848), .val (.ref a_167)] [.null]
          refine Go.nonnullNo (pc' := 241) at_238 rfl ?_
          refine Go.aload (pc' := 243) at_241 rfl rfl rfl ?_
          refine Go.iload (pc' := 245) at_243 rfl rfl ?_
          refine Go.callV (pc' := 248) (argsL := [(.int (0 : Int32))]) (rest := []) (W := 0) (hw _ (List.mem_of_getElem? (i := 31) rfl)) (hw _ (List.mem_of_getElem? (i := 32) rfl)) (hw _ (List.mem_of_getElem? (i := 34) rfl)) (hw _ (List.mem_of_getElem? (i := 33) rfl)) (hw _ (List.mem_of_getElem? (i := 7) rfl)) (hw _ (List.mem_of_getElem? (i := 35) rfl)) (by decide) f_933 (m_rR l Z a0 hw a_848 a_327 (0 : Int32) (.ref a_167) 0 [(.ref a_167), (.ref a_208), (.ref a_230)] h_901 n0 z_948 F_908 f_920 rfl rfl rfl) at_245 rfl pd3 rfl rfl (Nat.le_of_eq rfl) (by decide) (by decide) (by decide) (by decide) rfl ?_
          rintro _ _ ⟨rfl, rfl⟩
          show (Go false l room_1 Z x code maxLocals ret n0 32 128 (fun v h => v = some (.int 1))) h_901 (0 + 1 + 1 + 1 + 1 + 1 + 1 + 1 + 0 + 1 + 0 + 1 + 0 + 0 + 0 + 0) (0 + 3 + 3 + 2 + 0 + 4 + 3 + 5 + 0 + 5 + 0 + 5 + 0 + 0 + 0 + 0) 248 #[.val (.int t0), .val (.int p0), .val (.int x0), .val (.int x1), .val (.int g0), .val (.int (0 : Int32)), .val (.ref a_100), .val (.ref a_127), .val (.ref a_167), .val (.ref a_208), .val (.ref a_230), .val (.ref a_327), .val (.int s), .val .null, .val (.ref a_689), .val (.ref a_761), .val (.ref a_848), .val (.ref a_167)] [(.ref a_167)]
          refine Go.aload (pc' := 250) at_248 rfl rfl rfl ?_
          refine Go.acmp (pc1 := 253) (pc2 := 257) at_250 rfl rfl (by decide) (by decide) (by decide) (fun c_950 => ?_) (fun c_950 => absurd rfl c_950)
          refine Go.iconst (pc' := 254) (v := (1 : Int32)) at_253 rfl rfl ?_
          refine Go.goto (pc' := 258) at_254 (by decide) (by decide) ?_
          exact Go.retN (t := .boolean) at_258 rfl (by simp) rfl rfl (by decide) (by decide)
        · obtain rfl : p_97 = (1 : Int32) := Int32.toInt_inj.mp k_98
          refine Go.ifc (pc1 := 206) (pc2 := 201) at_198 (by decide) (by decide) rfl (fun (c_951 : (1 : Int) ≠ 0) => ?_) (fun (c_951 : (1 : Int) = 0) => ?_)
          rotate_left
          · exact absurd c_951 (by decide)
          refine Go.iload (pc' := 208) at_206 rfl rfl ?_
          refine Go.iconst (pc' := 209) (v := (1 : Int32)) at_208 rfl rfl ?_
          refine Go.icmp (pc1 := 217) (pc2 := 212) at_209 (by decide) (by decide) rfl (fun (c_952 : (1 : Int) ≠ (1 : Int)) => ?_) (fun (c_952 : (1 : Int) = (1 : Int)) => ?_)
          · exact absurd c_952 (by decide)
          refine Go.aload (pc' := 214) at_212 rfl rfl rfl ?_
          refine Go.goto (pc' := 219) at_214 (by decide) (by decide) ?_
          refine Go.astore (pc' := 221) (Ls' := #[.val (.int t0), .val (.int p0), .val (.int x0), .val (.int x1), .val (.int g0), .val (.int (1 : Int32)), .val (.ref a_100), .val (.ref a_127), .val (.ref a_167), .val (.ref a_208), .val (.ref a_230), .val (.ref a_327), .val (.int s), .val .null, .val (.ref a_689), .val (.ref a_761), .val (.ref a_848), .val (.ref a_208)]) at_219 rfl rfl rfl ?_
          refine Go.aload (pc' := 223) at_221 rfl rfl rfl ?_
          refine Go.iload (pc' := 225) at_223 rfl rfl ?_
          refine Go.callV (pc' := 228) (argsL := [(.int (1 : Int32))]) (rest := []) (W := 0) (hw _ (List.mem_of_getElem? (i := 31) rfl)) (hw _ (List.mem_of_getElem? (i := 32) rfl)) (hw _ (List.mem_of_getElem? (i := 34) rfl)) (hw _ (List.mem_of_getElem? (i := 33) rfl)) (hw _ (List.mem_of_getElem? (i := 7) rfl)) (hw _ (List.mem_of_getElem? (i := 35) rfl)) (by decide) f_921 (m_rN l Z a0 hw a_689 (1 : Int32) h_901 n0 z_948 f_926) at_225 rfl pd3 rfl rfl (Nat.le_of_eq rfl) (by decide) (by decide) (by decide) (by decide) rfl ?_
          rintro _ _ ⟨rfl, rfl⟩
          show (Go false l room_1 Z x code maxLocals ret n0 32 128 (fun v h => v = some (.int 1))) h_901 (0 + 1 + 1 + 1 + 1 + 1 + 1 + 1 + 0 + 1 + 0 + 1 + 0 + 0) (0 + 3 + 3 + 2 + 0 + 4 + 3 + 5 + 0 + 5 + 0 + 5 + 0 + 0) 228 #[.val (.int t0), .val (.int p0), .val (.int x0), .val (.int x1), .val (.int g0), .val (.int (1 : Int32)), .val (.ref a_100), .val (.ref a_127), .val (.ref a_167), .val (.ref a_208), .val (.ref a_230), .val (.ref a_327), .val (.int s), .val .null, .val (.ref a_689), .val (.ref a_761), .val (.ref a_848), .val (.ref a_208)] [.null]
          refine Go.nonnullNo (pc' := 231) at_228 rfl ?_
          refine Go.aload (pc' := 233) at_231 rfl rfl rfl ?_
          refine Go.iload (pc' := 235) at_233 rfl rfl ?_
          refine Go.callV (pc' := 238) (argsL := [(.int (1 : Int32))]) (rest := []) (W := 0) (hw _ (List.mem_of_getElem? (i := 31) rfl)) (hw _ (List.mem_of_getElem? (i := 32) rfl)) (hw _ (List.mem_of_getElem? (i := 34) rfl)) (hw _ (List.mem_of_getElem? (i := 33) rfl)) (hw _ (List.mem_of_getElem? (i := 7) rfl)) (hw _ (List.mem_of_getElem? (i := 35) rfl)) (by decide) f_927 (m_rN l Z a0 hw a_761 (1 : Int32) h_901 n0 z_948 f_932) at_235 rfl pd3 rfl rfl (Nat.le_of_eq rfl) (by decide) (by decide) (by decide) (by decide) rfl ?_
          rintro _ _ ⟨rfl, rfl⟩
          show (Go false l room_1 Z x code maxLocals ret n0 32 128 (fun v h => v = some (.int 1))) h_901 (0 + 1 + 1 + 1 + 1 + 1 + 1 + 1 + 0 + 1 + 0 + 1 + 0 + 0 + 0) (0 + 3 + 3 + 2 + 0 + 4 + 3 + 5 + 0 + 5 + 0 + 5 + 0 + 0 + 0) 238 #[.val (.int t0), .val (.int p0), .val (.int x0), .val (.int x1), .val (.int g0), .val (.int (1 : Int32)), .val (.ref a_100), .val (.ref a_127), .val (.ref a_167), .val (.ref a_208), .val (.ref a_230), .val (.ref a_327), .val (.int s), .val .null, .val (.ref a_689), .val (.ref a_761), .val (.ref a_848), .val (.ref a_208)] [.null]
          refine Go.nonnullNo (pc' := 241) at_238 rfl ?_
          refine Go.aload (pc' := 243) at_241 rfl rfl rfl ?_
          refine Go.iload (pc' := 245) at_243 rfl rfl ?_
          refine Go.callV (pc' := 248) (argsL := [(.int (1 : Int32))]) (rest := []) (W := 0) (hw _ (List.mem_of_getElem? (i := 31) rfl)) (hw _ (List.mem_of_getElem? (i := 32) rfl)) (hw _ (List.mem_of_getElem? (i := 34) rfl)) (hw _ (List.mem_of_getElem? (i := 33) rfl)) (hw _ (List.mem_of_getElem? (i := 7) rfl)) (hw _ (List.mem_of_getElem? (i := 35) rfl)) (by decide) f_933 (m_rR l Z a0 hw a_848 a_327 (1 : Int32) (.ref a_208) 1 [(.ref a_167), (.ref a_208), (.ref a_230)] h_901 n0 z_948 F_908 f_920 rfl rfl rfl) at_245 rfl pd3 rfl rfl (Nat.le_of_eq rfl) (by decide) (by decide) (by decide) (by decide) rfl ?_
          rintro _ _ ⟨rfl, rfl⟩
          show (Go false l room_1 Z x code maxLocals ret n0 32 128 (fun v h => v = some (.int 1))) h_901 (0 + 1 + 1 + 1 + 1 + 1 + 1 + 1 + 0 + 1 + 0 + 1 + 0 + 0 + 0 + 0) (0 + 3 + 3 + 2 + 0 + 4 + 3 + 5 + 0 + 5 + 0 + 5 + 0 + 0 + 0 + 0) 248 #[.val (.int t0), .val (.int p0), .val (.int x0), .val (.int x1), .val (.int g0), .val (.int (1 : Int32)), .val (.ref a_100), .val (.ref a_127), .val (.ref a_167), .val (.ref a_208), .val (.ref a_230), .val (.ref a_327), .val (.int s), .val .null, .val (.ref a_689), .val (.ref a_761), .val (.ref a_848), .val (.ref a_208)] [(.ref a_208)]
          refine Go.aload (pc' := 250) at_248 rfl rfl rfl ?_
          refine Go.acmp (pc1 := 253) (pc2 := 257) at_250 rfl rfl (by decide) (by decide) (by decide) (fun c_953 => ?_) (fun c_953 => absurd rfl c_953)
          refine Go.iconst (pc' := 254) (v := (1 : Int32)) at_253 rfl rfl ?_
          refine Go.goto (pc' := 258) at_254 (by decide) (by decide) ?_
          exact Go.retN (t := .boolean) at_258 rfl (by simp) rfl rfl (by decide) (by decide)
        · obtain rfl : p_97 = (2 : Int32) := Int32.toInt_inj.mp k_98
          refine Go.ifc (pc1 := 206) (pc2 := 201) at_198 (by decide) (by decide) rfl (fun (c_954 : (2 : Int) ≠ 0) => ?_) (fun (c_954 : (2 : Int) = 0) => ?_)
          rotate_left
          · exact absurd c_954 (by decide)
          refine Go.iload (pc' := 208) at_206 rfl rfl ?_
          refine Go.iconst (pc' := 209) (v := (1 : Int32)) at_208 rfl rfl ?_
          refine Go.icmp (pc1 := 217) (pc2 := 212) at_209 (by decide) (by decide) rfl (fun (c_955 : (2 : Int) ≠ (1 : Int)) => ?_) (fun (c_955 : (2 : Int) = (1 : Int)) => ?_)
          rotate_left
          · exact absurd c_955 (by decide)
          refine Go.aload (pc' := 219) at_217 rfl rfl rfl ?_
          refine Go.astore (pc' := 221) (Ls' := #[.val (.int t0), .val (.int p0), .val (.int x0), .val (.int x1), .val (.int g0), .val (.int (2 : Int32)), .val (.ref a_100), .val (.ref a_127), .val (.ref a_167), .val (.ref a_208), .val (.ref a_230), .val (.ref a_327), .val (.int s), .val .null, .val (.ref a_689), .val (.ref a_761), .val (.ref a_848), .val (.ref a_230)]) at_219 rfl rfl rfl ?_
          refine Go.aload (pc' := 223) at_221 rfl rfl rfl ?_
          refine Go.iload (pc' := 225) at_223 rfl rfl ?_
          refine Go.callV (pc' := 228) (argsL := [(.int (2 : Int32))]) (rest := []) (W := 0) (hw _ (List.mem_of_getElem? (i := 31) rfl)) (hw _ (List.mem_of_getElem? (i := 32) rfl)) (hw _ (List.mem_of_getElem? (i := 34) rfl)) (hw _ (List.mem_of_getElem? (i := 33) rfl)) (hw _ (List.mem_of_getElem? (i := 7) rfl)) (hw _ (List.mem_of_getElem? (i := 35) rfl)) (by decide) f_921 (m_rN l Z a0 hw a_689 (2 : Int32) h_901 n0 z_948 f_926) at_225 rfl pd3 rfl rfl (Nat.le_of_eq rfl) (by decide) (by decide) (by decide) (by decide) rfl ?_
          rintro _ _ ⟨rfl, rfl⟩
          show (Go false l room_1 Z x code maxLocals ret n0 32 128 (fun v h => v = some (.int 1))) h_901 (0 + 1 + 1 + 1 + 1 + 1 + 1 + 1 + 0 + 1 + 0 + 1 + 0 + 0) (0 + 3 + 3 + 2 + 0 + 4 + 3 + 5 + 0 + 5 + 0 + 5 + 0 + 0) 228 #[.val (.int t0), .val (.int p0), .val (.int x0), .val (.int x1), .val (.int g0), .val (.int (2 : Int32)), .val (.ref a_100), .val (.ref a_127), .val (.ref a_167), .val (.ref a_208), .val (.ref a_230), .val (.ref a_327), .val (.int s), .val .null, .val (.ref a_689), .val (.ref a_761), .val (.ref a_848), .val (.ref a_230)] [.null]
          refine Go.nonnullNo (pc' := 231) at_228 rfl ?_
          refine Go.aload (pc' := 233) at_231 rfl rfl rfl ?_
          refine Go.iload (pc' := 235) at_233 rfl rfl ?_
          refine Go.callV (pc' := 238) (argsL := [(.int (2 : Int32))]) (rest := []) (W := 0) (hw _ (List.mem_of_getElem? (i := 31) rfl)) (hw _ (List.mem_of_getElem? (i := 32) rfl)) (hw _ (List.mem_of_getElem? (i := 34) rfl)) (hw _ (List.mem_of_getElem? (i := 33) rfl)) (hw _ (List.mem_of_getElem? (i := 7) rfl)) (hw _ (List.mem_of_getElem? (i := 35) rfl)) (by decide) f_927 (m_rN l Z a0 hw a_761 (2 : Int32) h_901 n0 z_948 f_932) at_235 rfl pd3 rfl rfl (Nat.le_of_eq rfl) (by decide) (by decide) (by decide) (by decide) rfl ?_
          rintro _ _ ⟨rfl, rfl⟩
          show (Go false l room_1 Z x code maxLocals ret n0 32 128 (fun v h => v = some (.int 1))) h_901 (0 + 1 + 1 + 1 + 1 + 1 + 1 + 1 + 0 + 1 + 0 + 1 + 0 + 0 + 0) (0 + 3 + 3 + 2 + 0 + 4 + 3 + 5 + 0 + 5 + 0 + 5 + 0 + 0 + 0) 238 #[.val (.int t0), .val (.int p0), .val (.int x0), .val (.int x1), .val (.int g0), .val (.int (2 : Int32)), .val (.ref a_100), .val (.ref a_127), .val (.ref a_167), .val (.ref a_208), .val (.ref a_230), .val (.ref a_327), .val (.int s), .val .null, .val (.ref a_689), .val (.ref a_761), .val (.ref a_848), .val (.ref a_230)] [.null]
          refine Go.nonnullNo (pc' := 241) at_238 rfl ?_
          refine Go.aload (pc' := 243) at_241 rfl rfl rfl ?_
          refine Go.iload (pc' := 245) at_243 rfl rfl ?_
          refine Go.callV (pc' := 248) (argsL := [(.int (2 : Int32))]) (rest := []) (W := 0) (hw _ (List.mem_of_getElem? (i := 31) rfl)) (hw _ (List.mem_of_getElem? (i := 32) rfl)) (hw _ (List.mem_of_getElem? (i := 34) rfl)) (hw _ (List.mem_of_getElem? (i := 33) rfl)) (hw _ (List.mem_of_getElem? (i := 7) rfl)) (hw _ (List.mem_of_getElem? (i := 35) rfl)) (by decide) f_933 (m_rR l Z a0 hw a_848 a_327 (2 : Int32) (.ref a_230) 2 [(.ref a_167), (.ref a_208), (.ref a_230)] h_901 n0 z_948 F_908 f_920 rfl rfl rfl) at_245 rfl pd3 rfl rfl (Nat.le_of_eq rfl) (by decide) (by decide) (by decide) (by decide) rfl ?_
          rintro _ _ ⟨rfl, rfl⟩
          show (Go false l room_1 Z x code maxLocals ret n0 32 128 (fun v h => v = some (.int 1))) h_901 (0 + 1 + 1 + 1 + 1 + 1 + 1 + 1 + 0 + 1 + 0 + 1 + 0 + 0 + 0 + 0) (0 + 3 + 3 + 2 + 0 + 4 + 3 + 5 + 0 + 5 + 0 + 5 + 0 + 0 + 0 + 0) 248 #[.val (.int t0), .val (.int p0), .val (.int x0), .val (.int x1), .val (.int g0), .val (.int (2 : Int32)), .val (.ref a_100), .val (.ref a_127), .val (.ref a_167), .val (.ref a_208), .val (.ref a_230), .val (.ref a_327), .val (.int s), .val .null, .val (.ref a_689), .val (.ref a_761), .val (.ref a_848), .val (.ref a_230)] [(.ref a_230)]
          refine Go.aload (pc' := 250) at_248 rfl rfl rfl ?_
          refine Go.acmp (pc1 := 253) (pc2 := 257) at_250 rfl rfl (by decide) (by decide) (by decide) (fun c_956 => ?_) (fun c_956 => absurd rfl c_956)
          refine Go.iconst (pc' := 254) (v := (1 : Int32)) at_253 rfl rfl ?_
          refine Go.goto (pc' := 258) at_254 (by decide) (by decide) ?_
          exact Go.retN (t := .boolean) at_258 rfl (by simp) rfl rfl (by decide) (by decide)
    refine Go.ifc (pc1 := 132) (pc2 := 128) at_125 (by decide) (by decide) rfl (fun (c_957 : (g0 &&& (2 : Int32)).toInt = 0) => ?_) (fun (c_957 : (g0 &&& (2 : Int32)).toInt ≠ 0) => ?_)
    · refine Go.iconst (pc' := 133) (v := (0 : Int32)) at_132 rfl rfl ?_
      exact J _ (by decide)
    · refine Go.iconst (pc' := 129) (v := (1 : Int32)) at_128 rfl rfl ?_
      refine Go.goto (pc' := 133) at_129 (by decide) (by decide) ?_
      exact J _ (by decide)
  · refine Go.aconstNull (pc' := 76) at_75 rfl ?_
    refine Go.goto (pc' := 98) at_76 (by decide) (by decide) ?_
    refine Go.astore (pc' := 100) (Ls' := #[.val (.int t0), .val (.int p0), .val (.int x0), .val (.int x1), .val (.int g0), .val (.int p_97), .val (.ref a_100), .val (.ref a_127), .val (.ref a_167), .val (.ref a_208), .val .null, .unset, .unset, .unset, .unset, .unset, .unset, .unset]) at_98 rfl rfl rfl ?_
    refine Go.iconst (pc' := 101) (v := (3 : Int32)) at_100 rfl rfl ?_
    refine Go.newRA (pc' := 104) (k := 3) (ty := .int) (cap := 3) (C := "[I") (ad := "[[I") (by decide) (hw _ (List.mem_of_getElem? (i := 2) rfl)) (hw _ (List.mem_of_getElem? (i := 3) rfl)) (by decide) rfl (by decide) (by decide) at_101 (by decide) (by decide) rfl ?_
    intro h_958 a_959 q_960 E_961 A_962 V_963
    have n_964 : a_100 ≠ a_959 := Nat.ne_of_lt (q_960 ▸ t_223)
    have n_965 : a_127 ≠ a_959 := Nat.ne_of_lt (q_960 ▸ t_224)
    have n_966 : a_167 ≠ a_959 := Nat.ne_of_lt (q_960 ▸ t_225)
    have n_967 : a_208 ≠ a_959 := Nat.ne_of_lt (q_960 ▸ t_227)
    have g_968 : n0 ≤ a_959 := q_960 ▸ z_226
    have f_969 : Exa Z h_958 a_100 "[I" := f_217.sm (Sm.ext E_961)
    have f_970 : Ary Z h_958 a_100 .int [(.int x0), (.int (x0 + (1 : Int32))), (.int (x0 + (2 : Int32)))] := f_218.sm (Sm.ext E_961)
    have f_971 : Exa Z h_958 a_127 "[I" := f_219.sm (Sm.ext E_961)
    have f_972 : Ary Z h_958 a_127 .int [(.int x1), (.int (x1 + (1 : Int32))), (.int (x1 + (2 : Int32)))] := f_220.sm (Sm.ext E_961)
    have f_973 : Exa Z h_958 a_167 "[I" := f_221.sm (Sm.ext E_961)
    have f_974 : Ary Z h_958 a_167 .int [(.int x0), (.int x1)] := f_222.sm (Sm.ext E_961)
    have f_975 : Ary Z h_958 a_208 .int [] := A_211.sm (Sm.ext E_961)
    have f_976 : Exa Z h_958 a_208 "[I" := X_212.sm (Sm.ext E_961)
    have t_977 : a_100 < h_958.size := Nat.lt_of_lt_of_le t_223 E_961.1
    have t_978 : a_127 < h_958.size := Nat.lt_of_lt_of_le t_224 E_961.1
    have t_979 : a_167 < h_958.size := Nat.lt_of_lt_of_le t_225 E_961.1
    have t_980 : a_208 < h_958.size := Nat.lt_of_lt_of_le t_227 E_961.1
    have z_981 : n0 ≤ h_958.size := Nat.le_trans z_226 E_961.1
    have t_982 : a_959 < h_958.size := A_962.lt
    change Ary Z h_958 a_959 (.array .int) [.null, .null, .null] at A_962
    refine Go.dup (pc' := 105) at_104 rfl rfl ?_
    refine Go.iconst (pc' := 106) (v := (0 : Int32)) at_105 rfl rfl ?_
    refine Go.aload (pc' := 108) at_106 rfl rfl rfl ?_
    refine Go.stR (pc' := 109) (k := 0) A_962 rfl (Sto.ova A_962 V_963 f_973) rfl (by show 0 < 3; decide) at_108 g_968 rfl ?_
    intro h_983 W_984 A_985
    have f_986 : Exa Z h_983 a_100 "[I" := f_969.sm (Sm.wr W_984 n_964)
    have f_987 : Ary Z h_983 a_100 .int [(.int x0), (.int (x0 + (1 : Int32))), (.int (x0 + (2 : Int32)))] := f_970.sm (Sm.wr W_984 n_964)
    have f_988 : Exa Z h_983 a_127 "[I" := f_971.sm (Sm.wr W_984 n_965)
    have f_989 : Ary Z h_983 a_127 .int [(.int x1), (.int (x1 + (1 : Int32))), (.int (x1 + (2 : Int32)))] := f_972.sm (Sm.wr W_984 n_965)
    have f_990 : Exa Z h_983 a_167 "[I" := f_973.sm (Sm.wr W_984 n_966)
    have f_991 : Ary Z h_983 a_167 .int [(.int x0), (.int x1)] := f_974.sm (Sm.wr W_984 n_966)
    have f_992 : Ary Z h_983 a_208 .int [] := f_975.sm (Sm.wr W_984 n_967)
    have f_993 : Exa Z h_983 a_208 "[I" := f_976.sm (Sm.wr W_984 n_967)
    have f_994 : Ova Z h_983 a_959 .int "[I" := Ova.wr W_984 V_963
    have t_995 : a_100 < h_983.size := Nat.lt_of_lt_of_le t_977 (Nat.le_of_eq W_984.size.symm)
    have t_996 : a_127 < h_983.size := Nat.lt_of_lt_of_le t_978 (Nat.le_of_eq W_984.size.symm)
    have t_997 : a_167 < h_983.size := Nat.lt_of_lt_of_le t_979 (Nat.le_of_eq W_984.size.symm)
    have t_998 : a_208 < h_983.size := Nat.lt_of_lt_of_le t_980 (Nat.le_of_eq W_984.size.symm)
    have t_999 : a_959 < h_983.size := Nat.lt_of_lt_of_le t_982 (Nat.le_of_eq W_984.size.symm)
    have z_1000 : n0 ≤ h_983.size := Nat.le_trans z_981 (Nat.le_of_eq W_984.size.symm)
    change Ary Z h_983 a_959 (.array .int) [(.ref a_167), .null, .null] at A_985
    refine Go.dup (pc' := 110) at_109 rfl rfl ?_
    refine Go.iconst (pc' := 111) (v := (1 : Int32)) at_110 rfl rfl ?_
    refine Go.aload (pc' := 113) at_111 rfl rfl rfl ?_
    refine Go.stR (pc' := 114) (k := 1) A_985 rfl (Sto.ova A_985 f_994 f_993) rfl (by show 1 < 3; decide) at_113 g_968 rfl ?_
    intro h_1001 W_1002 A_1003
    have f_1004 : Exa Z h_1001 a_100 "[I" := f_986.sm (Sm.wr W_1002 n_964)
    have f_1005 : Ary Z h_1001 a_100 .int [(.int x0), (.int (x0 + (1 : Int32))), (.int (x0 + (2 : Int32)))] := f_987.sm (Sm.wr W_1002 n_964)
    have f_1006 : Exa Z h_1001 a_127 "[I" := f_988.sm (Sm.wr W_1002 n_965)
    have f_1007 : Ary Z h_1001 a_127 .int [(.int x1), (.int (x1 + (1 : Int32))), (.int (x1 + (2 : Int32)))] := f_989.sm (Sm.wr W_1002 n_965)
    have f_1008 : Exa Z h_1001 a_167 "[I" := f_990.sm (Sm.wr W_1002 n_966)
    have f_1009 : Ary Z h_1001 a_167 .int [(.int x0), (.int x1)] := f_991.sm (Sm.wr W_1002 n_966)
    have f_1010 : Ary Z h_1001 a_208 .int [] := f_992.sm (Sm.wr W_1002 n_967)
    have f_1011 : Exa Z h_1001 a_208 "[I" := f_993.sm (Sm.wr W_1002 n_967)
    have f_1012 : Ova Z h_1001 a_959 .int "[I" := Ova.wr W_1002 f_994
    have t_1013 : a_100 < h_1001.size := Nat.lt_of_lt_of_le t_995 (Nat.le_of_eq W_1002.size.symm)
    have t_1014 : a_127 < h_1001.size := Nat.lt_of_lt_of_le t_996 (Nat.le_of_eq W_1002.size.symm)
    have t_1015 : a_167 < h_1001.size := Nat.lt_of_lt_of_le t_997 (Nat.le_of_eq W_1002.size.symm)
    have t_1016 : a_208 < h_1001.size := Nat.lt_of_lt_of_le t_998 (Nat.le_of_eq W_1002.size.symm)
    have t_1017 : a_959 < h_1001.size := Nat.lt_of_lt_of_le t_999 (Nat.le_of_eq W_1002.size.symm)
    have z_1018 : n0 ≤ h_1001.size := Nat.le_trans z_1000 (Nat.le_of_eq W_1002.size.symm)
    change Ary Z h_1001 a_959 (.array .int) [(.ref a_167), (.ref a_208), .null] at A_1003
    refine Go.dup (pc' := 115) at_114 rfl rfl ?_
    refine Go.iconst (pc' := 116) (v := (2 : Int32)) at_115 rfl rfl ?_
    refine Go.aload (pc' := 118) at_116 rfl rfl rfl ?_
    refine Go.stR (pc' := 119) (k := 2) A_1003 rfl (Or.inl rfl) rfl (by show 2 < 3; decide) at_118 g_968 rfl ?_
    intro h_1019 W_1020 A_1021
    have f_1022 : Exa Z h_1019 a_100 "[I" := f_1004.sm (Sm.wr W_1020 n_964)
    have f_1023 : Ary Z h_1019 a_100 .int [(.int x0), (.int (x0 + (1 : Int32))), (.int (x0 + (2 : Int32)))] := f_1005.sm (Sm.wr W_1020 n_964)
    have f_1024 : Exa Z h_1019 a_127 "[I" := f_1006.sm (Sm.wr W_1020 n_965)
    have f_1025 : Ary Z h_1019 a_127 .int [(.int x1), (.int (x1 + (1 : Int32))), (.int (x1 + (2 : Int32)))] := f_1007.sm (Sm.wr W_1020 n_965)
    have f_1026 : Exa Z h_1019 a_167 "[I" := f_1008.sm (Sm.wr W_1020 n_966)
    have f_1027 : Ary Z h_1019 a_167 .int [(.int x0), (.int x1)] := f_1009.sm (Sm.wr W_1020 n_966)
    have f_1028 : Ary Z h_1019 a_208 .int [] := f_1010.sm (Sm.wr W_1020 n_967)
    have f_1029 : Exa Z h_1019 a_208 "[I" := f_1011.sm (Sm.wr W_1020 n_967)
    have f_1030 : Ova Z h_1019 a_959 .int "[I" := Ova.wr W_1020 f_1012
    have t_1031 : a_100 < h_1019.size := Nat.lt_of_lt_of_le t_1013 (Nat.le_of_eq W_1020.size.symm)
    have t_1032 : a_127 < h_1019.size := Nat.lt_of_lt_of_le t_1014 (Nat.le_of_eq W_1020.size.symm)
    have t_1033 : a_167 < h_1019.size := Nat.lt_of_lt_of_le t_1015 (Nat.le_of_eq W_1020.size.symm)
    have t_1034 : a_208 < h_1019.size := Nat.lt_of_lt_of_le t_1016 (Nat.le_of_eq W_1020.size.symm)
    have t_1035 : a_959 < h_1019.size := Nat.lt_of_lt_of_le t_1017 (Nat.le_of_eq W_1020.size.symm)
    have z_1036 : n0 ≤ h_1019.size := Nat.le_trans z_1018 (Nat.le_of_eq W_1020.size.symm)
    change Ary Z h_1019 a_959 (.array .int) [(.ref a_167), (.ref a_208), .null] at A_1021
    refine Go.astore (pc' := 121) (Ls' := #[.val (.int t0), .val (.int p0), .val (.int x0), .val (.int x1), .val (.int g0), .val (.int p_97), .val (.ref a_100), .val (.ref a_127), .val (.ref a_167), .val (.ref a_208), .val .null, .val (.ref a_959), .unset, .unset, .unset, .unset, .unset, .unset]) at_119 rfl rfl rfl ?_
    refine Go.iload (pc' := 123) at_121 rfl rfl ?_
    refine Go.iconst (pc' := 124) (v := (2 : Int32)) at_123 rfl rfl ?_
    refine Go.iand (pc' := 125) at_124 rfl ?_
    have J : ∀ s : Int32, (s.toInt = 0 ∨ s.toInt = 1) → (Go false l room_1 Z x code maxLocals ret n0 32 128 (fun v h => v = some (.int 1))) h_1019 (0 + 1 + 1 + 1 + 1 + 1) (0 + 3 + 3 + 2 + 0 + 3) 133 #[.val (.int t0), .val (.int p0), .val (.int x0), .val (.int x1), .val (.int g0), .val (.int p_97), .val (.ref a_100), .val (.ref a_127), .val (.ref a_167), .val (.ref a_208), .val .null, .val (.ref a_959), .unset, .unset, .unset, .unset, .unset, .unset] [(.int s)] := by
      intro s hs
      refine Go.istore (pc' := 135) (Ls' := #[.val (.int t0), .val (.int p0), .val (.int x0), .val (.int x1), .val (.int g0), .val (.int p_97), .val (.ref a_100), .val (.ref a_127), .val (.ref a_167), .val (.ref a_208), .val .null, .val (.ref a_959), .val (.int s), .unset, .unset, .unset, .unset, .unset]) at_133 rfl rfl ?_
      refine Go.iload (pc' := 137) at_135 rfl rfl ?_
      refine Go.iconst (pc' := 138) (v := (4 : Int32)) at_137 rfl rfl ?_
      refine Go.iand (pc' := 139) at_138 rfl ?_
      refine Go.ifc (pc1 := 146) (pc2 := 142) at_139 (by decide) (by decide) rfl (fun (c_1037 : (g0 &&& (4 : Int32)).toInt = 0) => ?_) (fun (c_1037 : (g0 &&& (4 : Int32)).toInt ≠ 0) => ?_)
      · refine Go.aload (pc' := 148) at_146 rfl rfl rfl ?_
        refine Go.astore (pc' := 150) (Ls' := #[.val (.int t0), .val (.int p0), .val (.int x0), .val (.int x1), .val (.int g0), .val (.int p_97), .val (.ref a_100), .val (.ref a_127), .val (.ref a_167), .val (.ref a_208), .val .null, .val (.ref a_959), .val (.int s), .val (.ref a_127), .unset, .unset, .unset, .unset]) at_148 rfl rfl rfl ?_
        refine Go.newO (pc' := 153) (hw _ (List.mem_of_getElem? (i := 5) rfl)) (hw _ (List.mem_of_getElem? (i := 6) rfl)) (hw _ (List.mem_of_getElem? (i := 7) rfl)) at_150 (by decide) (by decide) rfl ?_
        intro h_1038 a_1039 q_1040 E_1041 A_1042 D_1043
        have n_1044 : a_100 ≠ a_1039 := Nat.ne_of_lt (q_1040 ▸ t_1031)
        have n_1045 : a_127 ≠ a_1039 := Nat.ne_of_lt (q_1040 ▸ t_1032)
        have n_1046 : a_167 ≠ a_1039 := Nat.ne_of_lt (q_1040 ▸ t_1033)
        have n_1047 : a_208 ≠ a_1039 := Nat.ne_of_lt (q_1040 ▸ t_1034)
        have n_1048 : a_959 ≠ a_1039 := Nat.ne_of_lt (q_1040 ▸ t_1035)
        have g_1049 : n0 ≤ a_1039 := q_1040 ▸ z_1036
        have f_1050 : Exa Z h_1038 a_100 "[I" := f_1022.sm (Sm.ext E_1041)
        have f_1051 : Ary Z h_1038 a_100 .int [(.int x0), (.int (x0 + (1 : Int32))), (.int (x0 + (2 : Int32)))] := f_1023.sm (Sm.ext E_1041)
        have f_1052 : Exa Z h_1038 a_127 "[I" := f_1024.sm (Sm.ext E_1041)
        have f_1053 : Ary Z h_1038 a_127 .int [(.int x1), (.int (x1 + (1 : Int32))), (.int (x1 + (2 : Int32)))] := f_1025.sm (Sm.ext E_1041)
        have f_1054 : Exa Z h_1038 a_167 "[I" := f_1026.sm (Sm.ext E_1041)
        have f_1055 : Ary Z h_1038 a_167 .int [(.int x0), (.int x1)] := f_1027.sm (Sm.ext E_1041)
        have f_1056 : Ary Z h_1038 a_208 .int [] := f_1028.sm (Sm.ext E_1041)
        have f_1057 : Exa Z h_1038 a_208 "[I" := f_1029.sm (Sm.ext E_1041)
        have f_1058 : Ova Z h_1038 a_959 .int "[I" := f_1030.sm (Sm.ext E_1041)
        have f_1059 : Ary Z h_1038 a_959 (.array .int) [(.ref a_167), (.ref a_208), .null] := A_1021.sm (Sm.ext E_1041)
        have t_1060 : a_100 < h_1038.size := Nat.lt_of_lt_of_le t_1031 E_1041.1
        have t_1061 : a_127 < h_1038.size := Nat.lt_of_lt_of_le t_1032 E_1041.1
        have t_1062 : a_167 < h_1038.size := Nat.lt_of_lt_of_le t_1033 E_1041.1
        have t_1063 : a_208 < h_1038.size := Nat.lt_of_lt_of_le t_1034 E_1041.1
        have t_1064 : a_959 < h_1038.size := Nat.lt_of_lt_of_le t_1035 E_1041.1
        have z_1065 : n0 ≤ h_1038.size := Nat.le_trans z_1036 E_1041.1
        have t_1066 : a_1039 < h_1038.size := A_1042.lt
        have f_1067 : Fld Z h_1038 a_1039 "com/example/doppelgrep/doppelgrep/engine/Group" "tokens" "I" (.int (0 : Int32)) := D_1043 (Or.inr (hw _ (List.mem_of_getElem? (i := 18) rfl))) (ty := .int) (by decide)
        have f_1068 : Fld Z h_1038 a_1039 "com/example/doppelgrep/doppelgrep/engine/Group" "starts" "[I" .null := D_1043 (Or.inr (hw _ (List.mem_of_getElem? (i := 20) rfl))) (ty := (.array .int)) (by decide)
        have f_1069 : Fld Z h_1038 a_1039 "com/example/doppelgrep/doppelgrep/engine/Group" "ends" "[I" .null := D_1043 (Or.inr (hw _ (List.mem_of_getElem? (i := 22) rfl))) (ty := (.array .int)) (by decide)
        have f_1070 : Fld Z h_1038 a_1039 "com/example/doppelgrep/doppelgrep/engine/Group" "gapped" "Z" (.int (0 : Int32)) := D_1043 (Or.inr (hw _ (List.mem_of_getElem? (i := 24) rfl))) (ty := .boolean) (by decide)
        have f_1071 : Fld Z h_1038 a_1039 "com/example/doppelgrep/doppelgrep/engine/Group" "runs" "[[I" .null := D_1043 (Or.inr (hw _ (List.mem_of_getElem? (i := 26) rfl))) (ty := (.array (.array .int))) (by decide)
        refine Go.dup (pc' := 154) at_153 rfl rfl ?_
        refine Go.iloadN (pc' := 155) at_154 rfl rfl ?_
        refine Go.aload (pc' := 157) at_155 rfl rfl rfl ?_
        refine Go.callN (pc' := 160) (argsL := [(.int t0), (.ref a_100)]) (rest := [(.ref a_1039)]) (W := 1) rfl (hw _ (List.mem_of_getElem? (i := 8) rfl)) (hw _ (List.mem_of_getElem? (i := 9) rfl)) (hw _ (List.mem_of_getElem? (i := 7) rfl)) (hw _ (List.mem_of_getElem? (i := 10) rfl)) (by decide) (m_two l Z a0 hw a_1039 t0 (.ref a_100) h_1038 n0 z_1065 A_1042 f_1067 f_1068 f_1069 f_1070 f_1071 g_1049 rfl) at_157 rfl pd1 rfl rfl (Nat.le_of_eq rfl) (by decide) (by decide) (by decide) (by decide) rfl ?_
        rintro _ h_1072 ⟨rfl, K_1073, E_1074, F_1075, F_1076, F_1077, F_1078, F_1079⟩
        have f_1080 : Exa Z h_1072 a_100 "[I" := f_1050.sm (Sm.keep K_1073 (ninS n_1044 nin0))
        have f_1081 : Ary Z h_1072 a_100 .int [(.int x0), (.int (x0 + (1 : Int32))), (.int (x0 + (2 : Int32)))] := f_1051.sm (Sm.keep K_1073 (ninS n_1044 nin0))
        have f_1082 : Exa Z h_1072 a_127 "[I" := f_1052.sm (Sm.keep K_1073 (ninS n_1045 nin0))
        have f_1083 : Ary Z h_1072 a_127 .int [(.int x1), (.int (x1 + (1 : Int32))), (.int (x1 + (2 : Int32)))] := f_1053.sm (Sm.keep K_1073 (ninS n_1045 nin0))
        have f_1084 : Exa Z h_1072 a_167 "[I" := f_1054.sm (Sm.keep K_1073 (ninS n_1046 nin0))
        have f_1085 : Ary Z h_1072 a_167 .int [(.int x0), (.int x1)] := f_1055.sm (Sm.keep K_1073 (ninS n_1046 nin0))
        have f_1086 : Ary Z h_1072 a_208 .int [] := f_1056.sm (Sm.keep K_1073 (ninS n_1047 nin0))
        have f_1087 : Exa Z h_1072 a_208 "[I" := f_1057.sm (Sm.keep K_1073 (ninS n_1047 nin0))
        have f_1088 : Ova Z h_1072 a_959 .int "[I" := f_1058.sm (Sm.keep K_1073 (ninS n_1048 nin0))
        have f_1089 : Ary Z h_1072 a_959 (.array .int) [(.ref a_167), (.ref a_208), .null] := f_1059.sm (Sm.keep K_1073 (ninS n_1048 nin0))
        have f_1090 : Exa Z h_1072 a_1039 "com/example/doppelgrep/doppelgrep/engine/Group" := A_1042.keep K_1073
        have t_1096 : a_100 < h_1072.size := Nat.lt_of_lt_of_le t_1060 K_1073.1
        have t_1097 : a_127 < h_1072.size := Nat.lt_of_lt_of_le t_1061 K_1073.1
        have t_1098 : a_167 < h_1072.size := Nat.lt_of_lt_of_le t_1062 K_1073.1
        have t_1099 : a_208 < h_1072.size := Nat.lt_of_lt_of_le t_1063 K_1073.1
        have t_1100 : a_959 < h_1072.size := Nat.lt_of_lt_of_le t_1064 K_1073.1
        have t_1101 : a_1039 < h_1072.size := Nat.lt_of_lt_of_le t_1066 K_1073.1
        have z_1102 : n0 ≤ h_1072.size := Nat.le_trans z_1065 K_1073.1
        show (Go false l room_1 Z x code maxLocals ret n0 32 128 (fun v h => v = some (.int 1))) h_1072 (0 + 1 + 1 + 1 + 1 + 1 + 1 + 0) (0 + 3 + 3 + 2 + 0 + 3 + 5 + 0) 160 #[.val (.int t0), .val (.int p0), .val (.int x0), .val (.int x1), .val (.int g0), .val (.int p_97), .val (.ref a_100), .val (.ref a_127), .val (.ref a_167), .val (.ref a_208), .val .null, .val (.ref a_959), .val (.int s), .val (.ref a_127), .unset, .unset, .unset, .unset] [(.ref a_1039)]
        refine Go.astore (pc' := 162) (Ls' := #[.val (.int t0), .val (.int p0), .val (.int x0), .val (.int x1), .val (.int g0), .val (.int p_97), .val (.ref a_100), .val (.ref a_127), .val (.ref a_167), .val (.ref a_208), .val .null, .val (.ref a_959), .val (.int s), .val (.ref a_127), .val (.ref a_1039), .unset, .unset, .unset]) at_160 rfl rfl rfl ?_
        refine Go.newO (pc' := 165) (hw _ (List.mem_of_getElem? (i := 5) rfl)) (hw _ (List.mem_of_getElem? (i := 6) rfl)) (hw _ (List.mem_of_getElem? (i := 7) rfl)) at_162 (by decide) (by decide) rfl ?_
        intro h_1103 a_1104 q_1105 E_1106 A_1107 D_1108
        have n_1109 : a_100 ≠ a_1104 := Nat.ne_of_lt (q_1105 ▸ t_1096)
        have n_1110 : a_127 ≠ a_1104 := Nat.ne_of_lt (q_1105 ▸ t_1097)
        have n_1111 : a_167 ≠ a_1104 := Nat.ne_of_lt (q_1105 ▸ t_1098)
        have n_1112 : a_208 ≠ a_1104 := Nat.ne_of_lt (q_1105 ▸ t_1099)
        have n_1113 : a_959 ≠ a_1104 := Nat.ne_of_lt (q_1105 ▸ t_1100)
        have n_1114 : a_1039 ≠ a_1104 := Nat.ne_of_lt (q_1105 ▸ t_1101)
        have g_1115 : n0 ≤ a_1104 := q_1105 ▸ z_1102
        have f_1116 : Exa Z h_1103 a_100 "[I" := f_1080.sm (Sm.ext E_1106)
        have f_1117 : Ary Z h_1103 a_100 .int [(.int x0), (.int (x0 + (1 : Int32))), (.int (x0 + (2 : Int32)))] := f_1081.sm (Sm.ext E_1106)
        have f_1118 : Exa Z h_1103 a_127 "[I" := f_1082.sm (Sm.ext E_1106)
        have f_1119 : Ary Z h_1103 a_127 .int [(.int x1), (.int (x1 + (1 : Int32))), (.int (x1 + (2 : Int32)))] := f_1083.sm (Sm.ext E_1106)
        have f_1120 : Exa Z h_1103 a_167 "[I" := f_1084.sm (Sm.ext E_1106)
        have f_1121 : Ary Z h_1103 a_167 .int [(.int x0), (.int x1)] := f_1085.sm (Sm.ext E_1106)
        have f_1122 : Ary Z h_1103 a_208 .int [] := f_1086.sm (Sm.ext E_1106)
        have f_1123 : Exa Z h_1103 a_208 "[I" := f_1087.sm (Sm.ext E_1106)
        have f_1124 : Ova Z h_1103 a_959 .int "[I" := f_1088.sm (Sm.ext E_1106)
        have f_1125 : Ary Z h_1103 a_959 (.array .int) [(.ref a_167), (.ref a_208), .null] := f_1089.sm (Sm.ext E_1106)
        have f_1126 : Exa Z h_1103 a_1039 "com/example/doppelgrep/doppelgrep/engine/Group" := f_1090.sm (Sm.ext E_1106)
        have f_1127 : Fld Z h_1103 a_1039 "com/example/doppelgrep/doppelgrep/engine/Group" "tokens" "I" (.int t0) := F_1075.sm (Sm.ext E_1106)
        have f_1128 : Fld Z h_1103 a_1039 "com/example/doppelgrep/doppelgrep/engine/Group" "starts" "[I" (.ref a_100) := F_1076.sm (Sm.ext E_1106)
        have f_1129 : Fld Z h_1103 a_1039 "com/example/doppelgrep/doppelgrep/engine/Group" "ends" "[I" .null := F_1077.sm (Sm.ext E_1106)
        have f_1130 : Fld Z h_1103 a_1039 "com/example/doppelgrep/doppelgrep/engine/Group" "gapped" "Z" (.int (0 : Int32)) := F_1078.sm (Sm.ext E_1106)
        have f_1131 : Fld Z h_1103 a_1039 "com/example/doppelgrep/doppelgrep/engine/Group" "runs" "[[I" .null := F_1079.sm (Sm.ext E_1106)
        have t_1132 : a_100 < h_1103.size := Nat.lt_of_lt_of_le t_1096 E_1106.1
        have t_1133 : a_127 < h_1103.size := Nat.lt_of_lt_of_le t_1097 E_1106.1
        have t_1134 : a_167 < h_1103.size := Nat.lt_of_lt_of_le t_1098 E_1106.1
        have t_1135 : a_208 < h_1103.size := Nat.lt_of_lt_of_le t_1099 E_1106.1
        have t_1136 : a_959 < h_1103.size := Nat.lt_of_lt_of_le t_1100 E_1106.1
        have t_1137 : a_1039 < h_1103.size := Nat.lt_of_lt_of_le t_1101 E_1106.1
        have z_1138 : n0 ≤ h_1103.size := Nat.le_trans z_1102 E_1106.1
        have t_1139 : a_1104 < h_1103.size := A_1107.lt
        have f_1140 : Fld Z h_1103 a_1104 "com/example/doppelgrep/doppelgrep/engine/Group" "tokens" "I" (.int (0 : Int32)) := D_1108 (Or.inr (hw _ (List.mem_of_getElem? (i := 18) rfl))) (ty := .int) (by decide)
        have f_1141 : Fld Z h_1103 a_1104 "com/example/doppelgrep/doppelgrep/engine/Group" "starts" "[I" .null := D_1108 (Or.inr (hw _ (List.mem_of_getElem? (i := 20) rfl))) (ty := (.array .int)) (by decide)
        have f_1142 : Fld Z h_1103 a_1104 "com/example/doppelgrep/doppelgrep/engine/Group" "ends" "[I" .null := D_1108 (Or.inr (hw _ (List.mem_of_getElem? (i := 22) rfl))) (ty := (.array .int)) (by decide)
        have f_1143 : Fld Z h_1103 a_1104 "com/example/doppelgrep/doppelgrep/engine/Group" "gapped" "Z" (.int (0 : Int32)) := D_1108 (Or.inr (hw _ (List.mem_of_getElem? (i := 24) rfl))) (ty := .boolean) (by decide)
        have f_1144 : Fld Z h_1103 a_1104 "com/example/doppelgrep/doppelgrep/engine/Group" "runs" "[[I" .null := D_1108 (Or.inr (hw _ (List.mem_of_getElem? (i := 26) rfl))) (ty := (.array (.array .int))) (by decide)
        refine Go.dup (pc' := 166) at_165 rfl rfl ?_
        refine Go.iloadN (pc' := 167) at_166 rfl rfl ?_
        refine Go.aload (pc' := 169) at_167 rfl rfl rfl ?_
        refine Go.aload (pc' := 171) at_169 rfl rfl rfl ?_
        refine Go.iload (pc' := 173) at_171 rfl rfl ?_
        refine Go.callN (pc' := 176) (argsL := [(.int t0), (.ref a_100), (.ref a_127), (.int s)]) (rest := [(.ref a_1104)]) (W := 1) rfl (hw _ (List.mem_of_getElem? (i := 27) rfl)) (hw _ (List.mem_of_getElem? (i := 28) rfl)) (hw _ (List.mem_of_getElem? (i := 7) rfl)) (hw _ (List.mem_of_getElem? (i := 29) rfl)) (by decide) (m_four l Z a0 hw a_1104 t0 (.ref a_100) (.ref a_127) s h_1103 n0 z_1138 A_1107 f_1140 f_1141 f_1142 f_1143 f_1144 g_1115 rfl rfl hs) at_173 rfl pd2 rfl rfl (Nat.le_of_eq rfl) (by decide) (by decide) (by decide) (by decide) rfl ?_
        rintro _ h_1145 ⟨rfl, K_1146, E_1147, F_1148, F_1149, F_1150, F_1151, F_1152⟩
        have f_1153 : Exa Z h_1145 a_100 "[I" := f_1116.sm (Sm.keep K_1146 (ninS n_1109 nin0))
        have f_1154 : Ary Z h_1145 a_100 .int [(.int x0), (.int (x0 + (1 : Int32))), (.int (x0 + (2 : Int32)))] := f_1117.sm (Sm.keep K_1146 (ninS n_1109 nin0))
        have f_1155 : Exa Z h_1145 a_127 "[I" := f_1118.sm (Sm.keep K_1146 (ninS n_1110 nin0))
        have f_1156 : Ary Z h_1145 a_127 .int [(.int x1), (.int (x1 + (1 : Int32))), (.int (x1 + (2 : Int32)))] := f_1119.sm (Sm.keep K_1146 (ninS n_1110 nin0))
        have f_1157 : Exa Z h_1145 a_167 "[I" := f_1120.sm (Sm.keep K_1146 (ninS n_1111 nin0))
        have f_1158 : Ary Z h_1145 a_167 .int [(.int x0), (.int x1)] := f_1121.sm (Sm.keep K_1146 (ninS n_1111 nin0))
        have f_1159 : Ary Z h_1145 a_208 .int [] := f_1122.sm (Sm.keep K_1146 (ninS n_1112 nin0))
        have f_1160 : Exa Z h_1145 a_208 "[I" := f_1123.sm (Sm.keep K_1146 (ninS n_1112 nin0))
        have f_1161 : Ova Z h_1145 a_959 .int "[I" := f_1124.sm (Sm.keep K_1146 (ninS n_1113 nin0))
        have f_1162 : Ary Z h_1145 a_959 (.array .int) [(.ref a_167), (.ref a_208), .null] := f_1125.sm (Sm.keep K_1146 (ninS n_1113 nin0))
        have f_1163 : Exa Z h_1145 a_1039 "com/example/doppelgrep/doppelgrep/engine/Group" := f_1126.sm (Sm.keep K_1146 (ninS n_1114 nin0))
        have f_1164 : Fld Z h_1145 a_1039 "com/example/doppelgrep/doppelgrep/engine/Group" "tokens" "I" (.int t0) := f_1127.sm (Sm.keep K_1146 (ninS n_1114 nin0))
        have f_1165 : Fld Z h_1145 a_1039 "com/example/doppelgrep/doppelgrep/engine/Group" "starts" "[I" (.ref a_100) := f_1128.sm (Sm.keep K_1146 (ninS n_1114 nin0))
        have f_1166 : Fld Z h_1145 a_1039 "com/example/doppelgrep/doppelgrep/engine/Group" "ends" "[I" .null := f_1129.sm (Sm.keep K_1146 (ninS n_1114 nin0))
        have f_1167 : Fld Z h_1145 a_1039 "com/example/doppelgrep/doppelgrep/engine/Group" "gapped" "Z" (.int (0 : Int32)) := f_1130.sm (Sm.keep K_1146 (ninS n_1114 nin0))
        have f_1168 : Fld Z h_1145 a_1039 "com/example/doppelgrep/doppelgrep/engine/Group" "runs" "[[I" .null := f_1131.sm (Sm.keep K_1146 (ninS n_1114 nin0))
        have f_1169 : Exa Z h_1145 a_1104 "com/example/doppelgrep/doppelgrep/engine/Group" := A_1107.keep K_1146
        have t_1175 : a_100 < h_1145.size := Nat.lt_of_lt_of_le t_1132 K_1146.1
        have t_1176 : a_127 < h_1145.size := Nat.lt_of_lt_of_le t_1133 K_1146.1
        have t_1177 : a_167 < h_1145.size := Nat.lt_of_lt_of_le t_1134 K_1146.1
        have t_1178 : a_208 < h_1145.size := Nat.lt_of_lt_of_le t_1135 K_1146.1
        have t_1179 : a_959 < h_1145.size := Nat.lt_of_lt_of_le t_1136 K_1146.1
        have t_1180 : a_1039 < h_1145.size := Nat.lt_of_lt_of_le t_1137 K_1146.1
        have t_1181 : a_1104 < h_1145.size := Nat.lt_of_lt_of_le t_1139 K_1146.1
        have z_1182 : n0 ≤ h_1145.size := Nat.le_trans z_1138 K_1146.1
        show (Go false l room_1 Z x code maxLocals ret n0 32 128 (fun v h => v = some (.int 1))) h_1145 (0 + 1 + 1 + 1 + 1 + 1 + 1 + 0 + 1 + 0) (0 + 3 + 3 + 2 + 0 + 3 + 5 + 0 + 5 + 0) 176 #[.val (.int t0), .val (.int p0), .val (.int x0), .val (.int x1), .val (.int g0), .val (.int p_97), .val (.ref a_100), .val (.ref a_127), .val (.ref a_167), .val (.ref a_208), .val .null, .val (.ref a_959), .val (.int s), .val (.ref a_127), .val (.ref a_1039), .unset, .unset, .unset] [(.ref a_1104)]
        refine Go.astore (pc' := 178) (Ls' := #[.val (.int t0), .val (.int p0), .val (.int x0), .val (.int x1), .val (.int g0), .val (.int p_97), .val (.ref a_100), .val (.ref a_127), .val (.ref a_167), .val (.ref a_208), .val .null, .val (.ref a_959), .val (.int s), .val (.ref a_127), .val (.ref a_1039), .val (.ref a_1104), .unset, .unset]) at_176 rfl rfl rfl ?_
        refine Go.newO (pc' := 181) (hw _ (List.mem_of_getElem? (i := 5) rfl)) (hw _ (List.mem_of_getElem? (i := 6) rfl)) (hw _ (List.mem_of_getElem? (i := 7) rfl)) at_178 (by decide) (by decide) rfl ?_
        intro h_1183 a_1184 q_1185 E_1186 A_1187 D_1188
        have n_1189 : a_100 ≠ a_1184 := Nat.ne_of_lt (q_1185 ▸ t_1175)
        have n_1190 : a_127 ≠ a_1184 := Nat.ne_of_lt (q_1185 ▸ t_1176)
        have n_1191 : a_167 ≠ a_1184 := Nat.ne_of_lt (q_1185 ▸ t_1177)
        have n_1192 : a_208 ≠ a_1184 := Nat.ne_of_lt (q_1185 ▸ t_1178)
        have n_1193 : a_959 ≠ a_1184 := Nat.ne_of_lt (q_1185 ▸ t_1179)
        have n_1194 : a_1039 ≠ a_1184 := Nat.ne_of_lt (q_1185 ▸ t_1180)
        have n_1195 : a_1104 ≠ a_1184 := Nat.ne_of_lt (q_1185 ▸ t_1181)
        have g_1196 : n0 ≤ a_1184 := q_1185 ▸ z_1182
        have f_1197 : Exa Z h_1183 a_100 "[I" := f_1153.sm (Sm.ext E_1186)
        have f_1198 : Ary Z h_1183 a_100 .int [(.int x0), (.int (x0 + (1 : Int32))), (.int (x0 + (2 : Int32)))] := f_1154.sm (Sm.ext E_1186)
        have f_1199 : Exa Z h_1183 a_127 "[I" := f_1155.sm (Sm.ext E_1186)
        have f_1200 : Ary Z h_1183 a_127 .int [(.int x1), (.int (x1 + (1 : Int32))), (.int (x1 + (2 : Int32)))] := f_1156.sm (Sm.ext E_1186)
        have f_1201 : Exa Z h_1183 a_167 "[I" := f_1157.sm (Sm.ext E_1186)
        have f_1202 : Ary Z h_1183 a_167 .int [(.int x0), (.int x1)] := f_1158.sm (Sm.ext E_1186)
        have f_1203 : Ary Z h_1183 a_208 .int [] := f_1159.sm (Sm.ext E_1186)
        have f_1204 : Exa Z h_1183 a_208 "[I" := f_1160.sm (Sm.ext E_1186)
        have f_1205 : Ova Z h_1183 a_959 .int "[I" := f_1161.sm (Sm.ext E_1186)
        have f_1206 : Ary Z h_1183 a_959 (.array .int) [(.ref a_167), (.ref a_208), .null] := f_1162.sm (Sm.ext E_1186)
        have f_1207 : Exa Z h_1183 a_1039 "com/example/doppelgrep/doppelgrep/engine/Group" := f_1163.sm (Sm.ext E_1186)
        have f_1208 : Fld Z h_1183 a_1039 "com/example/doppelgrep/doppelgrep/engine/Group" "tokens" "I" (.int t0) := f_1164.sm (Sm.ext E_1186)
        have f_1209 : Fld Z h_1183 a_1039 "com/example/doppelgrep/doppelgrep/engine/Group" "starts" "[I" (.ref a_100) := f_1165.sm (Sm.ext E_1186)
        have f_1210 : Fld Z h_1183 a_1039 "com/example/doppelgrep/doppelgrep/engine/Group" "ends" "[I" .null := f_1166.sm (Sm.ext E_1186)
        have f_1211 : Fld Z h_1183 a_1039 "com/example/doppelgrep/doppelgrep/engine/Group" "gapped" "Z" (.int (0 : Int32)) := f_1167.sm (Sm.ext E_1186)
        have f_1212 : Fld Z h_1183 a_1039 "com/example/doppelgrep/doppelgrep/engine/Group" "runs" "[[I" .null := f_1168.sm (Sm.ext E_1186)
        have f_1213 : Exa Z h_1183 a_1104 "com/example/doppelgrep/doppelgrep/engine/Group" := f_1169.sm (Sm.ext E_1186)
        have f_1214 : Fld Z h_1183 a_1104 "com/example/doppelgrep/doppelgrep/engine/Group" "tokens" "I" (.int t0) := F_1148.sm (Sm.ext E_1186)
        have f_1215 : Fld Z h_1183 a_1104 "com/example/doppelgrep/doppelgrep/engine/Group" "starts" "[I" (.ref a_100) := F_1149.sm (Sm.ext E_1186)
        have f_1216 : Fld Z h_1183 a_1104 "com/example/doppelgrep/doppelgrep/engine/Group" "ends" "[I" (.ref a_127) := F_1150.sm (Sm.ext E_1186)
        have f_1217 : Fld Z h_1183 a_1104 "com/example/doppelgrep/doppelgrep/engine/Group" "gapped" "Z" (.int s) := F_1151.sm (Sm.ext E_1186)
        have f_1218 : Fld Z h_1183 a_1104 "com/example/doppelgrep/doppelgrep/engine/Group" "runs" "[[I" .null := F_1152.sm (Sm.ext E_1186)
        have t_1219 : a_100 < h_1183.size := Nat.lt_of_lt_of_le t_1175 E_1186.1
        have t_1220 : a_127 < h_1183.size := Nat.lt_of_lt_of_le t_1176 E_1186.1
        have t_1221 : a_167 < h_1183.size := Nat.lt_of_lt_of_le t_1177 E_1186.1
        have t_1222 : a_208 < h_1183.size := Nat.lt_of_lt_of_le t_1178 E_1186.1
        have t_1223 : a_959 < h_1183.size := Nat.lt_of_lt_of_le t_1179 E_1186.1
        have t_1224 : a_1039 < h_1183.size := Nat.lt_of_lt_of_le t_1180 E_1186.1
        have t_1225 : a_1104 < h_1183.size := Nat.lt_of_lt_of_le t_1181 E_1186.1
        have z_1226 : n0 ≤ h_1183.size := Nat.le_trans z_1182 E_1186.1
        have t_1227 : a_1184 < h_1183.size := A_1187.lt
        have f_1228 : Fld Z h_1183 a_1184 "com/example/doppelgrep/doppelgrep/engine/Group" "tokens" "I" (.int (0 : Int32)) := D_1188 (Or.inr (hw _ (List.mem_of_getElem? (i := 18) rfl))) (ty := .int) (by decide)
        have f_1229 : Fld Z h_1183 a_1184 "com/example/doppelgrep/doppelgrep/engine/Group" "starts" "[I" .null := D_1188 (Or.inr (hw _ (List.mem_of_getElem? (i := 20) rfl))) (ty := (.array .int)) (by decide)
        have f_1230 : Fld Z h_1183 a_1184 "com/example/doppelgrep/doppelgrep/engine/Group" "ends" "[I" .null := D_1188 (Or.inr (hw _ (List.mem_of_getElem? (i := 22) rfl))) (ty := (.array .int)) (by decide)
        have f_1231 : Fld Z h_1183 a_1184 "com/example/doppelgrep/doppelgrep/engine/Group" "gapped" "Z" (.int (0 : Int32)) := D_1188 (Or.inr (hw _ (List.mem_of_getElem? (i := 24) rfl))) (ty := .boolean) (by decide)
        have f_1232 : Fld Z h_1183 a_1184 "com/example/doppelgrep/doppelgrep/engine/Group" "runs" "[[I" .null := D_1188 (Or.inr (hw _ (List.mem_of_getElem? (i := 26) rfl))) (ty := (.array (.array .int))) (by decide)
        refine Go.dup (pc' := 182) at_181 rfl rfl ?_
        refine Go.iloadN (pc' := 183) at_182 rfl rfl ?_
        refine Go.aload (pc' := 185) at_183 rfl rfl rfl ?_
        refine Go.aload (pc' := 187) at_185 rfl rfl rfl ?_
        refine Go.iload (pc' := 189) at_187 rfl rfl ?_
        refine Go.aload (pc' := 191) at_189 rfl rfl rfl ?_
        refine Go.callN (pc' := 194) (argsL := [(.int t0), (.ref a_100), (.ref a_127), (.int s), (.ref a_959)]) (rest := [(.ref a_1184)]) (W := 1) rfl (hw _ (List.mem_of_getElem? (i := 30) rfl)) (hw _ (List.mem_of_getElem? (i := 12) rfl)) (hw _ (List.mem_of_getElem? (i := 7) rfl)) (hw _ (List.mem_of_getElem? (i := 13) rfl)) (by decide) (m_full l Z a0 hw a_1184 t0 (.ref a_100) (.ref a_127) s (.ref a_959) h_1183 n0 z_1226 A_1187 f_1228 f_1229 f_1230 f_1231 f_1232 g_1196 rfl rfl hs rfl) at_191 rfl pd0 rfl rfl (Nat.le_of_eq rfl) (by decide) (by decide) (by decide) (by decide) rfl ?_
        rintro _ h_1233 ⟨rfl, K_1234, E_1235, F_1236, F_1237, F_1238, F_1239, F_1240⟩
        have f_1241 : Exa Z h_1233 a_100 "[I" := f_1197.sm (Sm.keep K_1234 (ninS n_1189 nin0))
        have f_1242 : Ary Z h_1233 a_100 .int [(.int x0), (.int (x0 + (1 : Int32))), (.int (x0 + (2 : Int32)))] := f_1198.sm (Sm.keep K_1234 (ninS n_1189 nin0))
        have f_1243 : Exa Z h_1233 a_127 "[I" := f_1199.sm (Sm.keep K_1234 (ninS n_1190 nin0))
        have f_1244 : Ary Z h_1233 a_127 .int [(.int x1), (.int (x1 + (1 : Int32))), (.int (x1 + (2 : Int32)))] := f_1200.sm (Sm.keep K_1234 (ninS n_1190 nin0))
        have f_1245 : Exa Z h_1233 a_167 "[I" := f_1201.sm (Sm.keep K_1234 (ninS n_1191 nin0))
        have f_1246 : Ary Z h_1233 a_167 .int [(.int x0), (.int x1)] := f_1202.sm (Sm.keep K_1234 (ninS n_1191 nin0))
        have f_1247 : Ary Z h_1233 a_208 .int [] := f_1203.sm (Sm.keep K_1234 (ninS n_1192 nin0))
        have f_1248 : Exa Z h_1233 a_208 "[I" := f_1204.sm (Sm.keep K_1234 (ninS n_1192 nin0))
        have f_1249 : Ova Z h_1233 a_959 .int "[I" := f_1205.sm (Sm.keep K_1234 (ninS n_1193 nin0))
        have f_1250 : Ary Z h_1233 a_959 (.array .int) [(.ref a_167), (.ref a_208), .null] := f_1206.sm (Sm.keep K_1234 (ninS n_1193 nin0))
        have f_1251 : Exa Z h_1233 a_1039 "com/example/doppelgrep/doppelgrep/engine/Group" := f_1207.sm (Sm.keep K_1234 (ninS n_1194 nin0))
        have f_1252 : Fld Z h_1233 a_1039 "com/example/doppelgrep/doppelgrep/engine/Group" "tokens" "I" (.int t0) := f_1208.sm (Sm.keep K_1234 (ninS n_1194 nin0))
        have f_1253 : Fld Z h_1233 a_1039 "com/example/doppelgrep/doppelgrep/engine/Group" "starts" "[I" (.ref a_100) := f_1209.sm (Sm.keep K_1234 (ninS n_1194 nin0))
        have f_1254 : Fld Z h_1233 a_1039 "com/example/doppelgrep/doppelgrep/engine/Group" "ends" "[I" .null := f_1210.sm (Sm.keep K_1234 (ninS n_1194 nin0))
        have f_1255 : Fld Z h_1233 a_1039 "com/example/doppelgrep/doppelgrep/engine/Group" "gapped" "Z" (.int (0 : Int32)) := f_1211.sm (Sm.keep K_1234 (ninS n_1194 nin0))
        have f_1256 : Fld Z h_1233 a_1039 "com/example/doppelgrep/doppelgrep/engine/Group" "runs" "[[I" .null := f_1212.sm (Sm.keep K_1234 (ninS n_1194 nin0))
        have f_1257 : Exa Z h_1233 a_1104 "com/example/doppelgrep/doppelgrep/engine/Group" := f_1213.sm (Sm.keep K_1234 (ninS n_1195 nin0))
        have f_1258 : Fld Z h_1233 a_1104 "com/example/doppelgrep/doppelgrep/engine/Group" "tokens" "I" (.int t0) := f_1214.sm (Sm.keep K_1234 (ninS n_1195 nin0))
        have f_1259 : Fld Z h_1233 a_1104 "com/example/doppelgrep/doppelgrep/engine/Group" "starts" "[I" (.ref a_100) := f_1215.sm (Sm.keep K_1234 (ninS n_1195 nin0))
        have f_1260 : Fld Z h_1233 a_1104 "com/example/doppelgrep/doppelgrep/engine/Group" "ends" "[I" (.ref a_127) := f_1216.sm (Sm.keep K_1234 (ninS n_1195 nin0))
        have f_1261 : Fld Z h_1233 a_1104 "com/example/doppelgrep/doppelgrep/engine/Group" "gapped" "Z" (.int s) := f_1217.sm (Sm.keep K_1234 (ninS n_1195 nin0))
        have f_1262 : Fld Z h_1233 a_1104 "com/example/doppelgrep/doppelgrep/engine/Group" "runs" "[[I" .null := f_1218.sm (Sm.keep K_1234 (ninS n_1195 nin0))
        have f_1263 : Exa Z h_1233 a_1184 "com/example/doppelgrep/doppelgrep/engine/Group" := A_1187.keep K_1234
        have t_1269 : a_100 < h_1233.size := Nat.lt_of_lt_of_le t_1219 K_1234.1
        have t_1270 : a_127 < h_1233.size := Nat.lt_of_lt_of_le t_1220 K_1234.1
        have t_1271 : a_167 < h_1233.size := Nat.lt_of_lt_of_le t_1221 K_1234.1
        have t_1272 : a_208 < h_1233.size := Nat.lt_of_lt_of_le t_1222 K_1234.1
        have t_1273 : a_959 < h_1233.size := Nat.lt_of_lt_of_le t_1223 K_1234.1
        have t_1274 : a_1039 < h_1233.size := Nat.lt_of_lt_of_le t_1224 K_1234.1
        have t_1275 : a_1104 < h_1233.size := Nat.lt_of_lt_of_le t_1225 K_1234.1
        have t_1276 : a_1184 < h_1233.size := Nat.lt_of_lt_of_le t_1227 K_1234.1
        have z_1277 : n0 ≤ h_1233.size := Nat.le_trans z_1226 K_1234.1
        show (Go false l room_1 Z x code maxLocals ret n0 32 128 (fun v h => v = some (.int 1))) h_1233 (0 + 1 + 1 + 1 + 1 + 1 + 1 + 0 + 1 + 0 + 1 + 0) (0 + 3 + 3 + 2 + 0 + 3 + 5 + 0 + 5 + 0 + 5 + 0) 194 #[.val (.int t0), .val (.int p0), .val (.int x0), .val (.int x1), .val (.int g0), .val (.int p_97), .val (.ref a_100), .val (.ref a_127), .val (.ref a_167), .val (.ref a_208), .val .null, .val (.ref a_959), .val (.int s), .val (.ref a_127), .val (.ref a_1039), .val (.ref a_1104), .unset, .unset] [(.ref a_1184)]
        refine Go.astore (pc' := 196) (Ls' := #[.val (.int t0), .val (.int p0), .val (.int x0), .val (.int x1), .val (.int g0), .val (.int p_97), .val (.ref a_100), .val (.ref a_127), .val (.ref a_167), .val (.ref a_208), .val .null, .val (.ref a_959), .val (.int s), .val (.ref a_127), .val (.ref a_1039), .val (.ref a_1104), .val (.ref a_1184), .unset]) at_194 rfl rfl rfl ?_
        refine Go.iload (pc' := 198) at_196 rfl rfl ?_
        clear ep_97
        rcases k_98 with k_98 | k_98 | k_98
        · obtain rfl : p_97 = (0 : Int32) := Int32.toInt_inj.mp k_98
          refine Go.ifc (pc1 := 206) (pc2 := 201) at_198 (by decide) (by decide) rfl (fun (c_1278 : (0 : Int) ≠ 0) => ?_) (fun (c_1278 : (0 : Int) = 0) => ?_)
          · exact absurd c_1278 (by decide)
          refine Go.aload (pc' := 203) at_201 rfl rfl rfl ?_
          refine Go.goto (pc' := 219) at_203 (by decide) (by decide) ?_
          refine Go.astore (pc' := 221) (Ls' := #[.val (.int t0), .val (.int p0), .val (.int x0), .val (.int x1), .val (.int g0), .val (.int (0 : Int32)), .val (.ref a_100), .val (.ref a_127), .val (.ref a_167), .val (.ref a_208), .val .null, .val (.ref a_959), .val (.int s), .val (.ref a_127), .val (.ref a_1039), .val (.ref a_1104), .val (.ref a_1184), .val (.ref a_167)]) at_219 rfl rfl rfl ?_
          refine Go.aload (pc' := 223) at_221 rfl rfl rfl ?_
          refine Go.iload (pc' := 225) at_223 rfl rfl ?_
          refine Go.callV (pc' := 228) (argsL := [(.int (0 : Int32))]) (rest := []) (W := 0) (hw _ (List.mem_of_getElem? (i := 31) rfl)) (hw _ (List.mem_of_getElem? (i := 32) rfl)) (hw _ (List.mem_of_getElem? (i := 34) rfl)) (hw _ (List.mem_of_getElem? (i := 33) rfl)) (hw _ (List.mem_of_getElem? (i := 7) rfl)) (hw _ (List.mem_of_getElem? (i := 35) rfl)) (by decide) f_1251 (m_rN l Z a0 hw a_1039 (0 : Int32) h_1233 n0 z_1277 f_1256) at_225 rfl pd3 rfl rfl (Nat.le_of_eq rfl) (by decide) (by decide) (by decide) (by decide) rfl ?_
          rintro _ _ ⟨rfl, rfl⟩
          show (Go false l room_1 Z x code maxLocals ret n0 32 128 (fun v h => v = some (.int 1))) h_1233 (0 + 1 + 1 + 1 + 1 + 1 + 1 + 0 + 1 + 0 + 1 + 0 + 0) (0 + 3 + 3 + 2 + 0 + 3 + 5 + 0 + 5 + 0 + 5 + 0 + 0) 228 #[.val (.int t0), .val (.int p0), .val (.int x0), .val (.int x1), .val (.int g0), .val (.int (0 : Int32)), .val (.ref a_100), .val (.ref a_127), .val (.ref a_167), .val (.ref a_208), .val .null, .val (.ref a_959), .val (.int s), .val (.ref a_127), .val (.ref a_1039), .val (.ref a_1104), .val (.ref a_1184), .val (.ref a_167)] [.null]
          refine Go.nonnullNo (pc' := 231) at_228 rfl ?_
          refine Go.aload (pc' := 233) at_231 rfl rfl rfl ?_
          refine Go.iload (pc' := 235) at_233 rfl rfl ?_
          refine Go.callV (pc' := 238) (argsL := [(.int (0 : Int32))]) (rest := []) (W := 0) (hw _ (List.mem_of_getElem? (i := 31) rfl)) (hw _ (List.mem_of_getElem? (i := 32) rfl)) (hw _ (List.mem_of_getElem? (i := 34) rfl)) (hw _ (List.mem_of_getElem? (i := 33) rfl)) (hw _ (List.mem_of_getElem? (i := 7) rfl)) (hw _ (List.mem_of_getElem? (i := 35) rfl)) (by decide) f_1257 (m_rN l Z a0 hw a_1104 (0 : Int32) h_1233 n0 z_1277 f_1262) at_235 rfl pd3 rfl rfl (Nat.le_of_eq rfl) (by decide) (by decide) (by decide) (by decide) rfl ?_
          rintro _ _ ⟨rfl, rfl⟩
          show (Go false l room_1 Z x code maxLocals ret n0 32 128 (fun v h => v = some (.int 1))) h_1233 (0 + 1 + 1 + 1 + 1 + 1 + 1 + 0 + 1 + 0 + 1 + 0 + 0 + 0) (0 + 3 + 3 + 2 + 0 + 3 + 5 + 0 + 5 + 0 + 5 + 0 + 0 + 0) 238 #[.val (.int t0), .val (.int p0), .val (.int x0), .val (.int x1), .val (.int g0), .val (.int (0 : Int32)), .val (.ref a_100), .val (.ref a_127), .val (.ref a_167), .val (.ref a_208), .val .null, .val (.ref a_959), .val (.int s), .val (.ref a_127), .val (.ref a_1039), .val (.ref a_1104), .val (.ref a_1184), .val (.ref a_167)] [.null]
          refine Go.nonnullNo (pc' := 241) at_238 rfl ?_
          refine Go.aload (pc' := 243) at_241 rfl rfl rfl ?_
          refine Go.iload (pc' := 245) at_243 rfl rfl ?_
          refine Go.callV (pc' := 248) (argsL := [(.int (0 : Int32))]) (rest := []) (W := 0) (hw _ (List.mem_of_getElem? (i := 31) rfl)) (hw _ (List.mem_of_getElem? (i := 32) rfl)) (hw _ (List.mem_of_getElem? (i := 34) rfl)) (hw _ (List.mem_of_getElem? (i := 33) rfl)) (hw _ (List.mem_of_getElem? (i := 7) rfl)) (hw _ (List.mem_of_getElem? (i := 35) rfl)) (by decide) f_1263 (m_rR l Z a0 hw a_1184 a_959 (0 : Int32) (.ref a_167) 0 [(.ref a_167), (.ref a_208), .null] h_1233 n0 z_1277 F_1240 f_1250 rfl rfl rfl) at_245 rfl pd3 rfl rfl (Nat.le_of_eq rfl) (by decide) (by decide) (by decide) (by decide) rfl ?_
          rintro _ _ ⟨rfl, rfl⟩
          show (Go false l room_1 Z x code maxLocals ret n0 32 128 (fun v h => v = some (.int 1))) h_1233 (0 + 1 + 1 + 1 + 1 + 1 + 1 + 0 + 1 + 0 + 1 + 0 + 0 + 0 + 0) (0 + 3 + 3 + 2 + 0 + 3 + 5 + 0 + 5 + 0 + 5 + 0 + 0 + 0 + 0) 248 #[.val (.int t0), .val (.int p0), .val (.int x0), .val (.int x1), .val (.int g0), .val (.int (0 : Int32)), .val (.ref a_100), .val (.ref a_127), .val (.ref a_167), .val (.ref a_208), .val .null, .val (.ref a_959), .val (.int s), .val (.ref a_127), .val (.ref a_1039), .val (.ref a_1104), .val (.ref a_1184), .val (.ref a_167)] [(.ref a_167)]
          refine Go.aload (pc' := 250) at_248 rfl rfl rfl ?_
          refine Go.acmp (pc1 := 253) (pc2 := 257) at_250 rfl rfl (by decide) (by decide) (by decide) (fun c_1279 => ?_) (fun c_1279 => absurd rfl c_1279)
          refine Go.iconst (pc' := 254) (v := (1 : Int32)) at_253 rfl rfl ?_
          refine Go.goto (pc' := 258) at_254 (by decide) (by decide) ?_
          exact Go.retN (t := .boolean) at_258 rfl (by simp) rfl rfl (by decide) (by decide)
        · obtain rfl : p_97 = (1 : Int32) := Int32.toInt_inj.mp k_98
          refine Go.ifc (pc1 := 206) (pc2 := 201) at_198 (by decide) (by decide) rfl (fun (c_1280 : (1 : Int) ≠ 0) => ?_) (fun (c_1280 : (1 : Int) = 0) => ?_)
          rotate_left
          · exact absurd c_1280 (by decide)
          refine Go.iload (pc' := 208) at_206 rfl rfl ?_
          refine Go.iconst (pc' := 209) (v := (1 : Int32)) at_208 rfl rfl ?_
          refine Go.icmp (pc1 := 217) (pc2 := 212) at_209 (by decide) (by decide) rfl (fun (c_1281 : (1 : Int) ≠ (1 : Int)) => ?_) (fun (c_1281 : (1 : Int) = (1 : Int)) => ?_)
          · exact absurd c_1281 (by decide)
          refine Go.aload (pc' := 214) at_212 rfl rfl rfl ?_
          refine Go.goto (pc' := 219) at_214 (by decide) (by decide) ?_
          refine Go.astore (pc' := 221) (Ls' := #[.val (.int t0), .val (.int p0), .val (.int x0), .val (.int x1), .val (.int g0), .val (.int (1 : Int32)), .val (.ref a_100), .val (.ref a_127), .val (.ref a_167), .val (.ref a_208), .val .null, .val (.ref a_959), .val (.int s), .val (.ref a_127), .val (.ref a_1039), .val (.ref a_1104), .val (.ref a_1184), .val (.ref a_208)]) at_219 rfl rfl rfl ?_
          refine Go.aload (pc' := 223) at_221 rfl rfl rfl ?_
          refine Go.iload (pc' := 225) at_223 rfl rfl ?_
          refine Go.callV (pc' := 228) (argsL := [(.int (1 : Int32))]) (rest := []) (W := 0) (hw _ (List.mem_of_getElem? (i := 31) rfl)) (hw _ (List.mem_of_getElem? (i := 32) rfl)) (hw _ (List.mem_of_getElem? (i := 34) rfl)) (hw _ (List.mem_of_getElem? (i := 33) rfl)) (hw _ (List.mem_of_getElem? (i := 7) rfl)) (hw _ (List.mem_of_getElem? (i := 35) rfl)) (by decide) f_1251 (m_rN l Z a0 hw a_1039 (1 : Int32) h_1233 n0 z_1277 f_1256) at_225 rfl pd3 rfl rfl (Nat.le_of_eq rfl) (by decide) (by decide) (by decide) (by decide) rfl ?_
          rintro _ _ ⟨rfl, rfl⟩
          show (Go false l room_1 Z x code maxLocals ret n0 32 128 (fun v h => v = some (.int 1))) h_1233 (0 + 1 + 1 + 1 + 1 + 1 + 1 + 0 + 1 + 0 + 1 + 0 + 0) (0 + 3 + 3 + 2 + 0 + 3 + 5 + 0 + 5 + 0 + 5 + 0 + 0) 228 #[.val (.int t0), .val (.int p0), .val (.int x0), .val (.int x1), .val (.int g0), .val (.int (1 : Int32)), .val (.ref a_100), .val (.ref a_127), .val (.ref a_167), .val (.ref a_208), .val .null, .val (.ref a_959), .val (.int s), .val (.ref a_127), .val (.ref a_1039), .val (.ref a_1104), .val (.ref a_1184), .val (.ref a_208)] [.null]
          refine Go.nonnullNo (pc' := 231) at_228 rfl ?_
          refine Go.aload (pc' := 233) at_231 rfl rfl rfl ?_
          refine Go.iload (pc' := 235) at_233 rfl rfl ?_
          refine Go.callV (pc' := 238) (argsL := [(.int (1 : Int32))]) (rest := []) (W := 0) (hw _ (List.mem_of_getElem? (i := 31) rfl)) (hw _ (List.mem_of_getElem? (i := 32) rfl)) (hw _ (List.mem_of_getElem? (i := 34) rfl)) (hw _ (List.mem_of_getElem? (i := 33) rfl)) (hw _ (List.mem_of_getElem? (i := 7) rfl)) (hw _ (List.mem_of_getElem? (i := 35) rfl)) (by decide) f_1257 (m_rN l Z a0 hw a_1104 (1 : Int32) h_1233 n0 z_1277 f_1262) at_235 rfl pd3 rfl rfl (Nat.le_of_eq rfl) (by decide) (by decide) (by decide) (by decide) rfl ?_
          rintro _ _ ⟨rfl, rfl⟩
          show (Go false l room_1 Z x code maxLocals ret n0 32 128 (fun v h => v = some (.int 1))) h_1233 (0 + 1 + 1 + 1 + 1 + 1 + 1 + 0 + 1 + 0 + 1 + 0 + 0 + 0) (0 + 3 + 3 + 2 + 0 + 3 + 5 + 0 + 5 + 0 + 5 + 0 + 0 + 0) 238 #[.val (.int t0), .val (.int p0), .val (.int x0), .val (.int x1), .val (.int g0), .val (.int (1 : Int32)), .val (.ref a_100), .val (.ref a_127), .val (.ref a_167), .val (.ref a_208), .val .null, .val (.ref a_959), .val (.int s), .val (.ref a_127), .val (.ref a_1039), .val (.ref a_1104), .val (.ref a_1184), .val (.ref a_208)] [.null]
          refine Go.nonnullNo (pc' := 241) at_238 rfl ?_
          refine Go.aload (pc' := 243) at_241 rfl rfl rfl ?_
          refine Go.iload (pc' := 245) at_243 rfl rfl ?_
          refine Go.callV (pc' := 248) (argsL := [(.int (1 : Int32))]) (rest := []) (W := 0) (hw _ (List.mem_of_getElem? (i := 31) rfl)) (hw _ (List.mem_of_getElem? (i := 32) rfl)) (hw _ (List.mem_of_getElem? (i := 34) rfl)) (hw _ (List.mem_of_getElem? (i := 33) rfl)) (hw _ (List.mem_of_getElem? (i := 7) rfl)) (hw _ (List.mem_of_getElem? (i := 35) rfl)) (by decide) f_1263 (m_rR l Z a0 hw a_1184 a_959 (1 : Int32) (.ref a_208) 1 [(.ref a_167), (.ref a_208), .null] h_1233 n0 z_1277 F_1240 f_1250 rfl rfl rfl) at_245 rfl pd3 rfl rfl (Nat.le_of_eq rfl) (by decide) (by decide) (by decide) (by decide) rfl ?_
          rintro _ _ ⟨rfl, rfl⟩
          show (Go false l room_1 Z x code maxLocals ret n0 32 128 (fun v h => v = some (.int 1))) h_1233 (0 + 1 + 1 + 1 + 1 + 1 + 1 + 0 + 1 + 0 + 1 + 0 + 0 + 0 + 0) (0 + 3 + 3 + 2 + 0 + 3 + 5 + 0 + 5 + 0 + 5 + 0 + 0 + 0 + 0) 248 #[.val (.int t0), .val (.int p0), .val (.int x0), .val (.int x1), .val (.int g0), .val (.int (1 : Int32)), .val (.ref a_100), .val (.ref a_127), .val (.ref a_167), .val (.ref a_208), .val .null, .val (.ref a_959), .val (.int s), .val (.ref a_127), .val (.ref a_1039), .val (.ref a_1104), .val (.ref a_1184), .val (.ref a_208)] [(.ref a_208)]
          refine Go.aload (pc' := 250) at_248 rfl rfl rfl ?_
          refine Go.acmp (pc1 := 253) (pc2 := 257) at_250 rfl rfl (by decide) (by decide) (by decide) (fun c_1282 => ?_) (fun c_1282 => absurd rfl c_1282)
          refine Go.iconst (pc' := 254) (v := (1 : Int32)) at_253 rfl rfl ?_
          refine Go.goto (pc' := 258) at_254 (by decide) (by decide) ?_
          exact Go.retN (t := .boolean) at_258 rfl (by simp) rfl rfl (by decide) (by decide)
        · obtain rfl : p_97 = (2 : Int32) := Int32.toInt_inj.mp k_98
          refine Go.ifc (pc1 := 206) (pc2 := 201) at_198 (by decide) (by decide) rfl (fun (c_1283 : (2 : Int) ≠ 0) => ?_) (fun (c_1283 : (2 : Int) = 0) => ?_)
          rotate_left
          · exact absurd c_1283 (by decide)
          refine Go.iload (pc' := 208) at_206 rfl rfl ?_
          refine Go.iconst (pc' := 209) (v := (1 : Int32)) at_208 rfl rfl ?_
          refine Go.icmp (pc1 := 217) (pc2 := 212) at_209 (by decide) (by decide) rfl (fun (c_1284 : (2 : Int) ≠ (1 : Int)) => ?_) (fun (c_1284 : (2 : Int) = (1 : Int)) => ?_)
          rotate_left
          · exact absurd c_1284 (by decide)
          refine Go.aload (pc' := 219) at_217 rfl rfl rfl ?_
          refine Go.astore (pc' := 221) (Ls' := #[.val (.int t0), .val (.int p0), .val (.int x0), .val (.int x1), .val (.int g0), .val (.int (2 : Int32)), .val (.ref a_100), .val (.ref a_127), .val (.ref a_167), .val (.ref a_208), .val .null, .val (.ref a_959), .val (.int s), .val (.ref a_127), .val (.ref a_1039), .val (.ref a_1104), .val (.ref a_1184), .val .null]) at_219 rfl rfl rfl ?_
          refine Go.aload (pc' := 223) at_221 rfl rfl rfl ?_
          refine Go.iload (pc' := 225) at_223 rfl rfl ?_
          refine Go.callV (pc' := 228) (argsL := [(.int (2 : Int32))]) (rest := []) (W := 0) (hw _ (List.mem_of_getElem? (i := 31) rfl)) (hw _ (List.mem_of_getElem? (i := 32) rfl)) (hw _ (List.mem_of_getElem? (i := 34) rfl)) (hw _ (List.mem_of_getElem? (i := 33) rfl)) (hw _ (List.mem_of_getElem? (i := 7) rfl)) (hw _ (List.mem_of_getElem? (i := 35) rfl)) (by decide) f_1251 (m_rN l Z a0 hw a_1039 (2 : Int32) h_1233 n0 z_1277 f_1256) at_225 rfl pd3 rfl rfl (Nat.le_of_eq rfl) (by decide) (by decide) (by decide) (by decide) rfl ?_
          rintro _ _ ⟨rfl, rfl⟩
          show (Go false l room_1 Z x code maxLocals ret n0 32 128 (fun v h => v = some (.int 1))) h_1233 (0 + 1 + 1 + 1 + 1 + 1 + 1 + 0 + 1 + 0 + 1 + 0 + 0) (0 + 3 + 3 + 2 + 0 + 3 + 5 + 0 + 5 + 0 + 5 + 0 + 0) 228 #[.val (.int t0), .val (.int p0), .val (.int x0), .val (.int x1), .val (.int g0), .val (.int (2 : Int32)), .val (.ref a_100), .val (.ref a_127), .val (.ref a_167), .val (.ref a_208), .val .null, .val (.ref a_959), .val (.int s), .val (.ref a_127), .val (.ref a_1039), .val (.ref a_1104), .val (.ref a_1184), .val .null] [.null]
          refine Go.nonnullNo (pc' := 231) at_228 rfl ?_
          refine Go.aload (pc' := 233) at_231 rfl rfl rfl ?_
          refine Go.iload (pc' := 235) at_233 rfl rfl ?_
          refine Go.callV (pc' := 238) (argsL := [(.int (2 : Int32))]) (rest := []) (W := 0) (hw _ (List.mem_of_getElem? (i := 31) rfl)) (hw _ (List.mem_of_getElem? (i := 32) rfl)) (hw _ (List.mem_of_getElem? (i := 34) rfl)) (hw _ (List.mem_of_getElem? (i := 33) rfl)) (hw _ (List.mem_of_getElem? (i := 7) rfl)) (hw _ (List.mem_of_getElem? (i := 35) rfl)) (by decide) f_1257 (m_rN l Z a0 hw a_1104 (2 : Int32) h_1233 n0 z_1277 f_1262) at_235 rfl pd3 rfl rfl (Nat.le_of_eq rfl) (by decide) (by decide) (by decide) (by decide) rfl ?_
          rintro _ _ ⟨rfl, rfl⟩
          show (Go false l room_1 Z x code maxLocals ret n0 32 128 (fun v h => v = some (.int 1))) h_1233 (0 + 1 + 1 + 1 + 1 + 1 + 1 + 0 + 1 + 0 + 1 + 0 + 0 + 0) (0 + 3 + 3 + 2 + 0 + 3 + 5 + 0 + 5 + 0 + 5 + 0 + 0 + 0) 238 #[.val (.int t0), .val (.int p0), .val (.int x0), .val (.int x1), .val (.int g0), .val (.int (2 : Int32)), .val (.ref a_100), .val (.ref a_127), .val (.ref a_167), .val (.ref a_208), .val .null, .val (.ref a_959), .val (.int s), .val (.ref a_127), .val (.ref a_1039), .val (.ref a_1104), .val (.ref a_1184), .val .null] [.null]
          refine Go.nonnullNo (pc' := 241) at_238 rfl ?_
          refine Go.aload (pc' := 243) at_241 rfl rfl rfl ?_
          refine Go.iload (pc' := 245) at_243 rfl rfl ?_
          refine Go.callV (pc' := 248) (argsL := [(.int (2 : Int32))]) (rest := []) (W := 0) (hw _ (List.mem_of_getElem? (i := 31) rfl)) (hw _ (List.mem_of_getElem? (i := 32) rfl)) (hw _ (List.mem_of_getElem? (i := 34) rfl)) (hw _ (List.mem_of_getElem? (i := 33) rfl)) (hw _ (List.mem_of_getElem? (i := 7) rfl)) (hw _ (List.mem_of_getElem? (i := 35) rfl)) (by decide) f_1263 (m_rR l Z a0 hw a_1184 a_959 (2 : Int32) .null 2 [(.ref a_167), (.ref a_208), .null] h_1233 n0 z_1277 F_1240 f_1250 rfl rfl rfl) at_245 rfl pd3 rfl rfl (Nat.le_of_eq rfl) (by decide) (by decide) (by decide) (by decide) rfl ?_
          rintro _ _ ⟨rfl, rfl⟩
          show (Go false l room_1 Z x code maxLocals ret n0 32 128 (fun v h => v = some (.int 1))) h_1233 (0 + 1 + 1 + 1 + 1 + 1 + 1 + 0 + 1 + 0 + 1 + 0 + 0 + 0 + 0) (0 + 3 + 3 + 2 + 0 + 3 + 5 + 0 + 5 + 0 + 5 + 0 + 0 + 0 + 0) 248 #[.val (.int t0), .val (.int p0), .val (.int x0), .val (.int x1), .val (.int g0), .val (.int (2 : Int32)), .val (.ref a_100), .val (.ref a_127), .val (.ref a_167), .val (.ref a_208), .val .null, .val (.ref a_959), .val (.int s), .val (.ref a_127), .val (.ref a_1039), .val (.ref a_1104), .val (.ref a_1184), .val .null] [.null]
          refine Go.aload (pc' := 250) at_248 rfl rfl rfl ?_
          refine Go.acmp (pc1 := 253) (pc2 := 257) at_250 rfl rfl (by decide) (by decide) (by decide) (fun c_1285 => ?_) (fun c_1285 => absurd rfl c_1285)
          refine Go.iconst (pc' := 254) (v := (1 : Int32)) at_253 rfl rfl ?_
          refine Go.goto (pc' := 258) at_254 (by decide) (by decide) ?_
          exact Go.retN (t := .boolean) at_258 rfl (by simp) rfl rfl (by decide) (by decide)
      · refine Go.aconstNull (pc' := 143) at_142 rfl ?_
        refine Go.goto (pc' := 148) at_143 (by decide) (by decide) ?_
        refine Go.astore (pc' := 150) (Ls' := #[.val (.int t0), .val (.int p0), .val (.int x0), .val (.int x1), .val (.int g0), .val (.int p_97), .val (.ref a_100), .val (.ref a_127), .val (.ref a_167), .val (.ref a_208), .val .null, .val (.ref a_959), .val (.int s), .val .null, .unset, .unset, .unset, .unset]) at_148 rfl rfl rfl ?_
        refine Go.newO (pc' := 153) (hw _ (List.mem_of_getElem? (i := 5) rfl)) (hw _ (List.mem_of_getElem? (i := 6) rfl)) (hw _ (List.mem_of_getElem? (i := 7) rfl)) at_150 (by decide) (by decide) rfl ?_
        intro h_1286 a_1287 q_1288 E_1289 A_1290 D_1291
        have n_1292 : a_100 ≠ a_1287 := Nat.ne_of_lt (q_1288 ▸ t_1031)
        have n_1293 : a_127 ≠ a_1287 := Nat.ne_of_lt (q_1288 ▸ t_1032)
        have n_1294 : a_167 ≠ a_1287 := Nat.ne_of_lt (q_1288 ▸ t_1033)
        have n_1295 : a_208 ≠ a_1287 := Nat.ne_of_lt (q_1288 ▸ t_1034)
        have n_1296 : a_959 ≠ a_1287 := Nat.ne_of_lt (q_1288 ▸ t_1035)
        have g_1297 : n0 ≤ a_1287 := q_1288 ▸ z_1036
        have f_1298 : Exa Z h_1286 a_100 "[I" := f_1022.sm (Sm.ext E_1289)
        have f_1299 : Ary Z h_1286 a_100 .int [(.int x0), (.int (x0 + (1 : Int32))), (.int (x0 + (2 : Int32)))] := f_1023.sm (Sm.ext E_1289)
        have f_1300 : Exa Z h_1286 a_127 "[I" := f_1024.sm (Sm.ext E_1289)
        have f_1301 : Ary Z h_1286 a_127 .int [(.int x1), (.int (x1 + (1 : Int32))), (.int (x1 + (2 : Int32)))] := f_1025.sm (Sm.ext E_1289)
        have f_1302 : Exa Z h_1286 a_167 "[I" := f_1026.sm (Sm.ext E_1289)
        have f_1303 : Ary Z h_1286 a_167 .int [(.int x0), (.int x1)] := f_1027.sm (Sm.ext E_1289)
        have f_1304 : Ary Z h_1286 a_208 .int [] := f_1028.sm (Sm.ext E_1289)
        have f_1305 : Exa Z h_1286 a_208 "[I" := f_1029.sm (Sm.ext E_1289)
        have f_1306 : Ova Z h_1286 a_959 .int "[I" := f_1030.sm (Sm.ext E_1289)
        have f_1307 : Ary Z h_1286 a_959 (.array .int) [(.ref a_167), (.ref a_208), .null] := A_1021.sm (Sm.ext E_1289)
        have t_1308 : a_100 < h_1286.size := Nat.lt_of_lt_of_le t_1031 E_1289.1
        have t_1309 : a_127 < h_1286.size := Nat.lt_of_lt_of_le t_1032 E_1289.1
        have t_1310 : a_167 < h_1286.size := Nat.lt_of_lt_of_le t_1033 E_1289.1
        have t_1311 : a_208 < h_1286.size := Nat.lt_of_lt_of_le t_1034 E_1289.1
        have t_1312 : a_959 < h_1286.size := Nat.lt_of_lt_of_le t_1035 E_1289.1
        have z_1313 : n0 ≤ h_1286.size := Nat.le_trans z_1036 E_1289.1
        have t_1314 : a_1287 < h_1286.size := A_1290.lt
        have f_1315 : Fld Z h_1286 a_1287 "com/example/doppelgrep/doppelgrep/engine/Group" "tokens" "I" (.int (0 : Int32)) := D_1291 (Or.inr (hw _ (List.mem_of_getElem? (i := 18) rfl))) (ty := .int) (by decide)
        have f_1316 : Fld Z h_1286 a_1287 "com/example/doppelgrep/doppelgrep/engine/Group" "starts" "[I" .null := D_1291 (Or.inr (hw _ (List.mem_of_getElem? (i := 20) rfl))) (ty := (.array .int)) (by decide)
        have f_1317 : Fld Z h_1286 a_1287 "com/example/doppelgrep/doppelgrep/engine/Group" "ends" "[I" .null := D_1291 (Or.inr (hw _ (List.mem_of_getElem? (i := 22) rfl))) (ty := (.array .int)) (by decide)
        have f_1318 : Fld Z h_1286 a_1287 "com/example/doppelgrep/doppelgrep/engine/Group" "gapped" "Z" (.int (0 : Int32)) := D_1291 (Or.inr (hw _ (List.mem_of_getElem? (i := 24) rfl))) (ty := .boolean) (by decide)
        have f_1319 : Fld Z h_1286 a_1287 "com/example/doppelgrep/doppelgrep/engine/Group" "runs" "[[I" .null := D_1291 (Or.inr (hw _ (List.mem_of_getElem? (i := 26) rfl))) (ty := (.array (.array .int))) (by decide)
        refine Go.dup (pc' := 154) at_153 rfl rfl ?_
        refine Go.iloadN (pc' := 155) at_154 rfl rfl ?_
        refine Go.aload (pc' := 157) at_155 rfl rfl rfl ?_
        refine Go.callN (pc' := 160) (argsL := [(.int t0), (.ref a_100)]) (rest := [(.ref a_1287)]) (W := 1) rfl (hw _ (List.mem_of_getElem? (i := 8) rfl)) (hw _ (List.mem_of_getElem? (i := 9) rfl)) (hw _ (List.mem_of_getElem? (i := 7) rfl)) (hw _ (List.mem_of_getElem? (i := 10) rfl)) (by decide) (m_two l Z a0 hw a_1287 t0 (.ref a_100) h_1286 n0 z_1313 A_1290 f_1315 f_1316 f_1317 f_1318 f_1319 g_1297 rfl) at_157 rfl pd1 rfl rfl (Nat.le_of_eq rfl) (by decide) (by decide) (by decide) (by decide) rfl ?_
        rintro _ h_1320 ⟨rfl, K_1321, E_1322, F_1323, F_1324, F_1325, F_1326, F_1327⟩
        have f_1328 : Exa Z h_1320 a_100 "[I" := f_1298.sm (Sm.keep K_1321 (ninS n_1292 nin0))
        have f_1329 : Ary Z h_1320 a_100 .int [(.int x0), (.int (x0 + (1 : Int32))), (.int (x0 + (2 : Int32)))] := f_1299.sm (Sm.keep K_1321 (ninS n_1292 nin0))
        have f_1330 : Exa Z h_1320 a_127 "[I" := f_1300.sm (Sm.keep K_1321 (ninS n_1293 nin0))
        have f_1331 : Ary Z h_1320 a_127 .int [(.int x1), (.int (x1 + (1 : Int32))), (.int (x1 + (2 : Int32)))] := f_1301.sm (Sm.keep K_1321 (ninS n_1293 nin0))
        have f_1332 : Exa Z h_1320 a_167 "[I" := f_1302.sm (Sm.keep K_1321 (ninS n_1294 nin0))
        have f_1333 : Ary Z h_1320 a_167 .int [(.int x0), (.int x1)] := f_1303.sm (Sm.keep K_1321 (ninS n_1294 nin0))
        have f_1334 : Ary Z h_1320 a_208 .int [] := f_1304.sm (Sm.keep K_1321 (ninS n_1295 nin0))
        have f_1335 : Exa Z h_1320 a_208 "[I" := f_1305.sm (Sm.keep K_1321 (ninS n_1295 nin0))
        have f_1336 : Ova Z h_1320 a_959 .int "[I" := f_1306.sm (Sm.keep K_1321 (ninS n_1296 nin0))
        have f_1337 : Ary Z h_1320 a_959 (.array .int) [(.ref a_167), (.ref a_208), .null] := f_1307.sm (Sm.keep K_1321 (ninS n_1296 nin0))
        have f_1338 : Exa Z h_1320 a_1287 "com/example/doppelgrep/doppelgrep/engine/Group" := A_1290.keep K_1321
        have t_1344 : a_100 < h_1320.size := Nat.lt_of_lt_of_le t_1308 K_1321.1
        have t_1345 : a_127 < h_1320.size := Nat.lt_of_lt_of_le t_1309 K_1321.1
        have t_1346 : a_167 < h_1320.size := Nat.lt_of_lt_of_le t_1310 K_1321.1
        have t_1347 : a_208 < h_1320.size := Nat.lt_of_lt_of_le t_1311 K_1321.1
        have t_1348 : a_959 < h_1320.size := Nat.lt_of_lt_of_le t_1312 K_1321.1
        have t_1349 : a_1287 < h_1320.size := Nat.lt_of_lt_of_le t_1314 K_1321.1
        have z_1350 : n0 ≤ h_1320.size := Nat.le_trans z_1313 K_1321.1
        show (Go false l room_1 Z x code maxLocals ret n0 32 128 (fun v h => v = some (.int 1))) h_1320 (0 + 1 + 1 + 1 + 1 + 1 + 1 + 0) (0 + 3 + 3 + 2 + 0 + 3 + 5 + 0) 160 #[.val (.int t0), .val (.int p0), .val (.int x0), .val (.int x1), .val (.int g0), .val (.int p_97), .val (.ref a_100), .val (.ref a_127), .val (.ref a_167), .val (.ref a_208), .val .null, .val (.ref a_959), .val (.int s), .val .null, .unset, .unset, .unset, .unset] [(.ref a_1287)]
        refine Go.astore (pc' := 162) (Ls' := #[.val (.int t0), .val (.int p0), .val (.int x0), .val (.int x1), .val (.int g0), .val (.int p_97), .val (.ref a_100), .val (.ref a_127), .val (.ref a_167), .val (.ref a_208), .val .null, .val (.ref a_959), .val (.int s), .val .null, .val (.ref a_1287), .unset, .unset, .unset]) at_160 rfl rfl rfl ?_
        refine Go.newO (pc' := 165) (hw _ (List.mem_of_getElem? (i := 5) rfl)) (hw _ (List.mem_of_getElem? (i := 6) rfl)) (hw _ (List.mem_of_getElem? (i := 7) rfl)) at_162 (by decide) (by decide) rfl ?_
        intro h_1351 a_1352 q_1353 E_1354 A_1355 D_1356
        have n_1357 : a_100 ≠ a_1352 := Nat.ne_of_lt (q_1353 ▸ t_1344)
        have n_1358 : a_127 ≠ a_1352 := Nat.ne_of_lt (q_1353 ▸ t_1345)
        have n_1359 : a_167 ≠ a_1352 := Nat.ne_of_lt (q_1353 ▸ t_1346)
        have n_1360 : a_208 ≠ a_1352 := Nat.ne_of_lt (q_1353 ▸ t_1347)
        have n_1361 : a_959 ≠ a_1352 := Nat.ne_of_lt (q_1353 ▸ t_1348)
        have n_1362 : a_1287 ≠ a_1352 := Nat.ne_of_lt (q_1353 ▸ t_1349)
        have g_1363 : n0 ≤ a_1352 := q_1353 ▸ z_1350
        have f_1364 : Exa Z h_1351 a_100 "[I" := f_1328.sm (Sm.ext E_1354)
        have f_1365 : Ary Z h_1351 a_100 .int [(.int x0), (.int (x0 + (1 : Int32))), (.int (x0 + (2 : Int32)))] := f_1329.sm (Sm.ext E_1354)
        have f_1366 : Exa Z h_1351 a_127 "[I" := f_1330.sm (Sm.ext E_1354)
        have f_1367 : Ary Z h_1351 a_127 .int [(.int x1), (.int (x1 + (1 : Int32))), (.int (x1 + (2 : Int32)))] := f_1331.sm (Sm.ext E_1354)
        have f_1368 : Exa Z h_1351 a_167 "[I" := f_1332.sm (Sm.ext E_1354)
        have f_1369 : Ary Z h_1351 a_167 .int [(.int x0), (.int x1)] := f_1333.sm (Sm.ext E_1354)
        have f_1370 : Ary Z h_1351 a_208 .int [] := f_1334.sm (Sm.ext E_1354)
        have f_1371 : Exa Z h_1351 a_208 "[I" := f_1335.sm (Sm.ext E_1354)
        have f_1372 : Ova Z h_1351 a_959 .int "[I" := f_1336.sm (Sm.ext E_1354)
        have f_1373 : Ary Z h_1351 a_959 (.array .int) [(.ref a_167), (.ref a_208), .null] := f_1337.sm (Sm.ext E_1354)
        have f_1374 : Exa Z h_1351 a_1287 "com/example/doppelgrep/doppelgrep/engine/Group" := f_1338.sm (Sm.ext E_1354)
        have f_1375 : Fld Z h_1351 a_1287 "com/example/doppelgrep/doppelgrep/engine/Group" "tokens" "I" (.int t0) := F_1323.sm (Sm.ext E_1354)
        have f_1376 : Fld Z h_1351 a_1287 "com/example/doppelgrep/doppelgrep/engine/Group" "starts" "[I" (.ref a_100) := F_1324.sm (Sm.ext E_1354)
        have f_1377 : Fld Z h_1351 a_1287 "com/example/doppelgrep/doppelgrep/engine/Group" "ends" "[I" .null := F_1325.sm (Sm.ext E_1354)
        have f_1378 : Fld Z h_1351 a_1287 "com/example/doppelgrep/doppelgrep/engine/Group" "gapped" "Z" (.int (0 : Int32)) := F_1326.sm (Sm.ext E_1354)
        have f_1379 : Fld Z h_1351 a_1287 "com/example/doppelgrep/doppelgrep/engine/Group" "runs" "[[I" .null := F_1327.sm (Sm.ext E_1354)
        have t_1380 : a_100 < h_1351.size := Nat.lt_of_lt_of_le t_1344 E_1354.1
        have t_1381 : a_127 < h_1351.size := Nat.lt_of_lt_of_le t_1345 E_1354.1
        have t_1382 : a_167 < h_1351.size := Nat.lt_of_lt_of_le t_1346 E_1354.1
        have t_1383 : a_208 < h_1351.size := Nat.lt_of_lt_of_le t_1347 E_1354.1
        have t_1384 : a_959 < h_1351.size := Nat.lt_of_lt_of_le t_1348 E_1354.1
        have t_1385 : a_1287 < h_1351.size := Nat.lt_of_lt_of_le t_1349 E_1354.1
        have z_1386 : n0 ≤ h_1351.size := Nat.le_trans z_1350 E_1354.1
        have t_1387 : a_1352 < h_1351.size := A_1355.lt
        have f_1388 : Fld Z h_1351 a_1352 "com/example/doppelgrep/doppelgrep/engine/Group" "tokens" "I" (.int (0 : Int32)) := D_1356 (Or.inr (hw _ (List.mem_of_getElem? (i := 18) rfl))) (ty := .int) (by decide)
        have f_1389 : Fld Z h_1351 a_1352 "com/example/doppelgrep/doppelgrep/engine/Group" "starts" "[I" .null := D_1356 (Or.inr (hw _ (List.mem_of_getElem? (i := 20) rfl))) (ty := (.array .int)) (by decide)
        have f_1390 : Fld Z h_1351 a_1352 "com/example/doppelgrep/doppelgrep/engine/Group" "ends" "[I" .null := D_1356 (Or.inr (hw _ (List.mem_of_getElem? (i := 22) rfl))) (ty := (.array .int)) (by decide)
        have f_1391 : Fld Z h_1351 a_1352 "com/example/doppelgrep/doppelgrep/engine/Group" "gapped" "Z" (.int (0 : Int32)) := D_1356 (Or.inr (hw _ (List.mem_of_getElem? (i := 24) rfl))) (ty := .boolean) (by decide)
        have f_1392 : Fld Z h_1351 a_1352 "com/example/doppelgrep/doppelgrep/engine/Group" "runs" "[[I" .null := D_1356 (Or.inr (hw _ (List.mem_of_getElem? (i := 26) rfl))) (ty := (.array (.array .int))) (by decide)
        refine Go.dup (pc' := 166) at_165 rfl rfl ?_
        refine Go.iloadN (pc' := 167) at_166 rfl rfl ?_
        refine Go.aload (pc' := 169) at_167 rfl rfl rfl ?_
        refine Go.aload (pc' := 171) at_169 rfl rfl rfl ?_
        refine Go.iload (pc' := 173) at_171 rfl rfl ?_
        refine Go.callN (pc' := 176) (argsL := [(.int t0), (.ref a_100), .null, (.int s)]) (rest := [(.ref a_1352)]) (W := 1) rfl (hw _ (List.mem_of_getElem? (i := 27) rfl)) (hw _ (List.mem_of_getElem? (i := 28) rfl)) (hw _ (List.mem_of_getElem? (i := 7) rfl)) (hw _ (List.mem_of_getElem? (i := 29) rfl)) (by decide) (m_four l Z a0 hw a_1352 t0 (.ref a_100) .null s h_1351 n0 z_1386 A_1355 f_1388 f_1389 f_1390 f_1391 f_1392 g_1363 rfl rfl hs) at_173 rfl pd2 rfl rfl (Nat.le_of_eq rfl) (by decide) (by decide) (by decide) (by decide) rfl ?_
        rintro _ h_1393 ⟨rfl, K_1394, E_1395, F_1396, F_1397, F_1398, F_1399, F_1400⟩
        have f_1401 : Exa Z h_1393 a_100 "[I" := f_1364.sm (Sm.keep K_1394 (ninS n_1357 nin0))
        have f_1402 : Ary Z h_1393 a_100 .int [(.int x0), (.int (x0 + (1 : Int32))), (.int (x0 + (2 : Int32)))] := f_1365.sm (Sm.keep K_1394 (ninS n_1357 nin0))
        have f_1403 : Exa Z h_1393 a_127 "[I" := f_1366.sm (Sm.keep K_1394 (ninS n_1358 nin0))
        have f_1404 : Ary Z h_1393 a_127 .int [(.int x1), (.int (x1 + (1 : Int32))), (.int (x1 + (2 : Int32)))] := f_1367.sm (Sm.keep K_1394 (ninS n_1358 nin0))
        have f_1405 : Exa Z h_1393 a_167 "[I" := f_1368.sm (Sm.keep K_1394 (ninS n_1359 nin0))
        have f_1406 : Ary Z h_1393 a_167 .int [(.int x0), (.int x1)] := f_1369.sm (Sm.keep K_1394 (ninS n_1359 nin0))
        have f_1407 : Ary Z h_1393 a_208 .int [] := f_1370.sm (Sm.keep K_1394 (ninS n_1360 nin0))
        have f_1408 : Exa Z h_1393 a_208 "[I" := f_1371.sm (Sm.keep K_1394 (ninS n_1360 nin0))
        have f_1409 : Ova Z h_1393 a_959 .int "[I" := f_1372.sm (Sm.keep K_1394 (ninS n_1361 nin0))
        have f_1410 : Ary Z h_1393 a_959 (.array .int) [(.ref a_167), (.ref a_208), .null] := f_1373.sm (Sm.keep K_1394 (ninS n_1361 nin0))
        have f_1411 : Exa Z h_1393 a_1287 "com/example/doppelgrep/doppelgrep/engine/Group" := f_1374.sm (Sm.keep K_1394 (ninS n_1362 nin0))
        have f_1412 : Fld Z h_1393 a_1287 "com/example/doppelgrep/doppelgrep/engine/Group" "tokens" "I" (.int t0) := f_1375.sm (Sm.keep K_1394 (ninS n_1362 nin0))
        have f_1413 : Fld Z h_1393 a_1287 "com/example/doppelgrep/doppelgrep/engine/Group" "starts" "[I" (.ref a_100) := f_1376.sm (Sm.keep K_1394 (ninS n_1362 nin0))
        have f_1414 : Fld Z h_1393 a_1287 "com/example/doppelgrep/doppelgrep/engine/Group" "ends" "[I" .null := f_1377.sm (Sm.keep K_1394 (ninS n_1362 nin0))
        have f_1415 : Fld Z h_1393 a_1287 "com/example/doppelgrep/doppelgrep/engine/Group" "gapped" "Z" (.int (0 : Int32)) := f_1378.sm (Sm.keep K_1394 (ninS n_1362 nin0))
        have f_1416 : Fld Z h_1393 a_1287 "com/example/doppelgrep/doppelgrep/engine/Group" "runs" "[[I" .null := f_1379.sm (Sm.keep K_1394 (ninS n_1362 nin0))
        have f_1417 : Exa Z h_1393 a_1352 "com/example/doppelgrep/doppelgrep/engine/Group" := A_1355.keep K_1394
        have t_1423 : a_100 < h_1393.size := Nat.lt_of_lt_of_le t_1380 K_1394.1
        have t_1424 : a_127 < h_1393.size := Nat.lt_of_lt_of_le t_1381 K_1394.1
        have t_1425 : a_167 < h_1393.size := Nat.lt_of_lt_of_le t_1382 K_1394.1
        have t_1426 : a_208 < h_1393.size := Nat.lt_of_lt_of_le t_1383 K_1394.1
        have t_1427 : a_959 < h_1393.size := Nat.lt_of_lt_of_le t_1384 K_1394.1
        have t_1428 : a_1287 < h_1393.size := Nat.lt_of_lt_of_le t_1385 K_1394.1
        have t_1429 : a_1352 < h_1393.size := Nat.lt_of_lt_of_le t_1387 K_1394.1
        have z_1430 : n0 ≤ h_1393.size := Nat.le_trans z_1386 K_1394.1
        show (Go false l room_1 Z x code maxLocals ret n0 32 128 (fun v h => v = some (.int 1))) h_1393 (0 + 1 + 1 + 1 + 1 + 1 + 1 + 0 + 1 + 0) (0 + 3 + 3 + 2 + 0 + 3 + 5 + 0 + 5 + 0) 176 #[.val (.int t0), .val (.int p0), .val (.int x0), .val (.int x1), .val (.int g0), .val (.int p_97), .val (.ref a_100), .val (.ref a_127), .val (.ref a_167), .val (.ref a_208), .val .null, .val (.ref a_959), .val (.int s), .val .null, .val (.ref a_1287), .unset, .unset, .unset] [(.ref a_1352)]
        refine Go.astore (pc' := 178) (Ls' := #[.val (.int t0), .val (.int p0), .val (.int x0), .val (.int x1), .val (.int g0), .val (.int p_97), .val (.ref a_100), .val (.ref a_127), .val (.ref a_167), .val (.ref a_208), .val .null, .val (.ref a_959), .val (.int s), .val .null, .val (.ref a_1287), .val (.ref a_1352), .unset, .unset]) at_176 rfl rfl rfl ?_
        refine Go.newO (pc' := 181) (hw _ (List.mem_of_getElem? (i := 5) rfl)) (hw _ (List.mem_of_getElem? (i := 6) rfl)) (hw _ (List.mem_of_getElem? (i := 7) rfl)) at_178 (by decide) (by decide) rfl ?_
        intro h_1431 a_1432 q_1433 E_1434 A_1435 D_1436
        have n_1437 : a_100 ≠ a_1432 := Nat.ne_of_lt (q_1433 ▸ t_1423)
        have n_1438 : a_127 ≠ a_1432 := Nat.ne_of_lt (q_1433 ▸ t_1424)
        have n_1439 : a_167 ≠ a_1432 := Nat.ne_of_lt (q_1433 ▸ t_1425)
        have n_1440 : a_208 ≠ a_1432 := Nat.ne_of_lt (q_1433 ▸ t_1426)
        have n_1441 : a_959 ≠ a_1432 := Nat.ne_of_lt (q_1433 ▸ t_1427)
        have n_1442 : a_1287 ≠ a_1432 := Nat.ne_of_lt (q_1433 ▸ t_1428)
        have n_1443 : a_1352 ≠ a_1432 := Nat.ne_of_lt (q_1433 ▸ t_1429)
        have g_1444 : n0 ≤ a_1432 := q_1433 ▸ z_1430
        have f_1445 : Exa Z h_1431 a_100 "[I" := f_1401.sm (Sm.ext E_1434)
        have f_1446 : Ary Z h_1431 a_100 .int [(.int x0), (.int (x0 + (1 : Int32))), (.int (x0 + (2 : Int32)))] := f_1402.sm (Sm.ext E_1434)
        have f_1447 : Exa Z h_1431 a_127 "[I" := f_1403.sm (Sm.ext E_1434)
        have f_1448 : Ary Z h_1431 a_127 .int [(.int x1), (.int (x1 + (1 : Int32))), (.int (x1 + (2 : Int32)))] := f_1404.sm (Sm.ext E_1434)
        have f_1449 : Exa Z h_1431 a_167 "[I" := f_1405.sm (Sm.ext E_1434)
        have f_1450 : Ary Z h_1431 a_167 .int [(.int x0), (.int x1)] := f_1406.sm (Sm.ext E_1434)
        have f_1451 : Ary Z h_1431 a_208 .int [] := f_1407.sm (Sm.ext E_1434)
        have f_1452 : Exa Z h_1431 a_208 "[I" := f_1408.sm (Sm.ext E_1434)
        have f_1453 : Ova Z h_1431 a_959 .int "[I" := f_1409.sm (Sm.ext E_1434)
        have f_1454 : Ary Z h_1431 a_959 (.array .int) [(.ref a_167), (.ref a_208), .null] := f_1410.sm (Sm.ext E_1434)
        have f_1455 : Exa Z h_1431 a_1287 "com/example/doppelgrep/doppelgrep/engine/Group" := f_1411.sm (Sm.ext E_1434)
        have f_1456 : Fld Z h_1431 a_1287 "com/example/doppelgrep/doppelgrep/engine/Group" "tokens" "I" (.int t0) := f_1412.sm (Sm.ext E_1434)
        have f_1457 : Fld Z h_1431 a_1287 "com/example/doppelgrep/doppelgrep/engine/Group" "starts" "[I" (.ref a_100) := f_1413.sm (Sm.ext E_1434)
        have f_1458 : Fld Z h_1431 a_1287 "com/example/doppelgrep/doppelgrep/engine/Group" "ends" "[I" .null := f_1414.sm (Sm.ext E_1434)
        have f_1459 : Fld Z h_1431 a_1287 "com/example/doppelgrep/doppelgrep/engine/Group" "gapped" "Z" (.int (0 : Int32)) := f_1415.sm (Sm.ext E_1434)
        have f_1460 : Fld Z h_1431 a_1287 "com/example/doppelgrep/doppelgrep/engine/Group" "runs" "[[I" .null := f_1416.sm (Sm.ext E_1434)
        have f_1461 : Exa Z h_1431 a_1352 "com/example/doppelgrep/doppelgrep/engine/Group" := f_1417.sm (Sm.ext E_1434)
        have f_1462 : Fld Z h_1431 a_1352 "com/example/doppelgrep/doppelgrep/engine/Group" "tokens" "I" (.int t0) := F_1396.sm (Sm.ext E_1434)
        have f_1463 : Fld Z h_1431 a_1352 "com/example/doppelgrep/doppelgrep/engine/Group" "starts" "[I" (.ref a_100) := F_1397.sm (Sm.ext E_1434)
        have f_1464 : Fld Z h_1431 a_1352 "com/example/doppelgrep/doppelgrep/engine/Group" "ends" "[I" .null := F_1398.sm (Sm.ext E_1434)
        have f_1465 : Fld Z h_1431 a_1352 "com/example/doppelgrep/doppelgrep/engine/Group" "gapped" "Z" (.int s) := F_1399.sm (Sm.ext E_1434)
        have f_1466 : Fld Z h_1431 a_1352 "com/example/doppelgrep/doppelgrep/engine/Group" "runs" "[[I" .null := F_1400.sm (Sm.ext E_1434)
        have t_1467 : a_100 < h_1431.size := Nat.lt_of_lt_of_le t_1423 E_1434.1
        have t_1468 : a_127 < h_1431.size := Nat.lt_of_lt_of_le t_1424 E_1434.1
        have t_1469 : a_167 < h_1431.size := Nat.lt_of_lt_of_le t_1425 E_1434.1
        have t_1470 : a_208 < h_1431.size := Nat.lt_of_lt_of_le t_1426 E_1434.1
        have t_1471 : a_959 < h_1431.size := Nat.lt_of_lt_of_le t_1427 E_1434.1
        have t_1472 : a_1287 < h_1431.size := Nat.lt_of_lt_of_le t_1428 E_1434.1
        have t_1473 : a_1352 < h_1431.size := Nat.lt_of_lt_of_le t_1429 E_1434.1
        have z_1474 : n0 ≤ h_1431.size := Nat.le_trans z_1430 E_1434.1
        have t_1475 : a_1432 < h_1431.size := A_1435.lt
        have f_1476 : Fld Z h_1431 a_1432 "com/example/doppelgrep/doppelgrep/engine/Group" "tokens" "I" (.int (0 : Int32)) := D_1436 (Or.inr (hw _ (List.mem_of_getElem? (i := 18) rfl))) (ty := .int) (by decide)
        have f_1477 : Fld Z h_1431 a_1432 "com/example/doppelgrep/doppelgrep/engine/Group" "starts" "[I" .null := D_1436 (Or.inr (hw _ (List.mem_of_getElem? (i := 20) rfl))) (ty := (.array .int)) (by decide)
        have f_1478 : Fld Z h_1431 a_1432 "com/example/doppelgrep/doppelgrep/engine/Group" "ends" "[I" .null := D_1436 (Or.inr (hw _ (List.mem_of_getElem? (i := 22) rfl))) (ty := (.array .int)) (by decide)
        have f_1479 : Fld Z h_1431 a_1432 "com/example/doppelgrep/doppelgrep/engine/Group" "gapped" "Z" (.int (0 : Int32)) := D_1436 (Or.inr (hw _ (List.mem_of_getElem? (i := 24) rfl))) (ty := .boolean) (by decide)
        have f_1480 : Fld Z h_1431 a_1432 "com/example/doppelgrep/doppelgrep/engine/Group" "runs" "[[I" .null := D_1436 (Or.inr (hw _ (List.mem_of_getElem? (i := 26) rfl))) (ty := (.array (.array .int))) (by decide)
        refine Go.dup (pc' := 182) at_181 rfl rfl ?_
        refine Go.iloadN (pc' := 183) at_182 rfl rfl ?_
        refine Go.aload (pc' := 185) at_183 rfl rfl rfl ?_
        refine Go.aload (pc' := 187) at_185 rfl rfl rfl ?_
        refine Go.iload (pc' := 189) at_187 rfl rfl ?_
        refine Go.aload (pc' := 191) at_189 rfl rfl rfl ?_
        refine Go.callN (pc' := 194) (argsL := [(.int t0), (.ref a_100), .null, (.int s), (.ref a_959)]) (rest := [(.ref a_1432)]) (W := 1) rfl (hw _ (List.mem_of_getElem? (i := 30) rfl)) (hw _ (List.mem_of_getElem? (i := 12) rfl)) (hw _ (List.mem_of_getElem? (i := 7) rfl)) (hw _ (List.mem_of_getElem? (i := 13) rfl)) (by decide) (m_full l Z a0 hw a_1432 t0 (.ref a_100) .null s (.ref a_959) h_1431 n0 z_1474 A_1435 f_1476 f_1477 f_1478 f_1479 f_1480 g_1444 rfl rfl hs rfl) at_191 rfl pd0 rfl rfl (Nat.le_of_eq rfl) (by decide) (by decide) (by decide) (by decide) rfl ?_
        rintro _ h_1481 ⟨rfl, K_1482, E_1483, F_1484, F_1485, F_1486, F_1487, F_1488⟩
        have f_1489 : Exa Z h_1481 a_100 "[I" := f_1445.sm (Sm.keep K_1482 (ninS n_1437 nin0))
        have f_1490 : Ary Z h_1481 a_100 .int [(.int x0), (.int (x0 + (1 : Int32))), (.int (x0 + (2 : Int32)))] := f_1446.sm (Sm.keep K_1482 (ninS n_1437 nin0))
        have f_1491 : Exa Z h_1481 a_127 "[I" := f_1447.sm (Sm.keep K_1482 (ninS n_1438 nin0))
        have f_1492 : Ary Z h_1481 a_127 .int [(.int x1), (.int (x1 + (1 : Int32))), (.int (x1 + (2 : Int32)))] := f_1448.sm (Sm.keep K_1482 (ninS n_1438 nin0))
        have f_1493 : Exa Z h_1481 a_167 "[I" := f_1449.sm (Sm.keep K_1482 (ninS n_1439 nin0))
        have f_1494 : Ary Z h_1481 a_167 .int [(.int x0), (.int x1)] := f_1450.sm (Sm.keep K_1482 (ninS n_1439 nin0))
        have f_1495 : Ary Z h_1481 a_208 .int [] := f_1451.sm (Sm.keep K_1482 (ninS n_1440 nin0))
        have f_1496 : Exa Z h_1481 a_208 "[I" := f_1452.sm (Sm.keep K_1482 (ninS n_1440 nin0))
        have f_1497 : Ova Z h_1481 a_959 .int "[I" := f_1453.sm (Sm.keep K_1482 (ninS n_1441 nin0))
        have f_1498 : Ary Z h_1481 a_959 (.array .int) [(.ref a_167), (.ref a_208), .null] := f_1454.sm (Sm.keep K_1482 (ninS n_1441 nin0))
        have f_1499 : Exa Z h_1481 a_1287 "com/example/doppelgrep/doppelgrep/engine/Group" := f_1455.sm (Sm.keep K_1482 (ninS n_1442 nin0))
        have f_1500 : Fld Z h_1481 a_1287 "com/example/doppelgrep/doppelgrep/engine/Group" "tokens" "I" (.int t0) := f_1456.sm (Sm.keep K_1482 (ninS n_1442 nin0))
        have f_1501 : Fld Z h_1481 a_1287 "com/example/doppelgrep/doppelgrep/engine/Group" "starts" "[I" (.ref a_100) := f_1457.sm (Sm.keep K_1482 (ninS n_1442 nin0))
        have f_1502 : Fld Z h_1481 a_1287 "com/example/doppelgrep/doppelgrep/engine/Group" "ends" "[I" .null := f_1458.sm (Sm.keep K_1482 (ninS n_1442 nin0))
        have f_1503 : Fld Z h_1481 a_1287 "com/example/doppelgrep/doppelgrep/engine/Group" "gapped" "Z" (.int (0 : Int32)) := f_1459.sm (Sm.keep K_1482 (ninS n_1442 nin0))
        have f_1504 : Fld Z h_1481 a_1287 "com/example/doppelgrep/doppelgrep/engine/Group" "runs" "[[I" .null := f_1460.sm (Sm.keep K_1482 (ninS n_1442 nin0))
        have f_1505 : Exa Z h_1481 a_1352 "com/example/doppelgrep/doppelgrep/engine/Group" := f_1461.sm (Sm.keep K_1482 (ninS n_1443 nin0))
        have f_1506 : Fld Z h_1481 a_1352 "com/example/doppelgrep/doppelgrep/engine/Group" "tokens" "I" (.int t0) := f_1462.sm (Sm.keep K_1482 (ninS n_1443 nin0))
        have f_1507 : Fld Z h_1481 a_1352 "com/example/doppelgrep/doppelgrep/engine/Group" "starts" "[I" (.ref a_100) := f_1463.sm (Sm.keep K_1482 (ninS n_1443 nin0))
        have f_1508 : Fld Z h_1481 a_1352 "com/example/doppelgrep/doppelgrep/engine/Group" "ends" "[I" .null := f_1464.sm (Sm.keep K_1482 (ninS n_1443 nin0))
        have f_1509 : Fld Z h_1481 a_1352 "com/example/doppelgrep/doppelgrep/engine/Group" "gapped" "Z" (.int s) := f_1465.sm (Sm.keep K_1482 (ninS n_1443 nin0))
        have f_1510 : Fld Z h_1481 a_1352 "com/example/doppelgrep/doppelgrep/engine/Group" "runs" "[[I" .null := f_1466.sm (Sm.keep K_1482 (ninS n_1443 nin0))
        have f_1511 : Exa Z h_1481 a_1432 "com/example/doppelgrep/doppelgrep/engine/Group" := A_1435.keep K_1482
        have t_1517 : a_100 < h_1481.size := Nat.lt_of_lt_of_le t_1467 K_1482.1
        have t_1518 : a_127 < h_1481.size := Nat.lt_of_lt_of_le t_1468 K_1482.1
        have t_1519 : a_167 < h_1481.size := Nat.lt_of_lt_of_le t_1469 K_1482.1
        have t_1520 : a_208 < h_1481.size := Nat.lt_of_lt_of_le t_1470 K_1482.1
        have t_1521 : a_959 < h_1481.size := Nat.lt_of_lt_of_le t_1471 K_1482.1
        have t_1522 : a_1287 < h_1481.size := Nat.lt_of_lt_of_le t_1472 K_1482.1
        have t_1523 : a_1352 < h_1481.size := Nat.lt_of_lt_of_le t_1473 K_1482.1
        have t_1524 : a_1432 < h_1481.size := Nat.lt_of_lt_of_le t_1475 K_1482.1
        have z_1525 : n0 ≤ h_1481.size := Nat.le_trans z_1474 K_1482.1
        show (Go false l room_1 Z x code maxLocals ret n0 32 128 (fun v h => v = some (.int 1))) h_1481 (0 + 1 + 1 + 1 + 1 + 1 + 1 + 0 + 1 + 0 + 1 + 0) (0 + 3 + 3 + 2 + 0 + 3 + 5 + 0 + 5 + 0 + 5 + 0) 194 #[.val (.int t0), .val (.int p0), .val (.int x0), .val (.int x1), .val (.int g0), .val (.int p_97), .val (.ref a_100), .val (.ref a_127), .val (.ref a_167), .val (.ref a_208), .val .null, .val (.ref a_959), .val (.int s), .val .null, .val (.ref a_1287), .val (.ref a_1352), .unset, .unset] [(.ref a_1432)]
        refine Go.astore (pc' := 196) (Ls' := #[.val (.int t0), .val (.int p0), .val (.int x0), .val (.int x1), .val (.int g0), .val (.int p_97), .val (.ref a_100), .val (.ref a_127), .val (.ref a_167), .val (.ref a_208), .val .null, .val (.ref a_959), .val (.int s), .val .null, .val (.ref a_1287), .val (.ref a_1352), .val (.ref a_1432), .unset]) at_194 rfl rfl rfl ?_
        refine Go.iload (pc' := 198) at_196 rfl rfl ?_
        clear ep_97
        rcases k_98 with k_98 | k_98 | k_98
        · obtain rfl : p_97 = (0 : Int32) := Int32.toInt_inj.mp k_98
          refine Go.ifc (pc1 := 206) (pc2 := 201) at_198 (by decide) (by decide) rfl (fun (c_1526 : (0 : Int) ≠ 0) => ?_) (fun (c_1526 : (0 : Int) = 0) => ?_)
          · exact absurd c_1526 (by decide)
          refine Go.aload (pc' := 203) at_201 rfl rfl rfl ?_
          refine Go.goto (pc' := 219) at_203 (by decide) (by decide) ?_
          refine Go.astore (pc' := 221) (Ls' := #[.val (.int t0), .val (.int p0), .val (.int x0), .val (.int x1), .val (.int g0), .val (.int (0 : Int32)), .val (.ref a_100), .val (.ref a_127), .val (.ref a_167), .val (.ref a_208), .val .null, .val (.ref a_959), .val (.int s), .val .null, .val (.ref a_1287), .val (.ref a_1352), .val (.ref a_1432), .val (.ref a_167)]) at_219 rfl rfl rfl ?_
          refine Go.aload (pc' := 223) at_221 rfl rfl rfl ?_
          refine Go.iload (pc' := 225) at_223 rfl rfl ?_
          refine Go.callV (pc' := 228) (argsL := [(.int (0 : Int32))]) (rest := []) (W := 0) (hw _ (List.mem_of_getElem? (i := 31) rfl)) (hw _ (List.mem_of_getElem? (i := 32) rfl)) (hw _ (List.mem_of_getElem? (i := 34) rfl)) (hw _ (List.mem_of_getElem? (i := 33) rfl)) (hw _ (List.mem_of_getElem? (i := 7) rfl)) (hw _ (List.mem_of_getElem? (i := 35) rfl)) (by decide) f_1499 (m_rN l Z a0 hw a_1287 (0 : Int32) h_1481 n0 z_1525 f_1504) at_225 rfl pd3 rfl rfl (Nat.le_of_eq rfl) (by decide) (by decide) (by decide) (by decide) rfl ?_
          rintro _ _ ⟨rfl, rfl⟩
          show (Go false l room_1 Z x code maxLocals ret n0 32 128 (fun v h => v = some (.int 1))) h_1481 (0 + 1 + 1 + 1 + 1 + 1 + 1 + 0 + 1 + 0 + 1 + 0 + 0) (0 + 3 + 3 + 2 + 0 + 3 + 5 + 0 + 5 + 0 + 5 + 0 + 0) 228 #[.val (.int t0), .val (.int p0), .val (.int x0), .val (.int x1), .val (.int g0), .val (.int (0 : Int32)), .val (.ref a_100), .val (.ref a_127), .val (.ref a_167), .val (.ref a_208), .val .null, .val (.ref a_959), .val (.int s), .val .null, .val (.ref a_1287), .val (.ref a_1352), .val (.ref a_1432), .val (.ref a_167)] [.null]
          refine Go.nonnullNo (pc' := 231) at_228 rfl ?_
          refine Go.aload (pc' := 233) at_231 rfl rfl rfl ?_
          refine Go.iload (pc' := 235) at_233 rfl rfl ?_
          refine Go.callV (pc' := 238) (argsL := [(.int (0 : Int32))]) (rest := []) (W := 0) (hw _ (List.mem_of_getElem? (i := 31) rfl)) (hw _ (List.mem_of_getElem? (i := 32) rfl)) (hw _ (List.mem_of_getElem? (i := 34) rfl)) (hw _ (List.mem_of_getElem? (i := 33) rfl)) (hw _ (List.mem_of_getElem? (i := 7) rfl)) (hw _ (List.mem_of_getElem? (i := 35) rfl)) (by decide) f_1505 (m_rN l Z a0 hw a_1352 (0 : Int32) h_1481 n0 z_1525 f_1510) at_235 rfl pd3 rfl rfl (Nat.le_of_eq rfl) (by decide) (by decide) (by decide) (by decide) rfl ?_
          rintro _ _ ⟨rfl, rfl⟩
          show (Go false l room_1 Z x code maxLocals ret n0 32 128 (fun v h => v = some (.int 1))) h_1481 (0 + 1 + 1 + 1 + 1 + 1 + 1 + 0 + 1 + 0 + 1 + 0 + 0 + 0) (0 + 3 + 3 + 2 + 0 + 3 + 5 + 0 + 5 + 0 + 5 + 0 + 0 + 0) 238 #[.val (.int t0), .val (.int p0), .val (.int x0), .val (.int x1), .val (.int g0), .val (.int (0 : Int32)), .val (.ref a_100), .val (.ref a_127), .val (.ref a_167), .val (.ref a_208), .val .null, .val (.ref a_959), .val (.int s), .val .null, .val (.ref a_1287), .val (.ref a_1352), .val (.ref a_1432), .val (.ref a_167)] [.null]
          refine Go.nonnullNo (pc' := 241) at_238 rfl ?_
          refine Go.aload (pc' := 243) at_241 rfl rfl rfl ?_
          refine Go.iload (pc' := 245) at_243 rfl rfl ?_
          refine Go.callV (pc' := 248) (argsL := [(.int (0 : Int32))]) (rest := []) (W := 0) (hw _ (List.mem_of_getElem? (i := 31) rfl)) (hw _ (List.mem_of_getElem? (i := 32) rfl)) (hw _ (List.mem_of_getElem? (i := 34) rfl)) (hw _ (List.mem_of_getElem? (i := 33) rfl)) (hw _ (List.mem_of_getElem? (i := 7) rfl)) (hw _ (List.mem_of_getElem? (i := 35) rfl)) (by decide) f_1511 (m_rR l Z a0 hw a_1432 a_959 (0 : Int32) (.ref a_167) 0 [(.ref a_167), (.ref a_208), .null] h_1481 n0 z_1525 F_1488 f_1498 rfl rfl rfl) at_245 rfl pd3 rfl rfl (Nat.le_of_eq rfl) (by decide) (by decide) (by decide) (by decide) rfl ?_
          rintro _ _ ⟨rfl, rfl⟩
          show (Go false l room_1 Z x code maxLocals ret n0 32 128 (fun v h => v = some (.int 1))) h_1481 (0 + 1 + 1 + 1 + 1 + 1 + 1 + 0 + 1 + 0 + 1 + 0 + 0 + 0 + 0) (0 + 3 + 3 + 2 + 0 + 3 + 5 + 0 + 5 + 0 + 5 + 0 + 0 + 0 + 0) 248 #[.val (.int t0), .val (.int p0), .val (.int x0), .val (.int x1), .val (.int g0), .val (.int (0 : Int32)), .val (.ref a_100), .val (.ref a_127), .val (.ref a_167), .val (.ref a_208), .val .null, .val (.ref a_959), .val (.int s), .val .null, .val (.ref a_1287), .val (.ref a_1352), .val (.ref a_1432), .val (.ref a_167)] [(.ref a_167)]
          refine Go.aload (pc' := 250) at_248 rfl rfl rfl ?_
          refine Go.acmp (pc1 := 253) (pc2 := 257) at_250 rfl rfl (by decide) (by decide) (by decide) (fun c_1527 => ?_) (fun c_1527 => absurd rfl c_1527)
          refine Go.iconst (pc' := 254) (v := (1 : Int32)) at_253 rfl rfl ?_
          refine Go.goto (pc' := 258) at_254 (by decide) (by decide) ?_
          exact Go.retN (t := .boolean) at_258 rfl (by simp) rfl rfl (by decide) (by decide)
        · obtain rfl : p_97 = (1 : Int32) := Int32.toInt_inj.mp k_98
          refine Go.ifc (pc1 := 206) (pc2 := 201) at_198 (by decide) (by decide) rfl (fun (c_1528 : (1 : Int) ≠ 0) => ?_) (fun (c_1528 : (1 : Int) = 0) => ?_)
          rotate_left
          · exact absurd c_1528 (by decide)
          refine Go.iload (pc' := 208) at_206 rfl rfl ?_
          refine Go.iconst (pc' := 209) (v := (1 : Int32)) at_208 rfl rfl ?_
          refine Go.icmp (pc1 := 217) (pc2 := 212) at_209 (by decide) (by decide) rfl (fun (c_1529 : (1 : Int) ≠ (1 : Int)) => ?_) (fun (c_1529 : (1 : Int) = (1 : Int)) => ?_)
          · exact absurd c_1529 (by decide)
          refine Go.aload (pc' := 214) at_212 rfl rfl rfl ?_
          refine Go.goto (pc' := 219) at_214 (by decide) (by decide) ?_
          refine Go.astore (pc' := 221) (Ls' := #[.val (.int t0), .val (.int p0), .val (.int x0), .val (.int x1), .val (.int g0), .val (.int (1 : Int32)), .val (.ref a_100), .val (.ref a_127), .val (.ref a_167), .val (.ref a_208), .val .null, .val (.ref a_959), .val (.int s), .val .null, .val (.ref a_1287), .val (.ref a_1352), .val (.ref a_1432), .val (.ref a_208)]) at_219 rfl rfl rfl ?_
          refine Go.aload (pc' := 223) at_221 rfl rfl rfl ?_
          refine Go.iload (pc' := 225) at_223 rfl rfl ?_
          refine Go.callV (pc' := 228) (argsL := [(.int (1 : Int32))]) (rest := []) (W := 0) (hw _ (List.mem_of_getElem? (i := 31) rfl)) (hw _ (List.mem_of_getElem? (i := 32) rfl)) (hw _ (List.mem_of_getElem? (i := 34) rfl)) (hw _ (List.mem_of_getElem? (i := 33) rfl)) (hw _ (List.mem_of_getElem? (i := 7) rfl)) (hw _ (List.mem_of_getElem? (i := 35) rfl)) (by decide) f_1499 (m_rN l Z a0 hw a_1287 (1 : Int32) h_1481 n0 z_1525 f_1504) at_225 rfl pd3 rfl rfl (Nat.le_of_eq rfl) (by decide) (by decide) (by decide) (by decide) rfl ?_
          rintro _ _ ⟨rfl, rfl⟩
          show (Go false l room_1 Z x code maxLocals ret n0 32 128 (fun v h => v = some (.int 1))) h_1481 (0 + 1 + 1 + 1 + 1 + 1 + 1 + 0 + 1 + 0 + 1 + 0 + 0) (0 + 3 + 3 + 2 + 0 + 3 + 5 + 0 + 5 + 0 + 5 + 0 + 0) 228 #[.val (.int t0), .val (.int p0), .val (.int x0), .val (.int x1), .val (.int g0), .val (.int (1 : Int32)), .val (.ref a_100), .val (.ref a_127), .val (.ref a_167), .val (.ref a_208), .val .null, .val (.ref a_959), .val (.int s), .val .null, .val (.ref a_1287), .val (.ref a_1352), .val (.ref a_1432), .val (.ref a_208)] [.null]
          refine Go.nonnullNo (pc' := 231) at_228 rfl ?_
          refine Go.aload (pc' := 233) at_231 rfl rfl rfl ?_
          refine Go.iload (pc' := 235) at_233 rfl rfl ?_
          refine Go.callV (pc' := 238) (argsL := [(.int (1 : Int32))]) (rest := []) (W := 0) (hw _ (List.mem_of_getElem? (i := 31) rfl)) (hw _ (List.mem_of_getElem? (i := 32) rfl)) (hw _ (List.mem_of_getElem? (i := 34) rfl)) (hw _ (List.mem_of_getElem? (i := 33) rfl)) (hw _ (List.mem_of_getElem? (i := 7) rfl)) (hw _ (List.mem_of_getElem? (i := 35) rfl)) (by decide) f_1505 (m_rN l Z a0 hw a_1352 (1 : Int32) h_1481 n0 z_1525 f_1510) at_235 rfl pd3 rfl rfl (Nat.le_of_eq rfl) (by decide) (by decide) (by decide) (by decide) rfl ?_
          rintro _ _ ⟨rfl, rfl⟩
          show (Go false l room_1 Z x code maxLocals ret n0 32 128 (fun v h => v = some (.int 1))) h_1481 (0 + 1 + 1 + 1 + 1 + 1 + 1 + 0 + 1 + 0 + 1 + 0 + 0 + 0) (0 + 3 + 3 + 2 + 0 + 3 + 5 + 0 + 5 + 0 + 5 + 0 + 0 + 0) 238 #[.val (.int t0), .val (.int p0), .val (.int x0), .val (.int x1), .val (.int g0), .val (.int (1 : Int32)), .val (.ref a_100), .val (.ref a_127), .val (.ref a_167), .val (.ref a_208), .val .null, .val (.ref a_959), .val (.int s), .val .null, .val (.ref a_1287), .val (.ref a_1352), .val (.ref a_1432), .val (.ref a_208)] [.null]
          refine Go.nonnullNo (pc' := 241) at_238 rfl ?_
          refine Go.aload (pc' := 243) at_241 rfl rfl rfl ?_
          refine Go.iload (pc' := 245) at_243 rfl rfl ?_
          refine Go.callV (pc' := 248) (argsL := [(.int (1 : Int32))]) (rest := []) (W := 0) (hw _ (List.mem_of_getElem? (i := 31) rfl)) (hw _ (List.mem_of_getElem? (i := 32) rfl)) (hw _ (List.mem_of_getElem? (i := 34) rfl)) (hw _ (List.mem_of_getElem? (i := 33) rfl)) (hw _ (List.mem_of_getElem? (i := 7) rfl)) (hw _ (List.mem_of_getElem? (i := 35) rfl)) (by decide) f_1511 (m_rR l Z a0 hw a_1432 a_959 (1 : Int32) (.ref a_208) 1 [(.ref a_167), (.ref a_208), .null] h_1481 n0 z_1525 F_1488 f_1498 rfl rfl rfl) at_245 rfl pd3 rfl rfl (Nat.le_of_eq rfl) (by decide) (by decide) (by decide) (by decide) rfl ?_
          rintro _ _ ⟨rfl, rfl⟩
          show (Go false l room_1 Z x code maxLocals ret n0 32 128 (fun v h => v = some (.int 1))) h_1481 (0 + 1 + 1 + 1 + 1 + 1 + 1 + 0 + 1 + 0 + 1 + 0 + 0 + 0 + 0) (0 + 3 + 3 + 2 + 0 + 3 + 5 + 0 + 5 + 0 + 5 + 0 + 0 + 0 + 0) 248 #[.val (.int t0), .val (.int p0), .val (.int x0), .val (.int x1), .val (.int g0), .val (.int (1 : Int32)), .val (.ref a_100), .val (.ref a_127), .val (.ref a_167), .val (.ref a_208), .val .null, .val (.ref a_959), .val (.int s), .val .null, .val (.ref a_1287), .val (.ref a_1352), .val (.ref a_1432), .val (.ref a_208)] [(.ref a_208)]
          refine Go.aload (pc' := 250) at_248 rfl rfl rfl ?_
          refine Go.acmp (pc1 := 253) (pc2 := 257) at_250 rfl rfl (by decide) (by decide) (by decide) (fun c_1530 => ?_) (fun c_1530 => absurd rfl c_1530)
          refine Go.iconst (pc' := 254) (v := (1 : Int32)) at_253 rfl rfl ?_
          refine Go.goto (pc' := 258) at_254 (by decide) (by decide) ?_
          exact Go.retN (t := .boolean) at_258 rfl (by simp) rfl rfl (by decide) (by decide)
        · obtain rfl : p_97 = (2 : Int32) := Int32.toInt_inj.mp k_98
          refine Go.ifc (pc1 := 206) (pc2 := 201) at_198 (by decide) (by decide) rfl (fun (c_1531 : (2 : Int) ≠ 0) => ?_) (fun (c_1531 : (2 : Int) = 0) => ?_)
          rotate_left
          · exact absurd c_1531 (by decide)
          refine Go.iload (pc' := 208) at_206 rfl rfl ?_
          refine Go.iconst (pc' := 209) (v := (1 : Int32)) at_208 rfl rfl ?_
          refine Go.icmp (pc1 := 217) (pc2 := 212) at_209 (by decide) (by decide) rfl (fun (c_1532 : (2 : Int) ≠ (1 : Int)) => ?_) (fun (c_1532 : (2 : Int) = (1 : Int)) => ?_)
          rotate_left
          · exact absurd c_1532 (by decide)
          refine Go.aload (pc' := 219) at_217 rfl rfl rfl ?_
          refine Go.astore (pc' := 221) (Ls' := #[.val (.int t0), .val (.int p0), .val (.int x0), .val (.int x1), .val (.int g0), .val (.int (2 : Int32)), .val (.ref a_100), .val (.ref a_127), .val (.ref a_167), .val (.ref a_208), .val .null, .val (.ref a_959), .val (.int s), .val .null, .val (.ref a_1287), .val (.ref a_1352), .val (.ref a_1432), .val .null]) at_219 rfl rfl rfl ?_
          refine Go.aload (pc' := 223) at_221 rfl rfl rfl ?_
          refine Go.iload (pc' := 225) at_223 rfl rfl ?_
          refine Go.callV (pc' := 228) (argsL := [(.int (2 : Int32))]) (rest := []) (W := 0) (hw _ (List.mem_of_getElem? (i := 31) rfl)) (hw _ (List.mem_of_getElem? (i := 32) rfl)) (hw _ (List.mem_of_getElem? (i := 34) rfl)) (hw _ (List.mem_of_getElem? (i := 33) rfl)) (hw _ (List.mem_of_getElem? (i := 7) rfl)) (hw _ (List.mem_of_getElem? (i := 35) rfl)) (by decide) f_1499 (m_rN l Z a0 hw a_1287 (2 : Int32) h_1481 n0 z_1525 f_1504) at_225 rfl pd3 rfl rfl (Nat.le_of_eq rfl) (by decide) (by decide) (by decide) (by decide) rfl ?_
          rintro _ _ ⟨rfl, rfl⟩
          show (Go false l room_1 Z x code maxLocals ret n0 32 128 (fun v h => v = some (.int 1))) h_1481 (0 + 1 + 1 + 1 + 1 + 1 + 1 + 0 + 1 + 0 + 1 + 0 + 0) (0 + 3 + 3 + 2 + 0 + 3 + 5 + 0 + 5 + 0 + 5 + 0 + 0) 228 #[.val (.int t0), .val (.int p0), .val (.int x0), .val (.int x1), .val (.int g0), .val (.int (2 : Int32)), .val (.ref a_100), .val (.ref a_127), .val (.ref a_167), .val (.ref a_208), .val .null, .val (.ref a_959), .val (.int s), .val .null, .val (.ref a_1287), .val (.ref a_1352), .val (.ref a_1432), .val .null] [.null]
          refine Go.nonnullNo (pc' := 231) at_228 rfl ?_
          refine Go.aload (pc' := 233) at_231 rfl rfl rfl ?_
          refine Go.iload (pc' := 235) at_233 rfl rfl ?_
          refine Go.callV (pc' := 238) (argsL := [(.int (2 : Int32))]) (rest := []) (W := 0) (hw _ (List.mem_of_getElem? (i := 31) rfl)) (hw _ (List.mem_of_getElem? (i := 32) rfl)) (hw _ (List.mem_of_getElem? (i := 34) rfl)) (hw _ (List.mem_of_getElem? (i := 33) rfl)) (hw _ (List.mem_of_getElem? (i := 7) rfl)) (hw _ (List.mem_of_getElem? (i := 35) rfl)) (by decide) f_1505 (m_rN l Z a0 hw a_1352 (2 : Int32) h_1481 n0 z_1525 f_1510) at_235 rfl pd3 rfl rfl (Nat.le_of_eq rfl) (by decide) (by decide) (by decide) (by decide) rfl ?_
          rintro _ _ ⟨rfl, rfl⟩
          show (Go false l room_1 Z x code maxLocals ret n0 32 128 (fun v h => v = some (.int 1))) h_1481 (0 + 1 + 1 + 1 + 1 + 1 + 1 + 0 + 1 + 0 + 1 + 0 + 0 + 0) (0 + 3 + 3 + 2 + 0 + 3 + 5 + 0 + 5 + 0 + 5 + 0 + 0 + 0) 238 #[.val (.int t0), .val (.int p0), .val (.int x0), .val (.int x1), .val (.int g0), .val (.int (2 : Int32)), .val (.ref a_100), .val (.ref a_127), .val (.ref a_167), .val (.ref a_208), .val .null, .val (.ref a_959), .val (.int s), .val .null, .val (.ref a_1287), .val (.ref a_1352), .val (.ref a_1432), .val .null] [.null]
          refine Go.nonnullNo (pc' := 241) at_238 rfl ?_
          refine Go.aload (pc' := 243) at_241 rfl rfl rfl ?_
          refine Go.iload (pc' := 245) at_243 rfl rfl ?_
          refine Go.callV (pc' := 248) (argsL := [(.int (2 : Int32))]) (rest := []) (W := 0) (hw _ (List.mem_of_getElem? (i := 31) rfl)) (hw _ (List.mem_of_getElem? (i := 32) rfl)) (hw _ (List.mem_of_getElem? (i := 34) rfl)) (hw _ (List.mem_of_getElem? (i := 33) rfl)) (hw _ (List.mem_of_getElem? (i := 7) rfl)) (hw _ (List.mem_of_getElem? (i := 35) rfl)) (by decide) f_1511 (m_rR l Z a0 hw a_1432 a_959 (2 : Int32) .null 2 [(.ref a_167), (.ref a_208), .null] h_1481 n0 z_1525 F_1488 f_1498 rfl rfl rfl) at_245 rfl pd3 rfl rfl (Nat.le_of_eq rfl) (by decide) (by decide) (by decide) (by decide) rfl ?_
          rintro _ _ ⟨rfl, rfl⟩
          show (Go false l room_1 Z x code maxLocals ret n0 32 128 (fun v h => v = some (.int 1))) h_1481 (0 + 1 + 1 + 1 + 1 + 1 + 1 + 0 + 1 + 0 + 1 + 0 + 0 + 0 + 0) (0 + 3 + 3 + 2 + 0 + 3 + 5 + 0 + 5 + 0 + 5 + 0 + 0 + 0 + 0) 248 #[.val (.int t0), .val (.int p0), .val (.int x0), .val (.int x1), .val (.int g0), .val (.int (2 : Int32)), .val (.ref a_100), .val (.ref a_127), .val (.ref a_167), .val (.ref a_208), .val .null, .val (.ref a_959), .val (.int s), .val .null, .val (.ref a_1287), .val (.ref a_1352), .val (.ref a_1432), .val .null] [.null]
          refine Go.aload (pc' := 250) at_248 rfl rfl rfl ?_
          refine Go.acmp (pc1 := 253) (pc2 := 257) at_250 rfl rfl (by decide) (by decide) (by decide) (fun c_1533 => ?_) (fun c_1533 => absurd rfl c_1533)
          refine Go.iconst (pc' := 254) (v := (1 : Int32)) at_253 rfl rfl ?_
          refine Go.goto (pc' := 258) at_254 (by decide) (by decide) ?_
          exact Go.retN (t := .boolean) at_258 rfl (by simp) rfl rfl (by decide) (by decide)
    refine Go.ifc (pc1 := 132) (pc2 := 128) at_125 (by decide) (by decide) rfl (fun (c_1534 : (g0 &&& (2 : Int32)).toInt = 0) => ?_) (fun (c_1534 : (g0 &&& (2 : Int32)).toInt ≠ 0) => ?_)
    · refine Go.iconst (pc' := 133) (v := (0 : Int32)) at_132 rfl rfl ?_
      exact J _ (by decide)
    · refine Go.iconst (pc' := 129) (v := (1 : Int32)) at_128 rfl rfl ?_
      refine Go.goto (pc' := 133) at_129 (by decide) (by decide) ?_
      exact J _ (by decide)
set_option maxRecDepth 65536 in
set_option maxHeartbeats 40000000 in
theorem comes_1 {Post : Tables → Env → Array Value → State → Outcome → State → Prop} (hpost : ∀ tb e args s v u, (limb_1_1.after args s (.returned v) u = true ∧ limb_1_2.after args s (.returned v) u = true ∧ True) → FrameEnd s (.returned v) u (Jvm.fieldLocs frame_1_writes args s ++ Jvm.arrayLocs frame_1_arrays args s ++ Jvm.staticLocs frame_1_statics s) 32 128 → Post tb e args s (.returned v) u) :
    ArmFor flags0 classFile x code maxLocals ret World_1 tables_1 room_1 Calls_1 rest_1 Pre_1 Post := by
  intro l hfl _ _ p e ha hc hk s m args below hf hA hF happ hP
  obtain ⟨hcalls, hrest, hpre⟩ := hP
  obtain ⟨-, -, -, hnamed, -, -, -, hat⟩ := (Spec.applies_iff hf).mp happ
  obtain ⟨hg, hn⟩ := and_e (Cond.before_iff.mp (show (Jvm.Cond.and given_1 narrow_1).before args s = true from hpre))
  obtain ⟨h1, hg1⟩ := and_e hg
  obtain ⟨w0, w1, w2, w3, w4, rfl⟩ : ∃ w0 w1 w2 w3 w4 : Value, args = #[w0, w1, w2, w3, w4] := by
    have hs : args.size = 5 := by simpa [Cond.value, given_1] using h1
    obtain ⟨L⟩ := args
    match L, hs with
    | [w0, w1, w2, w3, w4], _ => exact ⟨w0, w1, w2, w3, w4, rfl⟩
  have hw := fun d (hd : d ∈ tables_1) => atoms_spec (ws := Jvm.Cond.code x code maxLocals ret :: tables_1) hat d (List.mem_cons_of_mem _ hd)
  have hfit : Fit s := fun {y c} hc i hi => by
    obtain ⟨ha, rfl⟩ := Array.getElem?_eq_some_iff.mp hc
    have q := List.all_eq_true.mp ((Array.all_eq_true_iff_forall_mem.mp hF) _ (Array.getElem_mem ha)) i (List.mem_range.mpr hi)
    simpa [Array.getElem?_eq_getElem hi] using q
  obtain ⟨b0, hg2⟩ := and_e hg1
  obtain ⟨i0, e0⟩ := is_v b0
  obtain rfl : w0 = (.int i0) := Option.some.inj e0
  obtain ⟨b1, hg3⟩ := and_e hg2
  obtain ⟨i1, e1⟩ := is_v b1
  obtain rfl : w1 = (.int i1) := Option.some.inj e1
  obtain ⟨b2, hg4⟩ := and_e hg3
  obtain ⟨i2, e2⟩ := is_v b2
  obtain rfl : w2 = (.int i2) := Option.some.inj e2
  obtain ⟨b3, hg5⟩ := and_e hg4
  obtain ⟨i3, e3⟩ := is_v b3
  obtain rfl : w3 = (.int i3) := Option.some.inj e3
  obtain ⟨i4, e4⟩ := is_v hg5
  obtain rfl : w4 = (.int i4) := Option.some.inj e4
  obtain ⟨n, o, h1, h2, h3, _, L, rfl, ⟨⟨rfl, -⟩, N⟩, hq⟩ := rm1 l s _ hw tables_1 i0 i1 i2 i3 i4 s.heap s.heap.size (Nat.le_refl _)  p e ha hc hk s m _ below hf ((Spec.applies_iff_loose hf).mp happ).1 ⟨rfl, State.Warmed39.refl s, rfl⟩ trivial
  refine ⟨n, _, h1, h2, h3, hpost _ _ _ _ _ _ ⟨Cond.after_iff.mpr rfl, Cond.after_iff.mpr (eq_i res_at (Term.int_eval (1)) rfl), trivial⟩ ⟨hq.1, hq.2.1, (hq.2.2.sift fun y hy => Or.inr (N y hy)).mono (by decide) (by decide)⟩⟩
theorem main_1_1 : Claimed_1_1 := comes_1 fun _ _ _ _ _ _ h hF => ⟨h.1, hF⟩
theorem main_1_2 : Claimed_1_2 := comes_1 fun _ _ _ _ _ _ h hF => ⟨h.2.1, hF⟩
end Jvm.Pilot.@@N@@
namespace Jvm.Pilot.@@N@@
open Jvm Jvm.ClassFile Sem Op Lib Jvm.Free Jvm.Stand Jvm.Pilot.@@N@@.Jvm.D
/-! MADE BY PROGRAM (witnessworld.py) out of the Statement's table words and the real class files: 9 classes; the members and pool entries that the words name. The judged class is class 1, her method 1. -/
namespace start1
open Jvm.ClassFile
def u (s : String) : CpInfo := .utf8 (stringToUtf16 s)
/-- a pool by its gaps: so many unusable entries, then the entry; so many at the end -/
def gap : Nat → List CpInfo → List CpInfo
  | 0, r => r
  | n + 1, r => .unusable :: gap n r
def poolList (es : List (Nat × CpInfo)) (last : Nat) : List CpInfo := es.foldr (fun e r => gap e.1 (e.2 :: r)) (gap last [])
def pool (es : List (Nat × CpInfo)) (last : Nat) : Array CpInfo := ⟨poolList es last⟩
def fileOf (pool : Array CpInfo) (this : Nat) (attrs : Array Attribute := #[]) (ms : Array MethodInfo := #[]) (fl : Nat := 33) (sup : Nat := 0) (ifs : Array Nat := #[]) (fds : Array FieldInfo := #[]) : ClassFile where
  minorVersion := 0
  majorVersion := 65
  constantPool := pool
  accessFlags := fl
  thisClass := this
  superClass := sup
  interfaces := ifs
  fields := fds
  methods := ms
  attributes := attrs
def plain (name : String) (sup : Option ClassId) : Class where
  name := name
  kind := .ordinary
  loader := none
  accessFlags := 33
  super := sup
  interfaces := #[]
  cf := none
  fields := #[]
  methods := #[]
  instanceTypes := #[]
  staticTypes := #[]
  resolved := #[]
  callSites := []
  init := .initialized
  statics := none
  mirror := none

def pool0 : Array CpInfo := pool [(5, u "<init>"), (0, u "()V"), (1, .class_ 10), (1, u "java/lang/Object")] 113

def k0c0 : Code := { maxStack := 0, maxLocals := 1, code := object_method_1_code, exceptionTable := #[], attributes := #[] }
def k0m0 : Method := { name := "<init>", desc := "()V", sig := { parameters := [], returnType := none }, accessFlags := 1, code := some k0c0 }
/-- java/lang/Object -/
def k0 : Class := { plain "java/lang/Object" none with
  accessFlags := 33
  interfaces := #[]
  cf := some (fileOf pool0 8 #[] #[{ accessFlags := 1, nameIndex := 5, descriptorIndex := 6, attributes := #[] }] 33 0 #[] #[])
  fields := #[]
  methods := #[k0m0]
  instanceTypes := #[]
  staticTypes := #[]
  resolved := Array.replicate 124 none
  statics := none }

def pool1 : Array CpInfo := pool [(2, .class_ 4), (1, u "java/lang/Object"), (0, u "<init>"), (0, u "()V"), (0, .integer 2147483647), (0, .class_ 9), (0, u "[I"), (0, .class_ 11), (0, u "com/example/doppelgrep/doppelgrep/engine/Group"), (0, .methodref 10 13), (0, .nameAndType 5 14), (0, u "(I[I)V"), (0, .methodref 10 16), (0, .nameAndType 5 17), (0, u "(I[I[IZ)V"), (0, .methodref 10 19), (0, .nameAndType 5 20), (0, u "(I[I[IZ[[I)V"), (0, .methodref 10 22), (0, .nameAndType 23 24), (0, u "runs"), (0, u "(I)[I"), (0, .class_ 26), (0, u "com/example/doppelgrep/doppelgrep/engine/GroupRunsPinLaw"), (2, u "law"), (0, u "(IIIII)Z")] 5

def k1m0 : Method := { name := "<init>", desc := "()V", sig := { parameters := [], returnType := none }, accessFlags := 1, code := none }
def k1c1 : Code := { maxStack := 7, maxLocals := 18, code := code, exceptionTable := #[], attributes := #[] }
def k1m1 : Method := { name := "law", desc := "(IIIII)Z", sig := { parameters := [.int, .int, .int, .int, .int], returnType := some .boolean }, accessFlags := 9, code := some k1c1 }
/-- com/example/doppelgrep/doppelgrep/engine/GroupRunsPinLaw -/
def k1 : Class := { plain "com/example/doppelgrep/doppelgrep/engine/GroupRunsPinLaw" (some 0) with
  accessFlags := 49
  interfaces := #[]
  cf := some (fileOf pool1 25 #[] #[{ accessFlags := 1, nameIndex := 5, descriptorIndex := 6, attributes := #[] }, { accessFlags := 9, nameIndex := 29, descriptorIndex := 30, attributes := #[] }] 49 2 #[] #[])
  fields := #[]
  methods := #[k1m0, k1m1]
  instanceTypes := #[]
  staticTypes := #[]
  resolved := Array.replicate 36 none
  statics := none }

def pool2 : Array CpInfo := pool [(1, .methodref 2 3), (0, .class_ 4), (0, .nameAndType 5 6), (0, u "com/example/doppelgrep/doppelgrep/engine/Group"), (0, u "<init>"), (0, u "(I[I[IZ[[I)V"), (0, .methodref 8 9), (0, .class_ 10), (0, .nameAndType 5 11), (0, u "java/lang/Object"), (0, u "()V"), (0, .fieldref 2 13), (0, .nameAndType 14 15), (0, u "tokens"), (0, u "I"), (0, .fieldref 2 17), (0, .nameAndType 18 19), (0, u "starts"), (0, u "[I"), (0, .fieldref 2 21), (0, .nameAndType 22 19), (0, u "ends"), (0, .fieldref 2 24), (0, .nameAndType 25 26), (0, u "gapped"), (0, u "Z"), (0, .fieldref 2 28), (0, .nameAndType 29 30), (0, u "runs"), (0, u "[[I"), (1, u "(I[I)V"), (2, u "(I[I[IZ)V"), (7, u "(I)[I")] 6

def k2c0 : Code := { maxStack := 6, maxLocals := 3, code := prog_36_method_1_code, exceptionTable := #[], attributes := #[] }
def k2m0 : Method := { name := "<init>", desc := "(I[I)V", sig := { parameters := [.int, (.array .int)], returnType := none }, accessFlags := 0, code := some k2c0 }
def k2c1 : Code := { maxStack := 6, maxLocals := 5, code := prog_36_method_2_code, exceptionTable := #[], attributes := #[] }
def k2m1 : Method := { name := "<init>", desc := "(I[I[IZ)V", sig := { parameters := [.int, (.array .int), (.array .int), .boolean], returnType := none }, accessFlags := 0, code := some k2c1 }
def k2c2 : Code := { maxStack := 2, maxLocals := 6, code := prog_36_method_3_code, exceptionTable := #[], attributes := #[] }
def k2m2 : Method := { name := "<init>", desc := "(I[I[IZ[[I)V", sig := { parameters := [.int, (.array .int), (.array .int), .boolean, (.array (.array .int))], returnType := none }, accessFlags := 0, code := some k2c2 }
def k2c3 : Code := { maxStack := 2, maxLocals := 2, code := prog_36_method_9_code, exceptionTable := #[], attributes := #[] }
def k2m3 : Method := { name := "runs", desc := "(I)[I", sig := { parameters := [.int], returnType := some (.array .int) }, accessFlags := 0, code := some k2c3 }
/-- com/example/doppelgrep/doppelgrep/engine/Group -/
def k2 : Class := { plain "com/example/doppelgrep/doppelgrep/engine/Group" (some 0) with
  accessFlags := 48
  interfaces := #[]
  cf := some (fileOf pool2 2 #[] #[{ accessFlags := 0, nameIndex := 5, descriptorIndex := 32, attributes := #[] }, { accessFlags := 0, nameIndex := 5, descriptorIndex := 35, attributes := #[] }, { accessFlags := 0, nameIndex := 5, descriptorIndex := 6, attributes := #[] }, { accessFlags := 0, nameIndex := 29, descriptorIndex := 43, attributes := #[] }] 48 8 #[] #[{ accessFlags := 18, nameIndex := 14, descriptorIndex := 15, attributes := #[] }, { accessFlags := 18, nameIndex := 18, descriptorIndex := 19, attributes := #[] }, { accessFlags := 18, nameIndex := 22, descriptorIndex := 19, attributes := #[] }, { accessFlags := 18, nameIndex := 25, descriptorIndex := 26, attributes := #[] }, { accessFlags := 18, nameIndex := 29, descriptorIndex := 30, attributes := #[] }])
  fields := #[{ name := "tokens", type := .int, accessFlags := 18, slot := 0, constantValue := 0 }, { name := "starts", type := (.array .int), accessFlags := 18, slot := 1, constantValue := 0 }, { name := "ends", type := (.array .int), accessFlags := 18, slot := 2, constantValue := 0 }, { name := "gapped", type := .boolean, accessFlags := 18, slot := 3, constantValue := 0 }, { name := "runs", type := (.array (.array .int)), accessFlags := 18, slot := 4, constantValue := 0 }]
  methods := #[k2m0, k2m1, k2m2, k2m3]
  instanceTypes := #[.int, (.array .int), (.array .int), .boolean, (.array (.array .int))]
  staticTypes := #[]
  resolved := Array.replicate 50 none
  statics := none }

def pool3 : Array CpInfo := pool [(1, u "java/lang/Cloneable"), (0, .class_ 1), (0, u "java/lang/Object"), (0, .class_ 3)] 3

/-- java/lang/Cloneable -/
def k3 : Class := { plain "java/lang/Cloneable" (some 0) with
  accessFlags := 1537
  interfaces := #[]
  cf := some (fileOf pool3 2 #[] #[] 1537 4 #[] #[])
  fields := #[]
  methods := #[]
  instanceTypes := #[]
  staticTypes := #[]
  resolved := Array.replicate 8 none
  statics := none }

def pool4 : Array CpInfo := pool [(1, u "java/io/Serializable"), (0, .class_ 1), (0, u "java/lang/Object"), (0, .class_ 3)] 3

/-- java/io/Serializable -/
def k4 : Class := { plain "java/io/Serializable" (some 0) with
  accessFlags := 1537
  interfaces := #[]
  cf := some (fileOf pool4 2 #[] #[] 1537 4 #[] #[])
  fields := #[]
  methods := #[]
  instanceTypes := #[]
  staticTypes := #[]
  resolved := Array.replicate 8 none
  statics := none }

/-- the primitive byte -/
def k5 : Class := { plain "byte" none with kind := .primitive 'B', accessFlags := 0x411 }
/-- [B -/
def k6 : Class := { plain "[B" (some 0) with kind := .array 5 .byte, interfaces := #[3, 4], accessFlags := 1041 }

/-- the primitive int -/
def k7 : Class := { plain "int" none with kind := .primitive 'I', accessFlags := 0x411 }
/-- [I -/
def k8 : Class := { plain "[I" (some 0) with kind := .array 7 .int, interfaces := #[3, 4], accessFlags := 1041 }

def k9 : Class := { plain "[[I" (some 0) with kind := .array 8 (.array .int), interfaces := #[3, 4], accessFlags := 1041 }
def heap : Heap := #[]
def classes : Array Class := #[k0, k1, k2, k3, k4, k5, k6, k7, k8, k9]
def interned : List (Array UInt16 × Addr) := []
def slotsUsed : Nat := 0
def theMethod : MethodId := ⟨1, 1⟩
def args0 : Array Value := #[.int 5, .int 6, .int 7, .int 8, .int 9]
def aboutOver (below : List Frame) : State where
  vm := { classes := classes, interned := interned.toArray }
  heap := heap
  slotsUsed := slotsUsed
  threads := #[{ frames := .invoking theMethod args0 :: below }]
def below0 : List Frame := [.native { method := ⟨0, 0⟩, args := #[] }]
def about1 : State := aboutOver below0
def p0 : Program := .bare "" "" ""
def e0 : Env := launch0.env 0 0 0
theorem w_frames : about1.frames = Frame.invoking theMethod args0 :: below0 := rfl
set_option maxRecDepth 65536 in
theorem w_args : argsFit about1.vm theMethod args0 = true := by decide +kernel
set_option maxRecDepth 65536 in
theorem w_heap : heapFits about1 = true := by decide +kernel
set_option maxRecDepth 65536 in
theorem w_runnable : about1.curStatus? = some .runnable := by decide +kernel
set_option maxRecDepth 65536 in
theorem w_alone : about1.alone = true := by decide +kernel
set_option maxRecDepth 65536 in
theorem w_named : about1.methodNamed? x = some theMethod := by decide +kernel
set_option maxRecDepth 65536 in
theorem w_hears : about1.hears theMethod below0 = true := by decide +kernel
set_option maxRecDepth 65536 in
theorem w_ripe : about1.ripe theMethod args0 below0 = true := by decide +kernel
theorem w_running : about1.status = .running := rfl
set_option maxRecDepth 65536 in
theorem w_room : about1.hasRoom e0.platform room_1 = true :=
  launch0.hasRoom_least _ room_1 (by decide +kernel) (by decide +kernel) (by decide +kernel) (by decide +kernel) (by decide +kernel) (by decide +kernel)
theorem allAtoms_all (ts : List Jvm.Cond) (a : Array Jvm.Value) (st : Jvm.State) : (allAtoms ts).before a st = ts.all (fun c => c.before a st) := by
  induction ts with
  | nil => rfl
  | cons c t ih =>
    show (Jvm.Cond.and c (allAtoms t)).before a st = _
    rw [Jvm.Cond.before_and, ih, List.all_cons]
def words1 : List Jvm.Cond := Jvm.Cond.code x code maxLocals ret :: tables_1
/-- a 'code' word, met by the world's own term for the bytes: nothing is compared byte by byte -/
theorem code_word {y : MethodName} {bytes : ByteArray} {mx : Nat} {rt : Option FieldType} {a : Array Value} {s : State} {m : MethodId} {meth : Method} {c : Code} (h1 : s.methodNamed? y = some m) (h2 : s.vm.method? m = some meth) (h3 : meth.code = some c) (h4 : c.code = bytes)
    (h5 : (c.maxLocals == mx && c.exceptionTable.isEmpty && decide (c.maxStack ≤ mostOperands) && decide (meth.sig.returnType = rt) && !meth.locks && decide (parseMethodDescriptor y.desc = some meth.sig)) = true) : (Jvm.Cond.code y bytes mx rt).before a s = true := by
  simp only [Bool.and_eq_true, beq_iff_eq, Bool.not_eq_true', decide_eq_true_eq] at h5
  obtain ⟨⟨⟨⟨⟨g1, g2⟩, g3⟩, g4⟩, g5⟩, g6⟩ := h5
  simp [Cond.before, Cond.holds, Cond.value, h1, h2, h3, h4, g1, g2, g3, g4, g5, g6]
def isCode : Jvm.Cond → Bool
  | .code _ _ _ _ => true
  | .arrayOver _ => true
  | _ => false
theorem all_split {L : List Jvm.Cond} {P : Jvm.Cond → Bool} (h1 : L.all (fun c => isCode c || P c) = true) (h2 : ∀ c ∈ L.filter isCode, P c = true) : L.all P = true := by
  refine List.all_eq_true.mpr fun c hc => ?_
  have h := List.all_eq_true.mp h1 c hc
  rcases Bool.eq_false_or_eq_true (isCode c) with hi | hi
  · exact h2 c (List.mem_filter.mpr ⟨hc, hi⟩)
  · simpa [hi] using h
set_option maxRecDepth 65536 in
theorem w_c0 : (Jvm.Cond.code x code maxLocals ret).before args0 about1 = true := code_word (m := ⟨1, 1⟩) (meth := k1m1) (c := k1c1) (by decide +kernel) rfl rfl rfl (by decide +kernel)
set_option maxRecDepth 65536 in
theorem w_c1 : (Jvm.Cond.code ({ cls := "com/example/doppelgrep/doppelgrep/engine/Group", name := "<init>", desc := "(I[I)V" } : Jvm.MethodName) prog_36_method_1_code (3 : Nat) (Option.none : Option Jvm.ClassFile.FieldType)).before args0 about1 = true := code_word (m := ⟨2, 0⟩) (meth := k2m0) (c := k2c0) (by decide +kernel) rfl rfl rfl (by decide +kernel)
set_option maxRecDepth 65536 in
theorem w_c2 : (Jvm.Cond.code ({ cls := "com/example/doppelgrep/doppelgrep/engine/Group", name := "<init>", desc := "(I[I[IZ[[I)V" } : Jvm.MethodName) prog_36_method_3_code (6 : Nat) (Option.none : Option Jvm.ClassFile.FieldType)).before args0 about1 = true := code_word (m := ⟨2, 2⟩) (meth := k2m2) (c := k2c2) (by decide +kernel) rfl rfl rfl (by decide +kernel)
set_option maxRecDepth 65536 in
theorem w_c3 : (Jvm.Cond.code ({ cls := "java/lang/Object", name := "<init>", desc := "()V" } : Jvm.MethodName) object_method_1_code (1 : Nat) (Option.none : Option Jvm.ClassFile.FieldType)).before args0 about1 = true := code_word (m := ⟨0, 0⟩) (meth := k0m0) (c := k0c0) (by decide +kernel) rfl rfl rfl (by decide +kernel)
set_option maxRecDepth 65536 in
theorem w_c4 : (Jvm.Cond.code ({ cls := "com/example/doppelgrep/doppelgrep/engine/Group", name := "<init>", desc := "(I[I[IZ)V" } : Jvm.MethodName) prog_36_method_2_code (5 : Nat) (Option.none : Option Jvm.ClassFile.FieldType)).before args0 about1 = true := code_word (m := ⟨2, 1⟩) (meth := k2m1) (c := k2c1) (by decide +kernel) rfl rfl rfl (by decide +kernel)
set_option maxRecDepth 65536 in
theorem w_c5 : (Jvm.Cond.code ({ cls := "com/example/doppelgrep/doppelgrep/engine/Group", name := "runs", desc := "(I)[I" } : Jvm.MethodName) prog_36_method_9_code (2 : Nat) (Option.some (Jvm.ClassFile.FieldType.array Jvm.ClassFile.FieldType.int))).before args0 about1 = true := code_word (m := ⟨2, 3⟩) (meth := k2m3) (c := k2c3) (by decide +kernel) rfl rfl rfl (by decide +kernel)
set_option maxRecDepth 65536 in
theorem w_ov0 : (Jvm.Cond.arrayOver (Jvm.ClassFile.FieldType.array Jvm.ClassFile.FieldType.int)).before args0 about1 = true := by
  have e1 : (Jvm.ClassFile.FieldType.array Jvm.ClassFile.FieldType.int).toString = "[I" := by decide +kernel
  have e2 : "[" ++ "[I" = "[[I" := by decide +kernel
  have h1 : about1.vm.findClass "[I" = some 8 := by decide +kernel
  have h2 : (about1.vm.classes.findIdx? fun (x : Class) => match x.kind with | .array component _ => component == 8 | _ => false) = some 9 := by
    show (classes.findIdx? _) = _
    rw [classes, List.findIdx?_toArray]
    decide +kernel
  have h3 : about1.vm.findClass "[[I" = some 9 := by decide +kernel
  have h4 : about1.vm.classes[9]? = some k9 := rfl
  simp only [Cond.before, Cond.holds, Cond.value, e1, h1, Option.bind_some, h2, h4, Option.map_some, e2, h3]
  decide +kernel
def codes1 : List Jvm.Cond := [Jvm.Cond.code x code maxLocals ret, Jvm.Cond.arrayOver (Jvm.ClassFile.FieldType.array Jvm.ClassFile.FieldType.int), Jvm.Cond.code ({ cls := "com/example/doppelgrep/doppelgrep/engine/Group", name := "<init>", desc := "(I[I)V" } : Jvm.MethodName) prog_36_method_1_code (3 : Nat) (Option.none : Option Jvm.ClassFile.FieldType), Jvm.Cond.code ({ cls := "com/example/doppelgrep/doppelgrep/engine/Group", name := "<init>", desc := "(I[I[IZ[[I)V" } : Jvm.MethodName) prog_36_method_3_code (6 : Nat) (Option.none : Option Jvm.ClassFile.FieldType), Jvm.Cond.code ({ cls := "java/lang/Object", name := "<init>", desc := "()V" } : Jvm.MethodName) object_method_1_code (1 : Nat) (Option.none : Option Jvm.ClassFile.FieldType), Jvm.Cond.code ({ cls := "com/example/doppelgrep/doppelgrep/engine/Group", name := "<init>", desc := "(I[I[IZ)V" } : Jvm.MethodName) prog_36_method_2_code (5 : Nat) (Option.none : Option Jvm.ClassFile.FieldType), Jvm.Cond.code ({ cls := "com/example/doppelgrep/doppelgrep/engine/Group", name := "runs", desc := "(I)[I" } : Jvm.MethodName) prog_36_method_9_code (2 : Nat) (Option.some (Jvm.ClassFile.FieldType.array Jvm.ClassFile.FieldType.int))]
set_option maxRecDepth 65536 in
theorem codes_eq : words1.filter isCode = codes1 := rfl
theorem w_codes : ∀ c ∈ words1.filter isCode, c.before args0 about1 = true := by
  rw [codes_eq]
  intro c hc
  simp only [codes1, List.mem_cons, List.not_mem_nil, or_false] at hc
  rcases hc with rfl | rfl | rfl | rfl | rfl | rfl | rfl
  · exact w_c0
  · exact w_ov0
  · exact w_c1
  · exact w_c2
  · exact w_c3
  · exact w_c4
  · exact w_c5
set_option maxRecDepth 65536 in
theorem w_t1 : (words1.take 24).all (fun c => isCode c || c.before args0 about1) = true := by decide +kernel
set_option maxRecDepth 65536 in
theorem w_t2 : (words1.drop 24).all (fun c => isCode c || c.before args0 about1) = true := by decide +kernel
theorem w_tables : (allAtoms (Jvm.Cond.code x code maxLocals ret :: tables_1)).before args0 about1 = true := by
  rw [allAtoms_all]
  show words1.all (fun c => c.before args0 about1) = true
  refine all_split ?_ w_codes
  rw [← List.take_append_drop 24 words1, List.all_append, w_t1, w_t2]
  rfl
set_option maxRecDepth 65536 in
theorem w_case : (Jvm.Cond.and given_1 narrow_1).before args0 about1 = true := by decide +kernel
theorem w_applies : (headSpec (Jvm.Cond.code x code maxLocals ret :: tables_1) room_1).applies x e0.platform about1 = true :=
  (Spec.applies_iff w_frames).mpr ⟨w_running, w_runnable, w_alone, w_named, w_hears, w_ripe, w_room, w_tables⟩
theorem atStart : AtStart classFile x code maxLocals ret World_1 tables_1 room_1 Calls_1 rest_1 Pre_1 launch0 p0 e0 about1 theMethod args0 below0 :=
  ⟨lists_1, trivial, launch0.admits_env _ _ _, launch0.least_env, fairChoices_fair.cas, fairChoices_fair.clock, w_frames, w_args, w_heap, w_applies, trivial, trivial, w_case⟩
end start1
theorem witness_1 : WitnessClaimed_1 := ⟨start1.p0, start1.e0, start1.about1, start1.theMethod, start1.args0, start1.below0, start1.atStart⟩
end Jvm.Pilot.@@N@@
