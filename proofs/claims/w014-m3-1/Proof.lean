import JvmDerived
import JvmDerived.Pilot.@@N@@Statement
import JvmDerived.Pilot.@@N@@Code
set_option linter.unusedVariables false
set_option linter.unusedSimpArgs false
namespace Jvm.RoadKit
open Sem ClassFile Op Lib Jvm.Stand Jvm.Free Jvm.LawKit
/-- what a walk knows of the method that it walks -/
def Own (Z : State) (y : MethodName) (bytes : ByteArray) (maxL : Nat) (ret : Option FieldType) (p : Program) (s : State) (m : MethodId) (meth : Method) (c : Code) : Prop :=
  p.tables.exec = Jvm.exec ∧ c.code = bytes ∧ c.maxLocals = maxL ∧ s.vm.findClass y.cls = some m.cls ∧ meth.name = y.name ∧ Z.Warmed39 s.vm ∧ meth.sig.returnType = ret ∧ meth.locks = false
/-- how the start s over which the walk stands belongs to the true start s0 (wd: strings may have been interned since) -/
def GoRel (wd : Bool) (s0 s : State) (k : Nat) : Prop := match wd with
  | false => s0 = s
  | true => ∃ (vm0 : Vm) (k0 : Nat), s = s0.setVm vm0 ∧ s0.Since vm0 k0 ∧ k0 ≤ k
/-- the frame of the end -/
def GoEnd (wd : Bool) (s0 : State) (o : Outcome) (t : State) (L : List Loc) (K N : Nat) : Prop := match wd with
  | false => FrameEnd s0 o t L K N
  | true => ReturnedEndW s0 o t L K N
theorem GoRel.mono {wd : Bool} {s0 s : State} {k k' : Nat} (h : GoRel wd s0 s k) (q : k ≤ k') : GoRel wd s0 s k' := by
  cases wd
  · exact h
  · obtain ⟨vm0, k0, h1, h2, h3⟩ := h; exact ⟨vm0, k0, h1, h2, Nat.le_trans h3 q⟩
theorem GoRel.refl (wd : Bool) (s : State) (k : Nat) : GoRel wd s s k := by
  cases wd
  · rfl
  · exact ⟨s.vm, 0, rfl, (State.WarmedH.refl s).since 0, Nat.zero_le _⟩
theorem GoEnd.grow {wd : Bool} {s0 t : State} {o : Outcome} {L : List Loc} {K N : Nat} (h : GoEnd wd s0 o t L K N) : s0.heap.size ≤ t.heap.size := by
  cases wd
  · exact h.2.2.2.1
  · exact h.2.2.2.2.1
theorem GoRel.ended {wd : Bool} {s0 s : State} {v : Option Value} {U : State} {locs : List Loc} {c k c' k' : Nat} (h : GoRel wd s0 s U.heap.size) (hW : s.WarmedH U.vm) (hs : s.sameButNew ({ U with vm := s.vm } : State) locs c k) (hc : c ≤ c') (hk : k ≤ k') : GoEnd wd s0 (.returned v) U locs c' k' := by
  cases wd
  · obtain rfl : s0 = s := h
    exact ⟨⟨_, rfl⟩, hW, hs.mono hc hk⟩
  · obtain ⟨vm0, k0, rfl, h2, h3⟩ := h
    obtain ⟨q1, q2, q3⟩ := h2.ended hW h3 hs
    exact ⟨⟨_, rfl⟩, q1, q2, q3.mono hc hk⟩
/-- from pc, Ls, st over the heap h (so many cells and slots made so far) the walk comes to its end, and Q holds of what it returns and of the heap there; what it wrote lies at or above n0 -/
def Go (wd : Bool) (l : Launch) (R : Room) (Z : State) (y : MethodName) (bytes : ByteArray) (maxL : Nat) (ret : Option FieldType) (n0 K N : Nat) (Q : Option Value → Heap → Prop) (h : Heap) (cells slots pc : Nat) (Ls : Array Slot) (st : List Value) : Prop :=
  ∀ (p : Program) (e : Env) (s0 s : State) (m : MethodId) (args : Array Value) (below : List Frame) (meth : Method) (c : Code) (T : State) (locs : List Loc),
    GoRel wd s0 s h.size → Own Z y bytes maxL ret p s m meth c → Stand p l e R s m args below meth c T locs cells slots → T.heap = h → Fr n0 locs →
    ∃ s₂ o, Steps p.tables e below (T.setTop (mkF m pc Ls st)) s₂ ∧ s₂.status = .running ∧ Ended s₂ below o ∧ ∃ v L, o = .returned v ∧ (Q v s₂.heap ∧ Fr n0 L) ∧ GoEnd wd s0 o s₂ L K N
section GoLaws
variable {wd : Bool} {l : Launch} {R : Room} {Z : State} {y : MethodName} {bytes : ByteArray} {maxL : Nat} {ret : Option FieldType} {n0 K N : Nat} {Q : Option Value → Heap → Prop} {h : Heap} {cells slots pc pc' : Nat} {Ls Ls' : Array Slot} {st st' : List Value} {a0 : Array Value}
theorem Go.of (k : Go wd l R Z y bytes maxL ret n0 K N Q h cells slots pc' Ls' st')
    (q : ∀ (p : Program) (e : Env) (s : State) (m : MethodId) (args : Array Value) (below : List Frame) (meth : Method) (c : Code) (T : State) (locs : List Loc), Own Z y bytes maxL ret p s m meth c → Stand p l e R s m args below meth c T locs cells slots → T.heap = h →
      ∀ target, Steps p.tables e below (T.setTop (mkF m pc' Ls' st')) target → Steps p.tables e below (T.setTop (mkF m pc Ls st)) target) : Go wd l R Z y bytes maxL ret n0 K N Q h cells slots pc Ls st := by
  intro p e s0 s m args below meth c T locs hR O X eT F
  obtain ⟨s₂, o, h1, r⟩ := k p e s0 s m args below meth c T locs hR O X eT F
  exact ⟨s₂, o, q p e s m args below meth c T locs O X eT _ h1, r⟩
theorem Go.weaken {Q' : Option Value → Heap → Prop} (hQ : ∀ v h, Q' v h → Q v h) (k : Go wd l R Z y bytes maxL ret n0 K N Q' h cells slots pc Ls st) : Go wd l R Z y bytes maxL ret n0 K N Q h cells slots pc Ls st := by
  intro p e s0 s m args below meth c T locs hR O X eT F
  obtain ⟨s₂, o, h1, h2, h3, v, L, h4, h5, h6⟩ := k p e s0 s m args below meth c T locs hR O X eT F
  exact ⟨s₂, o, h1, h2, h3, v, L, h4, ⟨hQ _ _ h5.1, h5.2⟩, h6⟩
/-! plain steps -/
theorem Go.iload {k : Nat} {v : Int32} (hd : decode bytes pc = .ok (.iload k, 2)) (hl : Ls[k]? = some (.val (.int v))) (hp : pc + 2 = pc') (q : Go wd l R Z y bytes maxL ret n0 K N Q h cells slots pc' Ls (.int v :: st)) : Go wd l R Z y bytes maxL ret n0 K N Q h cells slots pc Ls st := by
  subst hp; exact Go.of q fun p e s m args below meth c T locs O X eT t hr => XS.iload X.here O.1 rfl (hb O.2.1 hd) hl hr
theorem Go.iloadN {k : Fin 4} {v : Int32} (hd : decode bytes pc = .ok (.iload_n k, 1)) (hl : Ls[k.val]? = some (.val (.int v))) (hp : pc + 1 = pc') (q : Go wd l R Z y bytes maxL ret n0 K N Q h cells slots pc' Ls (.int v :: st)) : Go wd l R Z y bytes maxL ret n0 K N Q h cells slots pc Ls st := by
  subst hp; exact Go.of q fun p e s m args below meth c T locs O X eT t hr => XS.iloadN X.here O.1 rfl (hb O.2.1 hd) hl hr
theorem Go.lload {k : Nat} {v : Int64} (hd : decode bytes pc = .ok (.lload k, 2)) (hl : Ls[k]? = some (.val (.long v))) (hp : pc + 2 = pc') (q : Go wd l R Z y bytes maxL ret n0 K N Q h cells slots pc' Ls (.long v :: st)) : Go wd l R Z y bytes maxL ret n0 K N Q h cells slots pc Ls st := by
  subst hp; exact Go.of q fun p e s m args below meth c T locs O X eT t hr => XS.lload X.here O.1 rfl (hb O.2.1 hd) hl hr
theorem Go.lloadN {k : Fin 4} {v : Int64} (hd : decode bytes pc = .ok (.lload_n k, 1)) (hl : Ls[k.val]? = some (.val (.long v))) (hp : pc + 1 = pc') (q : Go wd l R Z y bytes maxL ret n0 K N Q h cells slots pc' Ls (.long v :: st)) : Go wd l R Z y bytes maxL ret n0 K N Q h cells slots pc Ls st := by
  subst hp; exact Go.of q fun p e s m args below meth c T locs O X eT t hr => XS.lloadN X.here O.1 rfl (hb O.2.1 hd) hl hr
theorem Go.aload {k : Nat} {v : Value} (hd : decode bytes pc = .ok (.aload k, 2)) (hl : Ls[k]? = some (.val v)) (hv : v.isRef = true) (hp : pc + 2 = pc') (q : Go wd l R Z y bytes maxL ret n0 K N Q h cells slots pc' Ls (v :: st)) : Go wd l R Z y bytes maxL ret n0 K N Q h cells slots pc Ls st := by
  subst hp; exact Go.of q fun p e s m args below meth c T locs O X eT t hr => XS.aload X.here O.1 rfl (hb O.2.1 hd) hl hv hr
theorem Go.aloadN {k : Fin 4} {v : Value} (hd : decode bytes pc = .ok (.aload_n k, 1)) (hl : Ls[k.val]? = some (.val v)) (hv : v.isRef = true) (hp : pc + 1 = pc') (q : Go wd l R Z y bytes maxL ret n0 K N Q h cells slots pc' Ls (v :: st)) : Go wd l R Z y bytes maxL ret n0 K N Q h cells slots pc Ls st := by
  subst hp; exact Go.of q fun p e s m args below meth c T locs O X eT t hr => XS.aloadN X.here O.1 rfl (hb O.2.1 hd) hl hv hr
theorem Go.istore {k : Nat} {v : Int32} (hd : decode bytes pc = .ok (.istore k, 2)) (hl : storeLocals Ls k (.int v) = some Ls') (hp : pc + 2 = pc') (q : Go wd l R Z y bytes maxL ret n0 K N Q h cells slots pc' Ls' st) : Go wd l R Z y bytes maxL ret n0 K N Q h cells slots pc Ls (.int v :: st) := by
  subst hp; exact Go.of q fun p e s m args below meth c T locs O X eT t hr => XS.istore X.here O.1 rfl (hb O.2.1 hd) rfl hl hr
theorem Go.istoreN {k : Fin 4} {v : Int32} (hd : decode bytes pc = .ok (.istore_n k, 1)) (hl : storeLocals Ls k.val (.int v) = some Ls') (hp : pc + 1 = pc') (q : Go wd l R Z y bytes maxL ret n0 K N Q h cells slots pc' Ls' st) : Go wd l R Z y bytes maxL ret n0 K N Q h cells slots pc Ls (.int v :: st) := by
  subst hp; exact Go.of q fun p e s m args below meth c T locs O X eT t hr => XS.istoreN X.here O.1 rfl (hb O.2.1 hd) rfl hl hr
theorem Go.lstore {k : Nat} {v : Int64} (hd : decode bytes pc = .ok (.lstore k, 2)) (hl : storeLocals Ls k (.long v) = some Ls') (hp : pc + 2 = pc') (q : Go wd l R Z y bytes maxL ret n0 K N Q h cells slots pc' Ls' st) : Go wd l R Z y bytes maxL ret n0 K N Q h cells slots pc Ls (.long v :: st) := by
  subst hp; exact Go.of q fun p e s m args below meth c T locs O X eT t hr => XS.lstore X.here O.1 rfl (hb O.2.1 hd) rfl hl hr
theorem Go.lstoreN {k : Fin 4} {v : Int64} (hd : decode bytes pc = .ok (.lstore_n k, 1)) (hl : storeLocals Ls k.val (.long v) = some Ls') (hp : pc + 1 = pc') (q : Go wd l R Z y bytes maxL ret n0 K N Q h cells slots pc' Ls' st) : Go wd l R Z y bytes maxL ret n0 K N Q h cells slots pc Ls (.long v :: st) := by
  subst hp; exact Go.of q fun p e s m args below meth c T locs O X eT t hr => XS.lstoreN X.here O.1 rfl (hb O.2.1 hd) rfl hl hr
theorem Go.astore {k : Nat} {v : Value} (hd : decode bytes pc = .ok (.astore k, 2)) (hv : v.isRef = true) (hl : storeLocals Ls k v = some Ls') (hp : pc + 2 = pc') (q : Go wd l R Z y bytes maxL ret n0 K N Q h cells slots pc' Ls' st) : Go wd l R Z y bytes maxL ret n0 K N Q h cells slots pc Ls (v :: st) := by
  subst hp; exact Go.of q fun p e s m args below meth c T locs O X eT t hr => XS.astore X.here O.1 rfl (hb O.2.1 hd) rfl hv hl hr
theorem Go.astoreN {k : Fin 4} {v : Value} (hd : decode bytes pc = .ok (.astore_n k, 1)) (hv : v.isRef = true) (hl : storeLocals Ls k.val v = some Ls') (hp : pc + 1 = pc') (q : Go wd l R Z y bytes maxL ret n0 K N Q h cells slots pc' Ls' st) : Go wd l R Z y bytes maxL ret n0 K N Q h cells slots pc Ls (v :: st) := by
  subst hp; exact Go.of q fun p e s m args below meth c T locs O X eT t hr => XS.astoreN X.here O.1 rfl (hb O.2.1 hd) rfl hv hl hr
theorem Go.iinc {k : Nat} {cst : Int} {v w : Int32} (hd : decode bytes pc = .ok (.iinc k cst, 3)) (hl : Ls[k]? = some (.val (.int v))) (hw : v + Int32.ofInt cst = w) (hl' : storeLocals Ls k (.int w) = some Ls') (hp : pc + 3 = pc') (q : Go wd l R Z y bytes maxL ret n0 K N Q h cells slots pc' Ls' st) : Go wd l R Z y bytes maxL ret n0 K N Q h cells slots pc Ls st := by
  subst hp hw; exact Go.of q fun p e s m args below meth c T locs O X eT t hr => XS.iinc X.here O.1 rfl (hb O.2.1 hd) hl hl' hr
theorem Go.iconst {i : Int} {v : Int32} (hd : decode bytes pc = .ok (.iconst i, 1)) (hv : Int32.ofInt i = v) (hp : pc + 1 = pc') (q : Go wd l R Z y bytes maxL ret n0 K N Q h cells slots pc' Ls (.int v :: st)) : Go wd l R Z y bytes maxL ret n0 K N Q h cells slots pc Ls st := by
  subst hp hv; exact Go.of q fun p e s m args below meth c T locs O X eT t hr => XS.iconst X.here O.1 rfl (hb O.2.1 hd) hr
theorem Go.bipush {i : Int} {v : Int32} (hd : decode bytes pc = .ok (.bipush i, 2)) (hv : (Int8.ofInt i).toInt32 = v) (hp : pc + 2 = pc') (q : Go wd l R Z y bytes maxL ret n0 K N Q h cells slots pc' Ls (.int v :: st)) : Go wd l R Z y bytes maxL ret n0 K N Q h cells slots pc Ls st := by
  subst hp hv; exact Go.of q fun p e s m args below meth c T locs O X eT t hr => XS.bipush X.here O.1 rfl (hb O.2.1 hd) hr
theorem Go.sipush {i : Int} {v : Int32} (hd : decode bytes pc = .ok (.sipush i, 3)) (hv : (Int16.ofInt i).toInt32 = v) (hp : pc + 3 = pc') (q : Go wd l R Z y bytes maxL ret n0 K N Q h cells slots pc' Ls (.int v :: st)) : Go wd l R Z y bytes maxL ret n0 K N Q h cells slots pc Ls st := by
  subst hp hv; exact Go.of q fun p e s m args below meth c T locs O X eT t hr => XS.sipush X.here O.1 rfl (hb O.2.1 hd) hr
theorem Go.lconst {k : Fin 2} {v : Int64} (hd : decode bytes pc = .ok (.lconst k, 1)) (hv : Int64.ofNat k = v) (hp : pc + 1 = pc') (q : Go wd l R Z y bytes maxL ret n0 K N Q h cells slots pc' Ls (.long v :: st)) : Go wd l R Z y bytes maxL ret n0 K N Q h cells slots pc Ls st := by
  subst hp hv; exact Go.of q fun p e s m args below meth c T locs O X eT t hr => XS.lconst X.here O.1 rfl (hb O.2.1 hd) hr
theorem Go.aconstNull (hd : decode bytes pc = .ok (.aconst_null, 1)) (hp : pc + 1 = pc') (q : Go wd l R Z y bytes maxL ret n0 K N Q h cells slots pc' Ls (.null :: st)) : Go wd l R Z y bytes maxL ret n0 K N Q h cells slots pc Ls st := by
  subst hp; exact Go.of q fun p e s m args below meth c T locs O X eT t hr => XS.aconstNull X.here O.1 rfl (hb O.2.1 hd) hr
theorem Go.dup {v : Value} (hd : decode bytes pc = .ok (.dup, 1)) (hv : v.category = 1) (hp : pc + 1 = pc') (q : Go wd l R Z y bytes maxL ret n0 K N Q h cells slots pc' Ls (v :: v :: st)) : Go wd l R Z y bytes maxL ret n0 K N Q h cells slots pc Ls (v :: st) := by
  subst hp; exact Go.of q fun p e s m args below meth c T locs O X eT t hr => XS.dup X.here O.1 rfl (hb O.2.1 hd) rfl hv hr
theorem Go.dupX1 {v w : Value} (hd : decode bytes pc = .ok (.dup_x1, 1)) (hv : v.category = 1) (hw : w.category = 1) (hp : pc + 1 = pc') (q : Go wd l R Z y bytes maxL ret n0 K N Q h cells slots pc' Ls (v :: w :: v :: st)) : Go wd l R Z y bytes maxL ret n0 K N Q h cells slots pc Ls (v :: w :: st) := by
  subst hp; exact Go.of q fun p e s m args below meth c T locs O X eT t hr => XS.dupX1 X.here O.1 rfl (hb O.2.1 hd) rfl hv hw hr
theorem Go.dup2 {v w : Value} (hd : decode bytes pc = .ok (.dup2, 1)) (hv : v.category = 1) (hw : w.category = 1) (hp : pc + 1 = pc') (q : Go wd l R Z y bytes maxL ret n0 K N Q h cells slots pc' Ls (v :: w :: v :: w :: st)) : Go wd l R Z y bytes maxL ret n0 K N Q h cells slots pc Ls (v :: w :: st) := by
  subst hp; exact Go.of q fun p e s m args below meth c T locs O X eT t hr => XT.dup2 X.here O.1 rfl (hb O.2.1 hd) rfl hv hw hr
theorem Go.pop {v : Value} (hd : decode bytes pc = .ok (.pop, 1)) (hv : v.category = 1) (hp : pc + 1 = pc') (q : Go wd l R Z y bytes maxL ret n0 K N Q h cells slots pc' Ls st) : Go wd l R Z y bytes maxL ret n0 K N Q h cells slots pc Ls (v :: st) := by
  subst hp; exact Go.of q fun p e s m args below meth c T locs O X eT t hr => XS.pop X.here O.1 rfl (hb O.2.1 hd) rfl hv hr
theorem Go.goto {o : Int} (hd : decode bytes pc = .ok (.goto o, 3)) (ho : 0 ≤ (pc : Int) + o) (hp : ((pc : Int) + o).toNat = pc') (q : Go wd l R Z y bytes maxL ret n0 K N Q h cells slots pc' Ls st) : Go wd l R Z y bytes maxL ret n0 K N Q h cells slots pc Ls st :=
  Go.of q fun p e s m args below meth c T locs O X eT t hr => XS.goto X.here O.1 rfl (pc0 := pc) rfl (hb O.2.1 hd) ho hp hr
theorem Go.iadd {a : Int32} {b : Int32} (hd : decode bytes pc = .ok (.iadd, 1)) (hp : pc + 1 = pc') (q : Go wd l R Z y bytes maxL ret n0 K N Q h cells slots pc' Ls (.int (a + b) :: st)) : Go wd l R Z y bytes maxL ret n0 K N Q h cells slots pc Ls (.int b :: .int a :: st) := by
  subst hp; exact Go.of q fun p e s m args below meth c T locs O X eT t hr => XS.iadd X.here O.1 rfl (hb O.2.1 hd) rfl hr
theorem Go.isub {a : Int32} {b : Int32} (hd : decode bytes pc = .ok (.isub, 1)) (hp : pc + 1 = pc') (q : Go wd l R Z y bytes maxL ret n0 K N Q h cells slots pc' Ls (.int (a - b) :: st)) : Go wd l R Z y bytes maxL ret n0 K N Q h cells slots pc Ls (.int b :: .int a :: st) := by
  subst hp; exact Go.of q fun p e s m args below meth c T locs O X eT t hr => XS.isub X.here O.1 rfl (hb O.2.1 hd) rfl hr
theorem Go.imul {a : Int32} {b : Int32} (hd : decode bytes pc = .ok (.imul, 1)) (hp : pc + 1 = pc') (q : Go wd l R Z y bytes maxL ret n0 K N Q h cells slots pc' Ls (.int (a * b) :: st)) : Go wd l R Z y bytes maxL ret n0 K N Q h cells slots pc Ls (.int b :: .int a :: st) := by
  subst hp; exact Go.of q fun p e s m args below meth c T locs O X eT t hr => XS.imul X.here O.1 rfl (hb O.2.1 hd) rfl hr
theorem Go.iand {a : Int32} {b : Int32} (hd : decode bytes pc = .ok (.iand, 1)) (hp : pc + 1 = pc') (q : Go wd l R Z y bytes maxL ret n0 K N Q h cells slots pc' Ls (.int (a &&& b) :: st)) : Go wd l R Z y bytes maxL ret n0 K N Q h cells slots pc Ls (.int b :: .int a :: st) := by
  subst hp; exact Go.of q fun p e s m args below meth c T locs O X eT t hr => XS.iand X.here O.1 rfl (hb O.2.1 hd) rfl hr
theorem Go.ior {a : Int32} {b : Int32} (hd : decode bytes pc = .ok (.ior, 1)) (hp : pc + 1 = pc') (q : Go wd l R Z y bytes maxL ret n0 K N Q h cells slots pc' Ls (.int (a ||| b) :: st)) : Go wd l R Z y bytes maxL ret n0 K N Q h cells slots pc Ls (.int b :: .int a :: st) := by
  subst hp; exact Go.of q fun p e s m args below meth c T locs O X eT t hr => XS.ior X.here O.1 rfl (hb O.2.1 hd) rfl hr
theorem Go.ixor {a : Int32} {b : Int32} (hd : decode bytes pc = .ok (.ixor, 1)) (hp : pc + 1 = pc') (q : Go wd l R Z y bytes maxL ret n0 K N Q h cells slots pc' Ls (.int (a ^^^ b) :: st)) : Go wd l R Z y bytes maxL ret n0 K N Q h cells slots pc Ls (.int b :: .int a :: st) := by
  subst hp; exact Go.of q fun p e s m args below meth c T locs O X eT t hr => XS.ixor X.here O.1 rfl (hb O.2.1 hd) rfl hr
theorem Go.ishl {a : Int32} {b : Int32} (hd : decode bytes pc = .ok (.ishl, 1)) (hp : pc + 1 = pc') (q : Go wd l R Z y bytes maxL ret n0 K N Q h cells slots pc' Ls (.int (a <<< (b &&& 31)) :: st)) : Go wd l R Z y bytes maxL ret n0 K N Q h cells slots pc Ls (.int b :: .int a :: st) := by
  subst hp; exact Go.of q fun p e s m args below meth c T locs O X eT t hr => XS.ishl X.here O.1 rfl (hb O.2.1 hd) rfl hr
theorem Go.ishr {a : Int32} {b : Int32} (hd : decode bytes pc = .ok (.ishr, 1)) (hp : pc + 1 = pc') (q : Go wd l R Z y bytes maxL ret n0 K N Q h cells slots pc' Ls (.int (a >>> (b &&& 31)) :: st)) : Go wd l R Z y bytes maxL ret n0 K N Q h cells slots pc Ls (.int b :: .int a :: st) := by
  subst hp; exact Go.of q fun p e s m args below meth c T locs O X eT t hr => XS.ishr X.here O.1 rfl (hb O.2.1 hd) rfl hr
theorem Go.iushr {a : Int32} {b : Int32} (hd : decode bytes pc = .ok (.iushr, 1)) (hp : pc + 1 = pc') (q : Go wd l R Z y bytes maxL ret n0 K N Q h cells slots pc' Ls (.int ((a.toUInt32 >>> (b &&& 31).toUInt32).toInt32) :: st)) : Go wd l R Z y bytes maxL ret n0 K N Q h cells slots pc Ls (.int b :: .int a :: st) := by
  subst hp; exact Go.of q fun p e s m args below meth c T locs O X eT t hr => XS.iushr X.here O.1 rfl (hb O.2.1 hd) rfl hr
theorem Go.idiv {a : Int32} {b : Int32} (hd : decode bytes pc = .ok (.idiv, 1)) (hy : b ≠ 0) (hp : pc + 1 = pc') (q : Go wd l R Z y bytes maxL ret n0 K N Q h cells slots pc' Ls (.int (a / b) :: st)) : Go wd l R Z y bytes maxL ret n0 K N Q h cells slots pc Ls (.int b :: .int a :: st) := by
  subst hp; exact Go.of q fun p e s m args below meth c T locs O X eT t hr => XS.idiv X.here O.1 rfl (hb O.2.1 hd) rfl hy hr
theorem Go.ladd {a : Int64} {b : Int64} (hd : decode bytes pc = .ok (.ladd, 1)) (hp : pc + 1 = pc') (q : Go wd l R Z y bytes maxL ret n0 K N Q h cells slots pc' Ls (.long (a + b) :: st)) : Go wd l R Z y bytes maxL ret n0 K N Q h cells slots pc Ls (.long b :: .long a :: st) := by
  subst hp; exact Go.of q fun p e s m args below meth c T locs O X eT t hr => XS.ladd X.here O.1 rfl (hb O.2.1 hd) rfl hr
theorem Go.lsub {a : Int64} {b : Int64} (hd : decode bytes pc = .ok (.lsub, 1)) (hp : pc + 1 = pc') (q : Go wd l R Z y bytes maxL ret n0 K N Q h cells slots pc' Ls (.long (a - b) :: st)) : Go wd l R Z y bytes maxL ret n0 K N Q h cells slots pc Ls (.long b :: .long a :: st) := by
  subst hp; exact Go.of q fun p e s m args below meth c T locs O X eT t hr => XS.lsub X.here O.1 rfl (hb O.2.1 hd) rfl hr
theorem Go.lmul {a : Int64} {b : Int64} (hd : decode bytes pc = .ok (.lmul, 1)) (hp : pc + 1 = pc') (q : Go wd l R Z y bytes maxL ret n0 K N Q h cells slots pc' Ls (.long (a * b) :: st)) : Go wd l R Z y bytes maxL ret n0 K N Q h cells slots pc Ls (.long b :: .long a :: st) := by
  subst hp; exact Go.of q fun p e s m args below meth c T locs O X eT t hr => XS.lmul X.here O.1 rfl (hb O.2.1 hd) rfl hr
theorem Go.land {a : Int64} {b : Int64} (hd : decode bytes pc = .ok (.land, 1)) (hp : pc + 1 = pc') (q : Go wd l R Z y bytes maxL ret n0 K N Q h cells slots pc' Ls (.long (a &&& b) :: st)) : Go wd l R Z y bytes maxL ret n0 K N Q h cells slots pc Ls (.long b :: .long a :: st) := by
  subst hp; exact Go.of q fun p e s m args below meth c T locs O X eT t hr => XS.land X.here O.1 rfl (hb O.2.1 hd) rfl hr
theorem Go.lor {a : Int64} {b : Int64} (hd : decode bytes pc = .ok (.lor, 1)) (hp : pc + 1 = pc') (q : Go wd l R Z y bytes maxL ret n0 K N Q h cells slots pc' Ls (.long (a ||| b) :: st)) : Go wd l R Z y bytes maxL ret n0 K N Q h cells slots pc Ls (.long b :: .long a :: st) := by
  subst hp; exact Go.of q fun p e s m args below meth c T locs O X eT t hr => XS.lor X.here O.1 rfl (hb O.2.1 hd) rfl hr
theorem Go.lxor {a : Int64} {b : Int64} (hd : decode bytes pc = .ok (.lxor, 1)) (hp : pc + 1 = pc') (q : Go wd l R Z y bytes maxL ret n0 K N Q h cells slots pc' Ls (.long (a ^^^ b) :: st)) : Go wd l R Z y bytes maxL ret n0 K N Q h cells slots pc Ls (.long b :: .long a :: st) := by
  subst hp; exact Go.of q fun p e s m args below meth c T locs O X eT t hr => XS.lxor X.here O.1 rfl (hb O.2.1 hd) rfl hr
theorem Go.lshl {a : Int64} {b : Int32} (hd : decode bytes pc = .ok (.lshl, 1)) (hp : pc + 1 = pc') (q : Go wd l R Z y bytes maxL ret n0 K N Q h cells slots pc' Ls (.long (a <<< (b &&& 0x3f).toInt64) :: st)) : Go wd l R Z y bytes maxL ret n0 K N Q h cells slots pc Ls (.int b :: .long a :: st) := by
  subst hp; exact Go.of q fun p e s m args below meth c T locs O X eT t hr => XS.lshl X.here O.1 rfl (hb O.2.1 hd) rfl hr
theorem Go.lshr {a : Int64} {b : Int32} (hd : decode bytes pc = .ok (.lshr, 1)) (hp : pc + 1 = pc') (q : Go wd l R Z y bytes maxL ret n0 K N Q h cells slots pc' Ls (.long (a >>> (b &&& 0x3f).toInt64) :: st)) : Go wd l R Z y bytes maxL ret n0 K N Q h cells slots pc Ls (.int b :: .long a :: st) := by
  subst hp; exact Go.of q fun p e s m args below meth c T locs O X eT t hr => XS.lshr X.here O.1 rfl (hb O.2.1 hd) rfl hr
theorem Go.lushr {a : Int64} {b : Int32} (hd : decode bytes pc = .ok (.lushr, 1)) (hp : pc + 1 = pc') (q : Go wd l R Z y bytes maxL ret n0 K N Q h cells slots pc' Ls (.long ((a.toUInt64 >>> (b &&& 0x3f).toInt64.toUInt64).toInt64) :: st)) : Go wd l R Z y bytes maxL ret n0 K N Q h cells slots pc Ls (.int b :: .long a :: st) := by
  subst hp; exact Go.of q fun p e s m args below meth c T locs O X eT t hr => XS.lushr X.here O.1 rfl (hb O.2.1 hd) rfl hr
theorem Go.ldiv {a : Int64} {b : Int64} (hd : decode bytes pc = .ok (.ldiv, 1)) (hy : b ≠ 0) (hp : pc + 1 = pc') (q : Go wd l R Z y bytes maxL ret n0 K N Q h cells slots pc' Ls (.long (a / b) :: st)) : Go wd l R Z y bytes maxL ret n0 K N Q h cells slots pc Ls (.long b :: .long a :: st) := by
  subst hp; exact Go.of q fun p e s m args below meth c T locs O X eT t hr => XS.ldiv X.here O.1 rfl (hb O.2.1 hd) rfl hy hr
theorem Go.i2b {a : Int32} (hd : decode bytes pc = .ok (.i2b, 1)) (hp : pc + 1 = pc') (q : Go wd l R Z y bytes maxL ret n0 K N Q h cells slots pc' Ls (.int (a.toInt8.toInt32) :: st)) : Go wd l R Z y bytes maxL ret n0 K N Q h cells slots pc Ls (.int a :: st) := by
  subst hp; exact Go.of q fun p e s m args below meth c T locs O X eT t hr => XS.i2b X.here O.1 rfl (hb O.2.1 hd) rfl hr
theorem Go.i2c {a : Int32} (hd : decode bytes pc = .ok (.i2c, 1)) (hp : pc + 1 = pc') (q : Go wd l R Z y bytes maxL ret n0 K N Q h cells slots pc' Ls (.int (a.toUInt32.toUInt16.toUInt32.toInt32) :: st)) : Go wd l R Z y bytes maxL ret n0 K N Q h cells slots pc Ls (.int a :: st) := by
  subst hp; exact Go.of q fun p e s m args below meth c T locs O X eT t hr => XS.i2c X.here O.1 rfl (hb O.2.1 hd) rfl hr
theorem Go.i2s {a : Int32} (hd : decode bytes pc = .ok (.i2s, 1)) (hp : pc + 1 = pc') (q : Go wd l R Z y bytes maxL ret n0 K N Q h cells slots pc' Ls (.int (a.toInt16.toInt32) :: st)) : Go wd l R Z y bytes maxL ret n0 K N Q h cells slots pc Ls (.int a :: st) := by
  subst hp; exact Go.of q fun p e s m args below meth c T locs O X eT t hr => XS.i2s X.here O.1 rfl (hb O.2.1 hd) rfl hr
theorem Go.i2l {a : Int32} (hd : decode bytes pc = .ok (.i2l, 1)) (hp : pc + 1 = pc') (q : Go wd l R Z y bytes maxL ret n0 K N Q h cells slots pc' Ls (.long (a.toInt64) :: st)) : Go wd l R Z y bytes maxL ret n0 K N Q h cells slots pc Ls (.int a :: st) := by
  subst hp; exact Go.of q fun p e s m args below meth c T locs O X eT t hr => XS.i2l X.here O.1 rfl (hb O.2.1 hd) rfl hr
theorem Go.l2i {a : Int64} (hd : decode bytes pc = .ok (.l2i, 1)) (hp : pc + 1 = pc') (q : Go wd l R Z y bytes maxL ret n0 K N Q h cells slots pc' Ls (.int (a.toInt32) :: st)) : Go wd l R Z y bytes maxL ret n0 K N Q h cells slots pc Ls (.long a :: st) := by
  subst hp; exact Go.of q fun p e s m args below meth c T locs O X eT t hr => XS.l2i X.here O.1 rfl (hb O.2.1 hd) rfl hr
theorem Go.lneg {a : Int64} (hd : decode bytes pc = .ok (.lneg, 1)) (hp : pc + 1 = pc') (q : Go wd l R Z y bytes maxL ret n0 K N Q h cells slots pc' Ls (.long (-a) :: st)) : Go wd l R Z y bytes maxL ret n0 K N Q h cells slots pc Ls (.long a :: st) := by
  subst hp; exact Go.of q fun p e s m args below meth c T locs O X eT t hr => XS.lneg X.here O.1 rfl (hb O.2.1 hd) rfl hr
theorem Go.ineg {a : Int32} (hd : decode bytes pc = .ok (.ineg, 1)) (hp : pc + 1 = pc') (q : Go wd l R Z y bytes maxL ret n0 K N Q h cells slots pc' Ls (.int (-a) :: st)) : Go wd l R Z y bytes maxL ret n0 K N Q h cells slots pc Ls (.int a :: st) := by
  subst hp; exact Go.of q fun p e s m args below meth c T locs O X eT t hr => XS.ineg X.here O.1 rfl (hb O.2.1 hd) rfl hr
theorem Go.irem {a b : Int32} (hd : decode bytes pc = .ok (.irem, 1)) (hy : b ≠ 0) (hp : pc + 1 = pc') (q : Go wd l R Z y bytes maxL ret n0 K N Q h cells slots pc' Ls (.int (a % b) :: st)) : Go wd l R Z y bytes maxL ret n0 K N Q h cells slots pc Ls (.int b :: .int a :: st) := by
  subst hp; exact Go.of q fun p e s m args below meth c T locs O X eT t hr => iremM X O.1 rfl (hb O.2.1 hd) rfl hy hr
theorem Go.lrem {a b : Int64} (hd : decode bytes pc = .ok (.lrem, 1)) (hy : b ≠ 0) (hp : pc + 1 = pc') (q : Go wd l R Z y bytes maxL ret n0 K N Q h cells slots pc' Ls (.long (a % b) :: st)) : Go wd l R Z y bytes maxL ret n0 K N Q h cells slots pc Ls (.long b :: .long a :: st) := by
  subst hp; rw [← lrem_mod] at q; exact Go.of q fun p e s m args below meth c T locs O X eT t hr => XS.lrem X.here O.1 rfl (hb O.2.1 hd) rfl hy hr
theorem c_lremM (x y : Int64) (d : Int) (hy : y.toInt = d) : (0 ≤ x.toInt → (x % y).toInt = x.toInt % d) ∧ (x.toInt < 0 → (x % y).toInt = -((-x.toInt) % d)) := by rw [Int64.toInt_mod, hy]; exact tr _ _
/-! branches -/
def jc : ClassFile.Cond → Int32 → Int32 → Prop
  | .eq, x, y => x.toInt = y.toInt
  | .ne, x, y => x.toInt ≠ y.toInt
  | .lt, x, y => x.toInt < y.toInt
  | .ge, x, y => y.toInt ≤ x.toInt
  | .gt, x, y => y.toInt < x.toInt
  | .le, x, y => x.toInt ≤ y.toInt
def jn : ClassFile.Cond → Int32 → Int32 → Prop
  | .eq, x, y => x.toInt ≠ y.toInt
  | .ne, x, y => x.toInt = y.toInt
  | .lt, x, y => y.toInt ≤ x.toInt
  | .ge, x, y => x.toInt < y.toInt
  | .gt, x, y => x.toInt ≤ y.toInt
  | .le, x, y => y.toInt < x.toInt
def zc : ClassFile.Cond → Int32 → Prop
  | .eq, x => x.toInt = 0
  | .ne, x => x.toInt ≠ 0
  | .lt, x => x.toInt < 0
  | .ge, x => 0 ≤ x.toInt
  | .gt, x => 0 < x.toInt
  | .le, x => x.toInt ≤ 0
def zn : ClassFile.Cond → Int32 → Prop
  | .eq, x => x.toInt ≠ 0
  | .ne, x => x.toInt = 0
  | .lt, x => 0 ≤ x.toInt
  | .ge, x => x.toInt < 0
  | .gt, x => x.toInt ≤ 0
  | .le, x => 0 < x.toInt
def wc : ClassFile.Cond → Int64 → Int64 → Prop
  | .eq, x, y => x.toInt = y.toInt
  | .ne, x, y => x.toInt ≠ y.toInt
  | .lt, x, y => x.toInt < y.toInt
  | .ge, x, y => y.toInt ≤ x.toInt
  | .gt, x, y => y.toInt < x.toInt
  | .le, x, y => x.toInt ≤ y.toInt
def wn : ClassFile.Cond → Int64 → Int64 → Prop
  | .eq, x, y => x.toInt ≠ y.toInt
  | .ne, x, y => x.toInt = y.toInt
  | .lt, x, y => y.toInt ≤ x.toInt
  | .ge, x, y => x.toInt < y.toInt
  | .gt, x, y => x.toInt ≤ y.toInt
  | .le, x, y => y.toInt < x.toInt
theorem jc_or (cd : ClassFile.Cond) (x y : Int32) : (if_icmp.holds cd x y = true ∧ jc cd x y) ∨ (if_icmp.holds cd x y = false ∧ jn cd x y) := by
  have i : x = y ↔ x.toInt = y.toInt := Int32.toInt_inj.symm
  cases cd <;> simp only [if_icmp.holds, jc, jn, beq_iff_eq, bne_iff_ne, beq_eq_false_iff_ne, bne_eq_false_iff_eq, decide_eq_true_eq, decide_eq_false_iff_not, Int32.lt_iff_toInt_lt, Int32.le_iff_toInt_le, ge_iff_le, gt_iff_lt, ne_eq, i] <;> omega
theorem zc_or (cd : ClassFile.Cond) (x : Int32) : (ifCond.holds cd x = true ∧ zc cd x) ∨ (ifCond.holds cd x = false ∧ zn cd x) := by
  have z : (0 : Int32).toInt = 0 := rfl
  rcases jc_or cd x 0 with ⟨q, r⟩ | ⟨q, r⟩
  · left; rw [if0]; refine ⟨q, ?_⟩; cases cd <;> simp only [jc, zc, z] at r ⊢ <;> exact r
  · right; rw [if0]; refine ⟨q, ?_⟩; cases cd <;> simp only [jn, zn, z] at r ⊢ <;> exact r
theorem wc_or (cd : ClassFile.Cond) (x y : Int64) : (ifCond.holds cd (lcmpW x y) = true ∧ wc cd x y) ∨ (ifCond.holds cd (lcmpW x y) = false ∧ wn cd x y) := by
  have e := c_lcmp x y
  rcases zc_or cd (lcmpW x y) with ⟨q, r⟩ | ⟨q, r⟩
  · left; refine ⟨q, ?_⟩; cases cd <;> simp only [zc, wc, ne_eq] at r ⊢ <;> omega
  · right; refine ⟨q, ?_⟩; cases cd <;> simp only [zn, wn, ne_eq] at r ⊢ <;> omega
theorem Go.icmp {cd : ClassFile.Cond} {o : Int} {x z : Int32} {pc1 pc2 : Nat} (hd : decode bytes pc = .ok (.if_icmp cd o, 3)) (ho : 0 ≤ (pc : Int) + o) (hp : ((pc : Int) + o).toNat = pc1) (hp2 : pc + 3 = pc2)
    (q1 : jc cd x z → Go wd l R Z y bytes maxL ret n0 K N Q h cells slots pc1 Ls st) (q2 : jn cd x z → Go wd l R Z y bytes maxL ret n0 K N Q h cells slots pc2 Ls st) : Go wd l R Z y bytes maxL ret n0 K N Q h cells slots pc Ls (.int z :: .int x :: st) := by
  rcases jc_or cd x z with ⟨hc, r⟩ | ⟨hc, r⟩
  · exact Go.of (q1 r) fun p e s m args below meth c T locs O X eT t hr => XS.icmpYes X.here O.1 rfl (pc0 := pc) rfl (hb O.2.1 hd) rfl hc ho hp hr
  · subst hp2; exact Go.of (q2 r) fun p e s m args below meth c T locs O X eT t hr => XS.icmpNo X.here O.1 rfl (hb O.2.1 hd) rfl hc hr
theorem Go.ifc {cd : ClassFile.Cond} {o : Int} {x : Int32} {pc1 pc2 : Nat} (hd : decode bytes pc = .ok (.ifCond cd o, 3)) (ho : 0 ≤ (pc : Int) + o) (hp : ((pc : Int) + o).toNat = pc1) (hp2 : pc + 3 = pc2)
    (q1 : zc cd x → Go wd l R Z y bytes maxL ret n0 K N Q h cells slots pc1 Ls st) (q2 : zn cd x → Go wd l R Z y bytes maxL ret n0 K N Q h cells slots pc2 Ls st) : Go wd l R Z y bytes maxL ret n0 K N Q h cells slots pc Ls (.int x :: st) := by
  rcases zc_or cd x with ⟨hc, r⟩ | ⟨hc, r⟩
  · exact Go.of (q1 r) fun p e s m args below meth c T locs O X eT t hr => XS.ifYes X.here O.1 rfl (pc0 := pc) rfl (hb O.2.1 hd) rfl hc ho hp hr
  · subst hp2; exact Go.of (q2 r) fun p e s m args below meth c T locs O X eT t hr => XS.ifNo X.here O.1 rfl (hb O.2.1 hd) rfl hc hr
theorem Go.lcmp {a b : Int64} (hd : decode bytes pc = .ok (.lcmp, 1)) (hp : pc + 1 = pc') (q : Go wd l R Z y bytes maxL ret n0 K N Q h cells slots pc' Ls (.int (lcmpW a b) :: st)) : Go wd l R Z y bytes maxL ret n0 K N Q h cells slots pc Ls (.long b :: .long a :: st) := by
  subst hp; exact Go.of q fun p e s m args below meth c T locs O X eT t hr => XS.lcmp X.here O.1 rfl (hb O.2.1 hd) rfl hr
theorem Go.ifw {cd : ClassFile.Cond} {o : Int} {a b : Int64} {pc1 pc2 : Nat} (hd : decode bytes pc = .ok (.ifCond cd o, 3)) (ho : 0 ≤ (pc : Int) + o) (hp : ((pc : Int) + o).toNat = pc1) (hp2 : pc + 3 = pc2)
    (q1 : wc cd a b → Go wd l R Z y bytes maxL ret n0 K N Q h cells slots pc1 Ls st) (q2 : wn cd a b → Go wd l R Z y bytes maxL ret n0 K N Q h cells slots pc2 Ls st) : Go wd l R Z y bytes maxL ret n0 K N Q h cells slots pc Ls (.int (lcmpW a b) :: st) := by
  rcases wc_or cd a b with ⟨hc, r⟩ | ⟨hc, r⟩
  · exact Go.of (q1 r) fun p e s m args below meth c T locs O X eT t hr => XS.ifYes X.here O.1 rfl (pc0 := pc) rfl (hb O.2.1 hd) rfl hc ho hp hr
  · subst hp2; exact Go.of (q2 r) fun p e s m args below meth c T locs O X eT t hr => XS.ifNo X.here O.1 rfl (hb O.2.1 hd) rfl hc hr
theorem Go.nonnullYes {o : Int} {a : Addr} (hd : decode bytes pc = .ok (.ifnonnull o, 3)) (ho : 0 ≤ (pc : Int) + o) (hp : ((pc : Int) + o).toNat = pc') (q : Go wd l R Z y bytes maxL ret n0 K N Q h cells slots pc' Ls st) : Go wd l R Z y bytes maxL ret n0 K N Q h cells slots pc Ls (.ref a :: st) :=
  Go.of q fun p e s m args below meth c T locs O X eT t hr => XS.ifnonnullYes X.here O.1 rfl (pc0 := pc) rfl (hb O.2.1 hd) rfl ho hp hr
theorem Go.nonnullNo {o : Int} (hd : decode bytes pc = .ok (.ifnonnull o, 3)) (hp : pc + 3 = pc') (q : Go wd l R Z y bytes maxL ret n0 K N Q h cells slots pc' Ls st) : Go wd l R Z y bytes maxL ret n0 K N Q h cells slots pc Ls (.null :: st) := by
  subst hp; exact Go.of q fun p e s m args below meth c T locs O X eT t hr => XS.ifnonnullNo X.here O.1 rfl (hb O.2.1 hd) rfl hr
theorem Go.nullYes {o : Int} (hd : decode bytes pc = .ok (.ifnull o, 3)) (ho : 0 ≤ (pc : Int) + o) (hp : ((pc : Int) + o).toNat = pc') (q : Go wd l R Z y bytes maxL ret n0 K N Q h cells slots pc' Ls st) : Go wd l R Z y bytes maxL ret n0 K N Q h cells slots pc Ls (.null :: st) :=
  Go.of q fun p e s m args below meth c T locs O X eT t hr => XS.ifnullYes X.here O.1 rfl (pc0 := pc) rfl (hb O.2.1 hd) rfl ho hp hr
theorem Go.nullNo {o : Int} {a : Addr} (hd : decode bytes pc = .ok (.ifnull o, 3)) (hp : pc + 3 = pc') (q : Go wd l R Z y bytes maxL ret n0 K N Q h cells slots pc' Ls st) : Go wd l R Z y bytes maxL ret n0 K N Q h cells slots pc Ls (.ref a :: st) := by
  subst hp; exact Go.of q fun p e s m args below meth c T locs O X eT t hr => XS.ifnullNo X.here O.1 rfl (hb O.2.1 hd) rfl hr
/-- if_acmp: q1 where they are the same, q2 where they aren't -/
theorem Go.acmp {cd : ACond} {o : Int} {u w : Value} {pc1 pc2 : Nat} (hd : decode bytes pc = .ok (.if_acmp cd o, 3)) (hu : u.isRef = true) (hw : w.isRef = true) (ho : 0 ≤ (pc : Int) + o) (hp : (if acV cd true = true then ((pc : Int) + o).toNat else pc + 3) = pc1) (hp2 : (if acV cd false = true then ((pc : Int) + o).toNat else pc + 3) = pc2)
    (q1 : u = w → Go wd l R Z y bytes maxL ret n0 K N Q h cells slots pc1 Ls st) (q2 : u ≠ w → Go wd l R Z y bytes maxL ret n0 K N Q h cells slots pc2 Ls st) : Go wd l R Z y bytes maxL ret n0 K N Q h cells slots pc Ls (w :: u :: st) := by
  by_cases r : u = w
  · exact Go.of (q1 r) fun p e s m args below meth c T locs O X eT t hr => RoadKit.acmp X O.1 rfl hu hw (pc0 := pc) (same := true) rfl (hb O.2.1 hd) rfl (decide_eq_true r) ho hp.symm hr
  · exact Go.of (q2 r) fun p e s m args below meth c T locs O X eT t hr => RoadKit.acmp X O.1 rfl hu hw (pc0 := pc) (same := false) rfl (hb O.2.1 hd) rfl (decide_eq_false r) ho hp2.symm hr
/-! constants of the pool -/
theorem Go.ldcI {i : Nat} {v : Int32} (w : (Cond.constant y.cls i v).before a0 Z = true) (hd : decode bytes pc = .ok (.ldc i, 2)) (hp : pc + 2 = pc') (q : Go wd l R Z y bytes maxL ret n0 K N Q h cells slots pc' Ls (.int v :: st)) : Go wd l R Z y bytes maxL ret n0 K N Q h cells slots pc Ls st := by
  subst hp; exact Go.of q fun p e s m args below meth c T locs O X eT t hr => X.ldcInt O.1 O.2.2.2.1 (mvT O.2.2.2.2.2.1 w) (g := mkF m pc Ls st) rfl (hb O.2.1 hd) t hr
theorem Go.ldcW {i : Nat} {v : Int32} (w : (Cond.constant y.cls i v).before a0 Z = true) (hd : decode bytes pc = .ok (.ldc_w i, 3)) (hp : pc + 3 = pc') (q : Go wd l R Z y bytes maxL ret n0 K N Q h cells slots pc' Ls (.int v :: st)) : Go wd l R Z y bytes maxL ret n0 K N Q h cells slots pc Ls st := by
  subst hp; exact Go.of q fun p e s m args below meth c T locs O X eT t hr => X.ldcwInt O.1 O.2.2.2.1 (mvT O.2.2.2.2.2.1 w) (g := mkF m pc Ls st) rfl (hb O.2.1 hd) t hr
theorem Go.ldcL {i : Nat} {v : Int64} (w : (Cond.constantLong y.cls i v).before a0 Z = true) (hd : decode bytes pc = .ok (.ldc2_w i, 3)) (hp : pc + 3 = pc') (q : Go wd l R Z y bytes maxL ret n0 K N Q h cells slots pc' Ls (.long v :: st)) : Go wd l R Z y bytes maxL ret n0 K N Q h cells slots pc Ls st := by
  subst hp; exact Go.of q fun p e s m args below meth c T locs O X eT t hr => X.ldc2Long O.1 O.2.2.2.1 (mvT O.2.2.2.2.2.1 w) (g := mkF m pc Ls st) rfl (hb O.2.1 hd) t hr
/-! the ends -/
theorem Go.leave {v : Option Value} (hv : ret = none → v = none) (hQ : Q v h) (hk : cells ≤ K) (hn : slots ≤ N)
    (q : ∀ (p : Program) (e : Env) (s : State) (m : MethodId) (args : Array Value) (below : List Frame) (meth : Method) (c : Code) (T : State) (locs : List Loc) (fs : List Frame), Own Z y bytes maxL ret p s m meth c → Stand p l e R s m args below meth c T locs cells slots →
      (∀ (f : JFrame) (acts : List Action), f.method = m → f.locked = none → f.entered = [] → (doReturn e (T.setTop f) acts v).1 = T.setFrames fs) → Steps p.tables e below (T.setTop (mkF m pc Ls st)) (T.setFrames fs)) : Go wd l R Z y bytes maxL ret n0 K N Q h cells slots pc Ls st := by
  intro p e s0 s m args below meth c T locs hR O X eT F
  obtain ⟨fs, hr, hrun, hended, hW, hsame⟩ := X.leave (v := v) (fun r => hv (by rw [← O.2.2.2.2.2.2.1]; exact r)) O.2.2.2.2.2.2.2
  have hE : GoEnd wd s0 (.returned v) (T.setFrames fs) locs K N := GoRel.ended (U := T.setFrames fs) (by show GoRel wd s0 s T.heap.size; rw [eT]; exact hR) hW hsame hk hn
  refine ⟨_, _, q p e s m args below meth c T locs fs O X hr, hrun, hended, v, locs, rfl, ⟨?_, F⟩, hE⟩
  show Q v T.heap
  rw [eT]; exact hQ
theorem Go.ret0 (hd : decode bytes pc = .ok (.return_, 1)) (hr : ret = none) (hQ : Q none h) (hk : cells ≤ K) (hn : slots ≤ N) : Go wd l R Z y bytes maxL ret n0 K N Q h cells slots pc Ls [] :=
  Go.leave (v := none) (fun _ => rfl) hQ hk hn fun p e s m args below meth c T locs fs O X hl => X.returnOut O.1 (O.2.2.2.2.2.2.1.trans hr) (hb O.2.1 hd) hl
theorem Go.retI {v : Int32} (hd : decode bytes pc = .ok (.ireturn, 1)) (hr : ret = some .int) (hQ : Q (some (.int v)) h) (hk : cells ≤ K) (hn : slots ≤ N) : Go wd l R Z y bytes maxL ret n0 K N Q h cells slots pc Ls (.int v :: st) :=
  Go.leave (v := some (.int v)) (fun r => by rw [hr] at r; cases r) hQ hk hn fun p e s m args below meth c T locs fs O X hl => retOut X O.1 (O.2.2.2.2.2.2.1.trans hr) rfl (Or.inl ⟨rfl, Or.inl rfl, _, rfl⟩) (hb O.2.1 hd) hl
theorem Go.retN {v : Int32} {t : FieldType} (hd : decode bytes pc = .ok (.ireturn, 1)) (hr : ret = some t) (ht : t = .boolean ∨ t = .byte ∨ t = .char ∨ t = .short) (hv : nar t v = v) (hQ : Q (some (.int v)) h) (hk : cells ≤ K) (hn : slots ≤ N) : Go wd l R Z y bytes maxL ret n0 K N Q h cells slots pc Ls (.int v :: st) :=
  Go.leave (v := some (.int v)) (fun r => by rw [hr] at r; cases r) hQ hk hn fun p e s m args below meth c T locs fs O X hl => RoadKit.retN X O.1 (O.2.2.2.2.2.2.1.trans hr) ht (hb O.2.1 hd) (by rw [hv]; exact hl)
theorem Go.retL {v : Int64} (hd : decode bytes pc = .ok (.lreturn, 1)) (hr : ret = some .long) (hQ : Q (some (.long v)) h) (hk : cells ≤ K) (hn : slots ≤ N) : Go wd l R Z y bytes maxL ret n0 K N Q h cells slots pc Ls (.long v :: st) :=
  Go.leave (v := some (.long v)) (fun r => by rw [hr] at r; cases r) hQ hk hn fun p e s m args below meth c T locs fs O X hl => retOut X O.1 (O.2.2.2.2.2.2.1.trans hr) rfl (Or.inr (Or.inl ⟨rfl, rfl, _, rfl⟩)) (hb O.2.1 hd) hl
theorem Go.retA {v : Value} {t : FieldType} (hd : decode bytes pc = .ok (.areturn, 1)) (hr : ret = some t) (ht : t.isReference = true) (hv : v.isRef = true) (hQ : Q (some v) h) (hk : cells ≤ K) (hn : slots ≤ N) : Go wd l R Z y bytes maxL ret n0 K N Q h cells slots pc Ls (v :: st) :=
  Go.leave (v := some v) (fun r => by rw [hr] at r; cases r) hQ hk hn fun p e s m args below meth c T locs fs O X hl => retOut X O.1 (O.2.2.2.2.2.2.1.trans hr) (by cases t <;> first | rfl | (cases ht; done)) (Or.inr (Or.inr (Or.inr (Or.inr ⟨rfl, ht, hv⟩)))) (hb O.2.1 hd) hl
/-! the heap -/
theorem Go.newO {C : String} {i n : Nat} (w1 : (Cond.classLink y.cls i C).before a0 Z = true) (w2 : (Cond.instantiable C n).before a0 Z = true) (w3 : (Cond.initialized C).before a0 Z = true) (hd : decode bytes pc = .ok (.new i, 3)) (hc : cells + 1 ≤ R.cells) (hs : slots + n ≤ R.slots) (hp : pc + 3 = pc')
    (q : ∀ (h' : Heap) (a : Addr), a = h.size → Ext h h' → Exa Z h' a C → (∀ {O nm d : String} {ty : FieldType}, Laid Z a0 C O nm d → parseFieldDescriptor d = some ty → Fld Z h' a O nm d (defaultValue ty)) → Go wd l R Z y bytes maxL ret n0 K N Q h' (cells + 1) (slots + n) pc' Ls (.ref a :: st)) : Go wd l R Z y bytes maxL ret n0 K N Q h cells slots pc Ls st := by
  subst hp
  intro p e s0 s m args below meth c T locs hR O X eT F
  obtain ⟨T2, h2, X2, e2, E2, A2, D2, -, st2⟩ := RoadKit.newO X O.1 O.2.2.2.2.2.1 O.2.2.2.1 w1 w2 w3 eT (g := mkF m pc Ls st) rfl (hb O.2.1 hd) hc hs
  obtain ⟨s₂, o, h1, r⟩ := q h2 _ rfl E2 A2 D2 p e s0 s m args below meth c T2 locs (hR.mono E2.1) O X2 e2 F
  exact ⟨s₂, o, st2 _ h1, r⟩
theorem Go.initO {i W : Nat} {a : Addr} (w1 : (Cond.methodLink y.cls i Lib.objectInit).before a0 Z = true) (w2 : (Cond.instanceMethod Lib.objectInit).before a0 Z = true) (w3 : (Cond.code Lib.objectInit ⟨#[0xb1]⟩ 1 none).before a0 Z = true) (hd : decode bytes pc = .ok (.invokespecial i, 3)) (hz : Ls.size = maxL)
    (hf : 1 ≤ R.frames) (hW : (st.map fun v => v.category).sum ≤ W) (hl : W + 12 ≤ R.locals) (hp : pc + 3 = pc') (q : Go wd l R Z y bytes maxL ret n0 K N Q h cells slots pc' Ls st) : Go wd l R Z y bytes maxL ret n0 K N Q h cells slots pc Ls (.ref a :: st) := by
  subst hp
  intro p e s0 s m args below meth c T locs hR O X eT F
  obtain ⟨T2, X2, e2, st2⟩ := RoadKit.initO X O.1 O.2.2.2.2.2.1 O.2.2.2.1 w1 w2 w3 eT (g := mkF m pc Ls (.ref a :: st)) rfl (hz.trans O.2.2.1.symm) rfl (hb O.2.1 hd) hf (W := W) (by show 2 * 0 + _ ≤ _; omega) hl
  obtain ⟨s₂, o, h1, r⟩ := q p e s0 s m args below meth c T2 locs hR O X2 e2 F
  exact ⟨s₂, o, st2 _ h1, r⟩
theorem Go.getF {C n d : String} {i : Nat} {a : Addr} {v : Value} (w : (Cond.fieldLink y.cls i C n d).before a0 Z = true) (hF : Fld Z h a C n d v) (hd : decode bytes pc = .ok (.getfield i, 3)) (hp : pc + 3 = pc') (q : Go wd l R Z y bytes maxL ret n0 K N Q h cells slots pc' Ls (v :: st)) : Go wd l R Z y bytes maxL ret n0 K N Q h cells slots pc Ls (.ref a :: st) := by
  subst hp
  intro p e s0 s m args below meth c T locs hR O X eT F
  obtain ⟨T2, X2, e2, st2⟩ := RoadKit.getF X O.1 O.2.2.2.2.2.1 O.2.2.2.1 (host := "") (Or.inl w) Via.refl eT hF (g := mkF m pc Ls (.ref a :: st)) rfl rfl (hb O.2.1 hd)
  obtain ⟨s₂, o, h1, r⟩ := q p e s0 s m args below meth c T2 locs hR O X2 e2 F
  exact ⟨s₂, o, st2 _ h1, r⟩
theorem Go.getS {C n d : String} {i : Nat} {v : Value} (w : (Cond.fieldLink y.cls i C n d).before a0 Z = true) (hF : Sta Z h C n d v) (hd : decode bytes pc = .ok (.getstatic i, 3)) (hp : pc + 3 = pc') (q : Go wd l R Z y bytes maxL ret n0 K N Q h cells slots pc' Ls (v :: st)) : Go wd l R Z y bytes maxL ret n0 K N Q h cells slots pc Ls st := by
  subst hp
  intro p e s0 s m args below meth c T locs hR O X eT F
  obtain ⟨T2, X2, e2, st2⟩ := RoadKit.getS2 X O.1 O.2.2.2.2.2.1 O.2.2.2.1 (host := "") (Or.inl w) Via.refl eT hF (g := mkF m pc Ls st) rfl (hb O.2.1 hd)
  obtain ⟨s₂, o, h1, r⟩ := q p e s0 s m args below meth c T2 locs hR O X2 e2 F
  exact ⟨s₂, o, st2 _ h1, r⟩
theorem Go.putF {C n d : String} {i kk : Nat} {ty : FieldType} {a : Addr} {v old : Value} (w : (Cond.fieldLink y.cls i C n d).before a0 Z = true) (hF : Fld Z h a C n d old) (hE : Exa Z h a C) (hL : (Cond.lays C C n d).before a0 Z = true ∨ ((Cond.laysFinal C C n d).before a0 Z = true ∧ y.cls = C ∧ y.name = "<init>")) (wi : (Cond.instantiable C kk).before a0 Z = true)
    (hty : parseFieldDescriptor d = some ty) (hn : narrow ty v = v) (hf : fits ty v = true) (hd : decode bytes pc = .ok (.putfield i, 3)) (ha : n0 ≤ a) (hp : pc + 3 = pc') (q : ∀ h', Wr h h' a (slotOf Z C n d) v → Go wd l R Z y bytes maxL ret n0 K N Q h' cells slots pc' Ls st) : Go wd l R Z y bytes maxL ret n0 K N Q h cells slots pc Ls (v :: .ref a :: st) := by
  subst hp
  intro p e s0 s m args below meth c T locs hR O X eT F
  obtain ⟨T2, h2, X2, e2, W2, st2⟩ := RoadKit.putF X O.1 O.2.2.2.2.2.1 O.2.2.2.1 (host := "") (Or.inl w) Via.refl eT hF hE (hL.imp_right fun r => ⟨r.1, r.2.1, O.2.2.2.2.1.trans r.2.2⟩) wi hty hn hf (g := mkF m pc Ls (v :: .ref a :: st)) rfl rfl (hb O.2.1 hd)
  obtain ⟨s₂, o, h1, r⟩ := q h2 W2 p e s0 s m args below meth c T2 _ (hR.mono (Nat.le_of_eq W2.size.symm)) O X2 e2 (Fr.snoc X2 F ha)
  exact ⟨s₂, o, st2 _ h1, r⟩
/-! facts carried from heap to heap -/
def Sm (h h' : Heap) (a : Addr) : Prop := ∀ c : Cell, h[a]? = some c → h'[a]? = some c
theorem Sm.ext {h h' : Heap} {a : Addr} (E : Ext h h') : Sm h h' a := fun c q => E.2 a c q
theorem Sm.keep {h h' : Heap} {a : Addr} {ws : List Addr} (E : Keep h h' ws) (q : a ∉ ws) : Sm h h' a := fun c r => E.2.1 a c r q
theorem Sm.wr {h h' : Heap} {a b : Addr} {sl : Nat} {v : Value} (W : Wr h h' b sl v) (q : a ≠ b) : Sm h h' a := Sm.keep (Keep.of_wr W) (by simpa using q)
theorem Sm.trans {h h' h'' : Heap} {a : Addr} (A : Sm h h' a) (B : Sm h' h'' a) : Sm h h'' a := fun c r => B c (A c r)
theorem Fld.sm {h h' : Heap} {a : Addr} {C n d : String} {v : Value} (F : Fld Z h a C n d v) (S : Sm h h' a) : Fld Z h' a C n d v := by
  obtain ⟨cell, cf, k, i, f, h1, r⟩ := F; exact ⟨cell, cf, k, i, f, S _ h1, r⟩
theorem Exa.sm {h h' : Heap} {a : Addr} {C : String} (F : Exa Z h a C) (S : Sm h h' a) : Exa Z h' a C := by
  obtain ⟨cell, k, h1, r⟩ := F; exact ⟨cell, k, S _ h1, r⟩
theorem Arr.sm {h h' : Heap} {a : Addr} {c : Cell} {ty : FieldType} (F : Arr Z h a c ty) (S : Sm h h' a) : Arr Z h' a c ty := ⟨S _ F.1, F.2⟩
/-- the array at a holds just these values -/
def Ary (Z : State) (h : Heap) (a : Addr) (ty : FieldType) (vs : List Value) : Prop := ∃ c : Cell, Arr Z h a c ty ∧ c.slots = vs.toArray
theorem Ary.sm {h h' : Heap} {a : Addr} {ty : FieldType} {vs : List Value} (F : Ary Z h a ty vs) (S : Sm h h' a) : Ary Z h' a ty vs := by
  obtain ⟨c, A, r⟩ := F; exact ⟨c, A.sm S, r⟩
theorem Ary.lt {h : Heap} {a : Addr} {ty : FieldType} {vs : List Value} (F : Ary Z h a ty vs) : a < h.size := by
  obtain ⟨c, A, r⟩ := F; exact A.lt
theorem Ary.eq {h : Heap} {a : Addr} {ty : FieldType} {vs vs' : List Value} (F : Ary Z h a ty vs) (q : vs = vs') : Ary Z h a ty vs' := q ▸ F
theorem Ary.set {h h' : Heap} {a : Addr} {ty : FieldType} {vs : List Value} {k : Nat} {v : Value} (F : Ary Z h a ty vs) (W : Wr h h' a k v) : Ary Z h' a ty (vs.set k v) := by
  obtain ⟨c, A, r⟩ := F
  refine ⟨_, A.same W, ?_⟩
  show c.slots.setIfInBounds k v = _
  rw [r]; simp
theorem clamp_of {j : Int32} {k : Nat} (hj : j.toInt = (k : Int)) : j.toNatClampNeg = k := by
  show j.toInt.toNat = k; omega
theorem inb {j : Int32} {k : Nat} {c : Cell} {vs : List Value} (hj : j.toInt = (k : Int)) (hc : c.slots = vs.toArray) (hk : k < vs.length) : ¬ (j < 0 ∨ c.slots.size ≤ j.toNatClampNeg) := by
  have z : (0 : Int32).toInt = 0 := rfl
  rw [clamp_of hj, hc, Int32.lt_iff_toInt_lt, z]; simp; omega
theorem lt_of_get {vs : List Value} {k : Nat} {v : Value} (h : vs[k]? = some v) : k < vs.length := (List.getElem?_eq_some_iff.mp h).1
theorem Go.newA {aty : ArrayType} {n : Int32} {k : Nat} {ty : FieldType} (w : (Cond.arrayClass ty).before a0 Z = true) (hty : newarray.typeOf aty = ty) (hn : n.toInt = (k : Int)) {cap : Nat} (hcap : k ≤ cap) (hb8 : cap * 8 ≤ 536870912) (hd : decode bytes pc = .ok (.newarray aty, 2)) (hc : cells + 1 ≤ R.cells) (hs : slots + cap ≤ R.slots) (hp : pc + 2 = pc')
    (q : ∀ (h' : Heap) (a : Addr), a = h.size → Ext h h' → Ary Z h' a ty (List.replicate k (defaultValue ty)) → Go wd l R Z y bytes maxL ret n0 K N Q h' (cells + 1) (slots + cap) pc' Ls (.ref a :: st)) : Go wd l R Z y bytes maxL ret n0 K N Q h cells slots pc Ls (.int n :: st) := by
  subst hp hty
  intro p e s0 s m args below meth c T locs hR O X eT F
  have z : (0 : Int32).toInt = 0 := rfl
  have hn0 : ¬ n < 0 := by rw [Int32.lt_iff_toInt_lt, z]; omega
  obtain ⟨T2, h2, cA, X2, e2, E2, A2, st2⟩ := RoadKit.newP X O.1 O.2.2.2.2.2.1 w eT (g := mkF m pc Ls (.int n :: st)) rfl (hb O.2.1 hd) rfl hn0 (cap := cap) (by rw [clamp_of hn]; exact hcap) hb8 hc hs
  obtain ⟨s₂, o, h1, r⟩ := q h2 _ rfl E2 ⟨_, A2, by simp [newA, clamp_of hn]⟩ p e s0 s m args below meth c T2 locs (hR.mono E2.1) O X2 e2 F
  exact ⟨s₂, o, st2 _ h1, r⟩
theorem Go.alen {a : Addr} {ty : FieldType} {vs : List Value} {z : Int32} (hA : Ary Z h a ty vs) (hz : z.toInt = (vs.length : Int)) (hd : decode bytes pc = .ok (.arraylength, 1)) (hp : pc + 1 = pc') (q : Go wd l R Z y bytes maxL ret n0 K N Q h cells slots pc' Ls (.int z :: st)) : Go wd l R Z y bytes maxL ret n0 K N Q h cells slots pc Ls (.ref a :: st) := by
  subst hp
  obtain ⟨cl, A, r⟩ := hA
  have e1 : cl.slots.size.toInt32 = z := by
    have := z.toInt_lt
    rw [r]; apply Int32.toInt_inj.mp
    rw [hz]
    have q1 : vs.toArray.size = vs.length := by simp
    rw [q1]; exact len_toInt (by omega)
  exact Go.of q fun p e s m args below meth c T locs O X eT t hr => X.arraylength O.1 (cell := cl) (by rw [eT]; exact A.1) (State.isArrayOf_alike O.2.2.2.2.2.1.alike A.2.1) (g := mkF m pc Ls (.ref a :: st)) rfl (rest := st) rfl (hb O.2.1 hd) _ (by rw [e1]; exact hr)
theorem Go.ldI {a : Addr} {vs : List Value} {j : Int32} {k : Nat} {v : Value} (hA : Ary Z h a .int vs) (hj : j.toInt = (k : Int)) (hv : vs[k]? = some v) (hd : decode bytes pc = .ok (.iaload, 1)) (hp : pc + 1 = pc') (q : Go wd l R Z y bytes maxL ret n0 K N Q h cells slots pc' Ls (v :: st)) : Go wd l R Z y bytes maxL ret n0 K N Q h cells slots pc Ls (.int j :: .ref a :: st) := by
  subst hp
  obtain ⟨cl, A, r⟩ := hA
  exact Go.of q fun p e s m args below meth c T locs O X eT t hr => X.iaload O.1 (j := j) (v := v) (by rw [eT]; exact A.1) (State.isArrayOf_alike O.2.2.2.2.2.1.alike A.2.1) A.2.2 (inb hj r (lt_of_get hv)) (by rw [clamp_of hj, r]; simpa using hv) (g := mkF m pc Ls (.int j :: .ref a :: st)) rfl rfl (hb O.2.1 hd) _ hr
theorem Go.ldJ {a : Addr} {vs : List Value} {j : Int32} {k : Nat} {v : Value} (hA : Ary Z h a .long vs) (hj : j.toInt = (k : Int)) (hv : vs[k]? = some v) (hd : decode bytes pc = .ok (.laload, 1)) (hp : pc + 1 = pc') (q : Go wd l R Z y bytes maxL ret n0 K N Q h cells slots pc' Ls (v :: st)) : Go wd l R Z y bytes maxL ret n0 K N Q h cells slots pc Ls (.int j :: .ref a :: st) := by
  subst hp
  obtain ⟨cl, A, r⟩ := hA
  exact Go.of q fun p e s m args below meth c T locs O X eT t hr => X.laload O.1 (j := j) (v := v) (by rw [eT]; exact A.1) (State.isArrayOf_alike O.2.2.2.2.2.1.alike A.2.1) A.2.2 (inb hj r (lt_of_get hv)) (by rw [clamp_of hj, r]; simpa using hv) (g := mkF m pc Ls (.int j :: .ref a :: st)) rfl rfl (hb O.2.1 hd) _ hr
theorem Go.ldC {a : Addr} {vs : List Value} {j : Int32} {k : Nat} {v : Value} (hA : Ary Z h a .char vs) (hj : j.toInt = (k : Int)) (hv : vs[k]? = some v) (hd : decode bytes pc = .ok (.caload, 1)) (hp : pc + 1 = pc') (q : Go wd l R Z y bytes maxL ret n0 K N Q h cells slots pc' Ls (v :: st)) : Go wd l R Z y bytes maxL ret n0 K N Q h cells slots pc Ls (.int j :: .ref a :: st) := by
  subst hp
  obtain ⟨cl, A, r⟩ := hA
  exact Go.of q fun p e s m args below meth c T locs O X eT t hr => X.caload O.1 (j := j) (v := v) (by rw [eT]; exact A.1) (State.isArrayOf_alike O.2.2.2.2.2.1.alike A.2.1) A.2.2 (inb hj r (lt_of_get hv)) (by rw [clamp_of hj, r]; simpa using hv) (g := mkF m pc Ls (.int j :: .ref a :: st)) rfl rfl (hb O.2.1 hd) _ hr
theorem Go.ldA {a : Addr} {ty : FieldType} {vs : List Value} {j : Int32} {k : Nat} {v : Value} (hA : Ary Z h a ty vs) (hty : ty.isReference = true) (hj : j.toInt = (k : Int)) (hv : vs[k]? = some v) (hd : decode bytes pc = .ok (.aaload, 1)) (hp : pc + 1 = pc') (q : Go wd l R Z y bytes maxL ret n0 K N Q h cells slots pc' Ls (v :: st)) : Go wd l R Z y bytes maxL ret n0 K N Q h cells slots pc Ls (.int j :: .ref a :: st) := by
  subst hp
  obtain ⟨cl, A, r⟩ := hA
  exact Go.of q fun p e s m args below meth c T locs O X eT t hr => X.aaload O.1 (j := j) (v := v) (by rw [eT]; exact A.1) (State.isArrayOf_alike O.2.2.2.2.2.1.alike A.2.1) hty A.2.2 (inb hj r (lt_of_get hv)) (by rw [clamp_of hj, r]; simpa using hv) (g := mkF m pc Ls (.int j :: .ref a :: st)) rfl rfl (hb O.2.1 hd) _ hr
theorem Go.stI {a : Addr} {vs : List Value} {j v : Int32} {k : Nat} (hA : Ary Z h a .int vs) (hj : j.toInt = (k : Int)) (hk : k < vs.length) (hd : decode bytes pc = .ok (.iastore, 1)) (ha : n0 ≤ a) (hp : pc + 1 = pc')
    (q : ∀ h', Wr h h' a k (.int v) → Ary Z h' a .int (vs.set k (.int v)) → Go wd l R Z y bytes maxL ret n0 K N Q h' cells slots pc' Ls st) : Go wd l R Z y bytes maxL ret n0 K N Q h cells slots pc Ls (.int v :: .int j :: .ref a :: st) := by
  subst hp
  have hA' := hA
  obtain ⟨cl, A, r⟩ := hA
  intro p e s0 s m args below meth c T locs hR O X eT F
  obtain ⟨T2, h2, X2, e2, W2, st2⟩ := RoadKit.stI X O.1 O.2.2.2.2.2.1 eT A (j := j) (x := v) (inb hj r hk) (g := mkF m pc Ls (.int v :: .int j :: .ref a :: st)) rfl rfl (hb O.2.1 hd)
  rw [clamp_of hj] at X2 W2
  obtain ⟨s₂, o, h1, r⟩ := q h2 W2 (hA'.set W2) p e s0 s m args below meth c T2 _ (hR.mono (Nat.le_of_eq W2.size.symm)) O X2 e2 (Fr.snoc X2 F ha)
  exact ⟨s₂, o, st2 _ h1, r⟩
theorem Go.stJ {a : Addr} {vs : List Value} {j : Int32} {v : Int64} {k : Nat} (hA : Ary Z h a .long vs) (hj : j.toInt = (k : Int)) (hk : k < vs.length) (hd : decode bytes pc = .ok (.lastore, 1)) (ha : n0 ≤ a) (hp : pc + 1 = pc')
    (q : ∀ h', Wr h h' a k (.long v) → Ary Z h' a .long (vs.set k (.long v)) → Go wd l R Z y bytes maxL ret n0 K N Q h' cells slots pc' Ls st) : Go wd l R Z y bytes maxL ret n0 K N Q h cells slots pc Ls (.long v :: .int j :: .ref a :: st) := by
  subst hp
  have hA' := hA
  obtain ⟨cl, A, r⟩ := hA
  intro p e s0 s m args below meth c T locs hR O X eT F
  obtain ⟨T2, h2, X2, e2, W2, st2⟩ := RoadKit.stJ X O.1 O.2.2.2.2.2.1 eT A (j := j) (x := v) (inb hj r hk) (g := mkF m pc Ls (.long v :: .int j :: .ref a :: st)) rfl rfl (hb O.2.1 hd)
  rw [clamp_of hj] at X2 W2
  obtain ⟨s₂, o, h1, r⟩ := q h2 W2 (hA'.set W2) p e s0 s m args below meth c T2 _ (hR.mono (Nat.le_of_eq W2.size.symm)) O X2 e2 (Fr.snoc X2 F ha)
  exact ⟨s₂, o, st2 _ h1, r⟩
theorem Go.stC {a : Addr} {vs : List Value} {j v : Int32} {k : Nat} (hA : Ary Z h a .char vs) (hj : j.toInt = (k : Int)) (hk : k < vs.length) (hd : decode bytes pc = .ok (.castore, 1)) (ha : n0 ≤ a) (hp : pc + 1 = pc')
    (q : ∀ h', Wr h h' a k (.int (nar .char v)) → Ary Z h' a .char (vs.set k (.int (nar .char v))) → Go wd l R Z y bytes maxL ret n0 K N Q h' cells slots pc' Ls st) : Go wd l R Z y bytes maxL ret n0 K N Q h cells slots pc Ls (.int v :: .int j :: .ref a :: st) := by
  subst hp
  have hA' := hA
  obtain ⟨cl, A, r⟩ := hA
  intro p e s0 s m args below meth c T locs hR O X eT F
  obtain ⟨T2, h2, X2, e2, W2, st2⟩ := RoadKit.stC X O.1 O.2.2.2.2.2.1 eT A (j := j) (x := v) (inb hj r hk) (g := mkF m pc Ls (.int v :: .int j :: .ref a :: st)) rfl rfl (hb O.2.1 hd)
  rw [clamp_of hj] at X2 W2
  obtain ⟨s₂, o, h1, r⟩ := q h2 W2 (hA'.set W2) p e s0 s m args below meth c T2 _ (hR.mono (Nat.le_of_eq W2.size.symm)) O X2 e2 (Fr.snoc X2 F ha)
  exact ⟨s₂, o, st2 _ h1, r⟩
/-! a method by its contract -/
def Mt (wd : Bool) (l : Launch) (Z : State) (y : MethodName) (bytes : ByteArray) (maxL : Nat) (ret : Option FieldType) (rm : Room) (n0 : Nat) (Q : Option Value → Heap → Prop) (h : Heap) (as' : Array Value) : Prop :=
  MetFree l y (head1 [Cond.code y bytes maxL ret] rm) (fun a U => a = as' ∧ Z.Warmed39 U.vm ∧ U.heap = h) (fun _ _ _ _ _ => True) (fun _ U o U' => ∃ v L, o = .returned v ∧ ((Q v U'.heap ∧ h.size ≤ U'.heap.size) ∧ Fr n0 L) ∧ GoEnd wd U o U' L rm.cells rm.slots)
theorem met_go {rm : Room} {ws : List Jvm.Cond} {as' : Array Value} (hp : plainName y.cls = true) (hef : ∀ m, entryFrame m as' maxL = mkF m 0 Ls []) (g : Go wd l rm Z y bytes maxL ret n0 K N Q h 0 0 0 Ls []) :
    MetFree l y (head1 (Jvm.Cond.code y bytes maxL ret :: ws) rm) (fun a U => a = as' ∧ Z.Warmed39 U.vm ∧ U.heap = h) (fun _ _ _ _ _ => True) (fun _ U o U' => ∃ v L, o = .returned v ∧ ((Q v U'.heap ∧ h.size ≤ U'.heap.size) ∧ Fr n0 L) ∧ GoEnd wd U o U' L K N) := by
  refine MetFree.of_bodySF (plainFor_of_name hp) hisR ?_
  intro p e s m args below meth c s₁ Bd hml0 hP hK
  obtain ⟨rfl, hZ, hh⟩ := hP
  have O : Own Z y bytes maxL ret p s m meth c := ⟨Bd.exec, Bd.bytes, hml0, findClass_of_methodNamed Bd.named, (name_of_methodNamed Bd.named Bd.method).1, hZ, Bd.returns, Bd.notSynchronized⟩
  have X0 : Stand p l e rm s m args below meth c s₁ [] 0 0 := Stand.of_body Bd
  have e0 : s₁.heap = h := by rw [← hh, Bd.state]; rfl
  obtain ⟨s₂, o, h1, h2, h3, v, L, h4, h5, h6⟩ := g p e s s m args below meth c s₁ [] (GoRel.refl _ _ _) O X0 e0 (Fr.nil n0)
  exact ⟨s₂, o, castTop (hef m) h1, h2, h3, v, L, h4, ⟨⟨h5.1, hh ▸ h6.grow⟩, h5.2⟩, h6⟩
theorem Mt.go {rm : Room} {as' : Array Value} (hp : plainName y.cls = true) (hef : ∀ m, entryFrame m as' maxL = mkF m 0 Ls []) (g : Go wd l rm Z y bytes maxL ret n0 rm.cells rm.slots Q h 0 0 0 Ls []) : Mt wd l Z y bytes maxL ret rm n0 Q h as' := met_go (ws := []) hp hef g
variable {y2 : MethodName} {bytes2 : ByteArray} {maxL2 : Nat} {ret2 : Option FieldType} {rm : Room} {i W : Nat} {as' : Array Value} {argsL rest : List Value} {Q2 : Option Value → Heap → Prop} {ps : List FieldType} {r2 : Option FieldType}
theorem Go.callS (w1 : (Cond.methodLink y.cls i y2).before a0 Z = true) (w2 : (Cond.static y2).before a0 Z = true) (w3 : (Cond.initialized y2.cls).before a0 Z = true) (w4 : (Cond.code y2 bytes2 maxL2 ret2).before a0 Z = true) (hy : y2.cls ≠ "java/lang/invoke/MethodHandle" ∧ y2.cls ≠ "java/lang/invoke/VarHandle")
    (hM : Mt false l Z y2 bytes2 maxL2 ret2 rm n0 Q2 h argsL.toArray) (hd : decode bytes pc = .ok (.invokestatic i, 3)) (hz : Ls.size = maxL) (hpd : parseMethodDescriptor y2.desc = some ⟨ps, r2⟩) (hlen : argsL.length = ps.length) (hst : st = argsL.reverse ++ rest)
    (hW : (rest.map fun v => v.category).sum ≤ W) (hf : rm.frames + 1 ≤ R.frames) (hl : W + (maxL2 + 11) + rm.locals ≤ R.locals) (hc : cells + rm.cells ≤ R.cells) (hs : slots + rm.slots ≤ R.slots) (hp : pc + 3 = pc')
    (q : ∀ v h', Q2 v h' → Go wd l R Z y bytes maxL ret n0 K N Q h' (cells + rm.cells) (slots + rm.slots) pc' Ls (v.toList ++ rest)) : Go wd l R Z y bytes maxL ret n0 K N Q h cells slots pc Ls st := by
  subst hp hst
  intro p e s0 s m args below meth c T locs hR O X eT F
  obtain ⟨v, vm₁, ⟨T2, L2, k2, n2⟩, -, X2, ⟨Lc, hQ, l2, y2, z2⟩, st2⟩ := Jvm.LawKit.callS X O.1 (y := y2) O.2.2.2.1 (mvT O.2.2.2.2.2.1 w1) (mvT O.2.2.2.2.2.1 w2) (mvT O.2.2.2.2.2.1 w3) (mvT O.2.2.2.2.2.1 w4) hy
    (backOf (W := W) (Q := fun v h' L => (Q2 v h' ∧ h.size ≤ h'.size) ∧ Fr n0 L) hM O.2.2.2.2.2.1 w4 w3 hf hl) (g := mkF m pc Ls (argsL.reverse ++ rest)) rfl (hz.trans O.2.2.1.symm) (argsL := argsL) (rest := rest) (lenOf hpd hlen) rfl (by show 2 * 0 + _ ≤ _; omega) (hb O.2.1 hd) (fun _ _ => ⟨rfl, eT, hc, hs⟩)
  dsimp only [Pt.U, Pt.locs, Pt.cells, Pt.slots] at X2 l2 y2 z2 st2 hQ
  subst l2 y2 z2
  obtain ⟨s₂, o, h1, r⟩ := q v T2.heap hQ.1.1 p e s0 s m args below meth c T2 _ (hR.mono hQ.1.2) O X2 rfl (Fr.app F hQ.2)
  exact ⟨s₂, o, st2 _ h1, r⟩
theorem Go.callN {a : Addr} (hy1 : y2.name = "<init>") (w1 : (Cond.methodLink y.cls i y2).before a0 Z = true) (w2 : (Cond.instanceMethod y2).before a0 Z = true) (w3 : (Cond.initialized y2.cls).before a0 Z = true) (w4 : (Cond.code y2 bytes2 maxL2 none).before a0 Z = true) (hy : y2.cls ≠ "java/lang/invoke/MethodHandle" ∧ y2.cls ≠ "java/lang/invoke/VarHandle")
    (hM : Mt false l Z y2 bytes2 maxL2 none rm n0 Q2 h (.ref a :: argsL).toArray) (hd : decode bytes pc = .ok (.invokespecial i, 3)) (hz : Ls.size = maxL) (hpd : parseMethodDescriptor y2.desc = some ⟨ps, r2⟩) (hlen : argsL.length = ps.length) (hst : st = argsL.reverse ++ .ref a :: rest)
    (hW : (rest.map fun v => v.category).sum ≤ W) (hf : rm.frames + 1 ≤ R.frames) (hl : W + (maxL2 + 11) + rm.locals ≤ R.locals) (hc : cells + rm.cells ≤ R.cells) (hs : slots + rm.slots ≤ R.slots) (hp : pc + 3 = pc')
    (q : ∀ v h', Q2 v h' → Go wd l R Z y bytes maxL ret n0 K N Q h' (cells + rm.cells) (slots + rm.slots) pc' Ls (v.toList ++ rest)) : Go wd l R Z y bytes maxL ret n0 K N Q h cells slots pc Ls st := by
  subst hp hst
  intro p e s0 s m args below meth c T locs hR O X eT F
  obtain ⟨v, vm₁, ⟨T2, L2, k2, n2⟩, -, X2, ⟨Lc, hQ, l2, y2, z2⟩, st2⟩ := X.specialBack O.1 (y := y2) hy1 O.2.2.2.1 (mvT O.2.2.2.2.2.1 w1) (mvT O.2.2.2.2.2.1 w2) (mvT O.2.2.2.2.2.1 w4) hy
    (backOf (W := W) (Q := fun v h' L => (Q2 v h' ∧ h.size ≤ h'.size) ∧ Fr n0 L) hM O.2.2.2.2.2.1 w4 w3 hf hl) (g := mkF m pc Ls (argsL.reverse ++ .ref a :: rest)) rfl (hz.trans O.2.2.1.symm) (Steps.refl _) (a := a) (argsL := argsL) (rest := rest) (lenOf hpd hlen) rfl (by show 2 * 0 + _ ≤ _; omega) (hb O.2.1 hd) (fun _ _ => ⟨rfl, eT, hc, hs⟩)
  dsimp only [Pt.U, Pt.locs, Pt.cells, Pt.slots] at X2 l2 y2 z2 st2 hQ
  subst l2 y2 z2
  obtain ⟨s₂, o, h1, r⟩ := q v T2.heap hQ.1.1 p e s0 s m args below meth c T2 _ (hR.mono hQ.1.2) O X2 rfl (Fr.app F hQ.2)
  exact ⟨s₂, o, st2.trans h1, r⟩
theorem Go.callV {a : Addr} {C : String} (w1 : (Cond.methodLink y.cls i y2).before a0 Z = true) (w2 : (Cond.declares y2).before a0 Z = true) (w5 : (Cond.selects C y2 y2).before a0 Z = true) (w6 : (Cond.instanceMethod y2).before a0 Z = true) (w3 : (Cond.initialized y2.cls).before a0 Z = true) (w4 : (Cond.code y2 bytes2 maxL2 ret2).before a0 Z = true)
    (hy : y2.cls ≠ "java/lang/invoke/MethodHandle" ∧ y2.cls ≠ "java/lang/invoke/VarHandle") (hE : Exa Z h a C)
    (hM : Mt false l Z y2 bytes2 maxL2 ret2 rm n0 Q2 h (.ref a :: argsL).toArray) (hd : decode bytes pc = .ok (.invokevirtual i, 3)) (hz : Ls.size = maxL) (hpd : parseMethodDescriptor y2.desc = some ⟨ps, r2⟩) (hlen : argsL.length = ps.length) (hst : st = argsL.reverse ++ .ref a :: rest)
    (hW : (rest.map fun v => v.category).sum ≤ W) (hf : rm.frames + 1 ≤ R.frames) (hl : W + (maxL2 + 11) + rm.locals ≤ R.locals) (hc : cells + rm.cells ≤ R.cells) (hs : slots + rm.slots ≤ R.slots) (hp : pc + 3 = pc')
    (q : ∀ v h', Q2 v h' → Go wd l R Z y bytes maxL ret n0 K N Q h' (cells + rm.cells) (slots + rm.slots) pc' Ls (v.toList ++ rest)) : Go wd l R Z y bytes maxL ret n0 K N Q h cells slots pc Ls st := by
  subst hp hst
  intro p e s0 s m args below meth c T locs hR O X eT F
  obtain ⟨cq, kq, qa, qb, qc⟩ := isOf (T := T) O.2.2.2.2.2.1 eT hE
  obtain ⟨v, vm₁, ⟨T2, L2, k2, n2⟩, -, X2, ⟨Lc, hQ, l2, y2, z2⟩, st2⟩ := X.virtualBack O.1 (y := y2) (z := y2) O.2.2.2.1 (mvT O.2.2.2.2.2.1 w1) (mvT O.2.2.2.2.2.1 w2) (notFace_of_selects (args := #[]) (mvT O.2.2.2.2.2.1 w5)) (mvT O.2.2.2.2.2.1 w5) (mvT O.2.2.2.2.2.1 w6) hy
    (backOf (W := W) (Q := fun v h' L => (Q2 v h' ∧ h.size ≤ h'.size) ∧ Fr n0 L) hM O.2.2.2.2.2.1 w4 w3 hf hl) qa qc (g := mkF m pc Ls (argsL.reverse ++ .ref a :: rest)) rfl (hz.trans O.2.2.1.symm) (Steps.refl _) (argsL := argsL) (rest := rest) (lenOf hpd hlen) rfl (by show 2 * 0 + _ ≤ _; omega) (hb O.2.1 hd) (fun _ _ => ⟨rfl, eT, hc, hs⟩)
  dsimp only [Pt.U, Pt.locs, Pt.cells, Pt.slots] at X2 l2 y2 z2 st2 hQ
  subst l2 y2 z2
  obtain ⟨s₂, o, h1, r⟩ := q v T2.heap hQ.1.1 p e s0 s m args below meth c T2 _ (hR.mono hQ.1.2) O X2 rfl (Fr.app F hQ.2)
  exact ⟨s₂, o, st2.trans h1, r⟩
end GoLaws
end Jvm.RoadKit
namespace Jvm.RoadKit
open Sem ClassFile Op Lib Jvm.Stand Jvm.Free Jvm.LawKit
section GoClone
variable {wd : Bool} {l : Launch} {R : Room} {Z : State} {y : MethodName} {bytes : ByteArray} {maxL : Nat} {ret : Option FieldType} {n0 K N : Nat} {Q : Option Value → Heap → Prop} {h : Heap} {cells slots pc pc' : Nat} {Ls Ls' : Array Slot} {st st' : List Value} {a0 : Array Value}
theorem Go.clone {ad : String} {i W cap : Nat} {a : Addr} {ty : FieldType} {vs : List Value}
    (w1 : (Cond.methodLink y.cls i ⟨ad, "clone", "()Ljava/lang/Object;"⟩).before a0 Z = true) (w2 : (Cond.sameMethod ad "java/lang/Object" "clone" "()Ljava/lang/Object;").before a0 Z = true) (w3 : (Cond.native ⟨"java/lang/Object", "clone", "()Ljava/lang/Object;"⟩).before a0 Z = true)
    (w4 : (Cond.instanceMethod ⟨"java/lang/Object", "clone", "()Ljava/lang/Object;"⟩).before a0 Z = true) (w5 : (Cond.selects ad ⟨ad, "clone", "()Ljava/lang/Object;"⟩ ⟨"java/lang/Object", "clone", "()Ljava/lang/Object;"⟩).before a0 Z = true) (w6 : (Cond.castable ad "java/lang/Cloneable").before a0 Z = true)
    (hA : Ary Z h a ty vs) (hE : Exa Z h a ad) (hF : ∀ v ∈ vs, fits ty v = true) (hd : decode bytes pc = .ok (.invokevirtual i, 3)) (hz : Ls.size = maxL) (hf : 1 ≤ R.frames) (hW : (st.map fun v => v.category).sum ≤ W) (hl : W + 14 ≤ R.locals) (hcap : vs.length ≤ cap) (hc : cells + 1 ≤ R.cells) (hs : slots + cap ≤ R.slots) (hp : pc + 3 = pc')
    (q : ∀ (h' : Heap) (b : Addr), b = h.size → Ext h h' → Ary Z h' b ty vs → Exa Z h' b ad → Go wd l R Z y bytes maxL ret n0 K N Q h' (cells + 1) (slots + cap) pc' Ls (.ref b :: st)) : Go wd l R Z y bytes maxL ret n0 K N Q h cells slots pc Ls (.ref a :: st) := by
  subst hp
  obtain ⟨cl, A, r0⟩ := hA
  have FC : FitC Z cl := fitC_of A fun j hj v hv => by
    rw [r0] at hv
    exact hF v (List.mem_of_getElem? (by simpa using hv))
  intro p e s0 s m args below meth c T locs hR O X eT F
  obtain ⟨T2, h2, X2, e2, E2, A2, B2, st2⟩ := RoadKit.cloneA X O.1 O.2.2.2.2.2.1 O.2.2.2.1 w1 w2 w3 w4 w5 w6 eT A hE FC (g := mkF m pc Ls (.ref a :: st)) rfl (hz.trans O.2.2.1.symm) rfl (hb O.2.1 hd) hf (W := W) (cap := cap) (by show 2 * 0 + _ ≤ _; omega) hl (by rw [r0]; simpa using hcap) hc hs
  obtain ⟨s₂, o, h1, r⟩ := q h2 _ rfl E2 ⟨_, A2, r0⟩ B2 p e s0 s m args below meth c T2 locs (hR.mono E2.1) O X2 e2 F
  exact ⟨s₂, o, st2 _ h1, r⟩
theorem Go.castTo {C : String} {i : Nat} {a : Addr} (w : (Cond.classLink y.cls i C).before a0 Z = true) (hI : Ins Z h a C true) (hd : decode bytes pc = .ok (.checkcast i, 3)) (hp : pc + 3 = pc') (q : Go wd l R Z y bytes maxL ret n0 K N Q h cells slots pc' Ls (.ref a :: st)) : Go wd l R Z y bytes maxL ret n0 K N Q h cells slots pc Ls (.ref a :: st) := by
  subst hp
  intro p e s0 s m args below meth c T locs hR O X eT F
  obtain ⟨T2, X2, e2, st2⟩ := RoadKit.castY X O.1 O.2.2.2.2.2.1 O.2.2.2.1 w eT hI (g := mkF m pc Ls (.ref a :: st)) rfl rfl (hb O.2.1 hd)
  obtain ⟨s₂, o, h1, r⟩ := q p e s0 s m args below meth c T2 locs hR O X2 e2 F
  exact ⟨s₂, o, st2 _ h1, r⟩
end GoClone
end Jvm.RoadKit
namespace Jvm.Pilot.@@N@@
open Jvm Jvm.ClassFile Sem Op Lib Jvm.Free Jvm.Stand Jvm.LawKit Jvm.RoadKit Bundle Jvm.Pilot.@@N@@.Jvm.D
theorem d1_0 : decode method_2_code 0 = .ok (.iload_n 0, 1) := by decide +kernel
theorem d1_1 : decode method_2_code 1 = .ok (.ifCond .ne 6, 3) := by decide +kernel
theorem d1_4 : decode method_2_code 4 = .ok (.bipush 89, 2) := by decide +kernel
theorem d1_6 : decode method_2_code 6 = .ok (.ireturn, 1) := by decide +kernel
theorem d1_7 : decode method_2_code 7 = .ok (.iload_n 0, 1) := by decide +kernel
theorem d1_8 : decode method_2_code 8 = .ok (.iconst 1, 1) := by decide +kernel
theorem d1_9 : decode method_2_code 9 = .ok (.if_icmp .ne 6, 3) := by decide +kernel
theorem d1_12 : decode method_2_code 12 = .ok (.bipush 82, 2) := by decide +kernel
theorem d1_14 : decode method_2_code 14 = .ok (.ireturn, 1) := by decide +kernel
theorem d1_15 : decode method_2_code 15 = .ok (.iload_n 0, 1) := by decide +kernel
theorem d1_16 : decode method_2_code 16 = .ok (.iconst 2, 1) := by decide +kernel
theorem d1_17 : decode method_2_code 17 = .ok (.if_icmp .ne 6, 3) := by decide +kernel
theorem d1_20 : decode method_2_code 20 = .ok (.bipush 66, 2) := by decide +kernel
theorem d1_22 : decode method_2_code 22 = .ok (.ireturn, 1) := by decide +kernel
theorem d1_23 : decode method_2_code 23 = .ok (.iload_n 0, 1) := by decide +kernel
theorem d1_24 : decode method_2_code 24 = .ok (.iconst 3, 1) := by decide +kernel
theorem d1_25 : decode method_2_code 25 = .ok (.if_icmp .ne 6, 3) := by decide +kernel
theorem d1_28 : decode method_2_code 28 = .ok (.bipush 71, 2) := by decide +kernel
theorem d1_30 : decode method_2_code 30 = .ok (.ireturn, 1) := by decide +kernel
theorem d1_31 : decode method_2_code 31 = .ok (.bipush 80, 2) := by decide +kernel
theorem d1_33 : decode method_2_code 33 = .ok (.ireturn, 1) := by decide +kernel
theorem d2_0 : decode method_3_code 0 = .ok (.iload_n 0, 1) := by decide +kernel
theorem d2_1 : decode method_3_code 1 = .ok (.ifCond .ne 7, 3) := by decide +kernel
theorem d2_4 : decode method_3_code 4 = .ok (.getstatic 7, 3) := by decide +kernel
theorem d2_7 : decode method_3_code 7 = .ok (.areturn, 1) := by decide +kernel
theorem d2_8 : decode method_3_code 8 = .ok (.iload_n 0, 1) := by decide +kernel
theorem d2_9 : decode method_3_code 9 = .ok (.iconst 1, 1) := by decide +kernel
theorem d2_10 : decode method_3_code 10 = .ok (.if_icmp .ne 7, 3) := by decide +kernel
theorem d2_13 : decode method_3_code 13 = .ok (.getstatic 13, 3) := by decide +kernel
theorem d2_16 : decode method_3_code 16 = .ok (.areturn, 1) := by decide +kernel
theorem d2_17 : decode method_3_code 17 = .ok (.iload_n 0, 1) := by decide +kernel
theorem d2_18 : decode method_3_code 18 = .ok (.iconst 2, 1) := by decide +kernel
theorem d2_19 : decode method_3_code 19 = .ok (.if_icmp .ne 7, 3) := by decide +kernel
theorem d2_22 : decode method_3_code 22 = .ok (.getstatic 16, 3) := by decide +kernel
theorem d2_25 : decode method_3_code 25 = .ok (.areturn, 1) := by decide +kernel
theorem d2_26 : decode method_3_code 26 = .ok (.iload_n 0, 1) := by decide +kernel
theorem d2_27 : decode method_3_code 27 = .ok (.iconst 3, 1) := by decide +kernel
theorem d2_28 : decode method_3_code 28 = .ok (.if_icmp .ne 7, 3) := by decide +kernel
theorem d2_31 : decode method_3_code 31 = .ok (.getstatic 19, 3) := by decide +kernel
theorem d2_34 : decode method_3_code 34 = .ok (.areturn, 1) := by decide +kernel
theorem d2_35 : decode method_3_code 35 = .ok (.getstatic 22, 3) := by decide +kernel
theorem d2_38 : decode method_3_code 38 = .ok (.areturn, 1) := by decide +kernel
theorem d3_0 : decode prog_14_method_5_code 0 = .ok (.invokestatic 42, 3) := by decide +kernel
theorem d3_3 : decode prog_14_method_5_code 3 = .ok (.astore_n 1, 1) := by decide +kernel
theorem d3_4 : decode prog_14_method_5_code 4 = .ok (.aload_n 1, 1) := by decide +kernel
theorem d3_5 : decode prog_14_method_5_code 5 = .ok (.arraylength, 1) := by decide +kernel
theorem d3_6 : decode prog_14_method_5_code 6 = .ok (.istore_n 2, 1) := by decide +kernel
theorem d3_7 : decode prog_14_method_5_code 7 = .ok (.iconst 0, 1) := by decide +kernel
theorem d3_8 : decode prog_14_method_5_code 8 = .ok (.istore_n 3, 1) := by decide +kernel
theorem d3_9 : decode prog_14_method_5_code 9 = .ok (.iload_n 3, 1) := by decide +kernel
theorem d3_10 : decode prog_14_method_5_code 10 = .ok (.iload_n 2, 1) := by decide +kernel
theorem d3_11 : decode prog_14_method_5_code 11 = .ok (.if_icmp .ge 26, 3) := by decide +kernel
theorem d3_14 : decode prog_14_method_5_code 14 = .ok (.aload_n 1, 1) := by decide +kernel
theorem d3_15 : decode prog_14_method_5_code 15 = .ok (.iload_n 3, 1) := by decide +kernel
theorem d3_16 : decode prog_14_method_5_code 16 = .ok (.aaload, 1) := by decide +kernel
theorem d3_17 : decode prog_14_method_5_code 17 = .ok (.astore 4, 2) := by decide +kernel
theorem d3_19 : decode prog_14_method_5_code 19 = .ok (.aload 4, 2) := by decide +kernel
theorem d3_21 : decode prog_14_method_5_code 21 = .ok (.getfield 38, 3) := by decide +kernel
theorem d3_24 : decode prog_14_method_5_code 24 = .ok (.iload_n 0, 1) := by decide +kernel
theorem d3_25 : decode prog_14_method_5_code 25 = .ok (.if_icmp .ne 6, 3) := by decide +kernel
theorem d3_28 : decode prog_14_method_5_code 28 = .ok (.aload 4, 2) := by decide +kernel
theorem d3_30 : decode prog_14_method_5_code 30 = .ok (.areturn, 1) := by decide +kernel
theorem d3_31 : decode prog_14_method_5_code 31 = .ok (.iinc 3 1, 3) := by decide +kernel
theorem d3_34 : decode prog_14_method_5_code 34 = .ok (.goto (-25), 3) := by decide +kernel
theorem d4_0 : decode prog_14_method_1_code 0 = .ok (.getstatic 19, 3) := by decide +kernel
theorem d4_3 : decode prog_14_method_1_code 3 = .ok (.invokevirtual 23, 3) := by decide +kernel
theorem d4_6 : decode prog_14_method_1_code 6 = .ok (.checkcast 24, 3) := by decide +kernel
theorem d4_9 : decode prog_14_method_1_code 9 = .ok (.areturn, 1) := by decide +kernel
theorem d5_0 : decode prog_14_method_4_code 0 = .ok (.aload_n 0, 1) := by decide +kernel
theorem d5_1 : decode prog_14_method_4_code 1 = .ok (.getfield 38, 3) := by decide +kernel
theorem d5_4 : decode prog_14_method_4_code 4 = .ok (.ireturn, 1) := by decide +kernel
theorem pd0 : parseMethodDescriptor "()[Lcom/example/leadlight/leadlight/model/Colour;" = some ⟨[], (some (.array (.object "com/example/leadlight/leadlight/model/Colour")))⟩ := by decide +kernel
theorem pd1 : parseMethodDescriptor "(I)C" = some ⟨[.int], (some .char)⟩ := by decide +kernel
theorem pd2 : parseMethodDescriptor "(I)Lcom/example/leadlight/leadlight/model/Colour;" = some ⟨[.int], (some (.object "com/example/leadlight/leadlight/model/Colour"))⟩ := by decide +kernel
theorem pd3 : parseMethodDescriptor "(C)Lcom/example/leadlight/leadlight/model/Colour;" = some ⟨[.char], (some (.object "com/example/leadlight/leadlight/model/Colour"))⟩ := by decide +kernel
theorem pd4 : parseMethodDescriptor "()C" = some ⟨[], (some .char)⟩ := by decide +kernel
theorem pn0 : plainName "com/example/leadlight/leadlight/model/ColourOfLetterPinLaw" = true := by first | (simp [plainName, overriddenIn]; done) | decide +kernel
theorem pn1 : plainName "com/example/leadlight/leadlight/model/Colour" = true := by first | (simp [plainName, overriddenIn]; done) | decide +kernel

theorem own_eqI {args : Array Value} {s : State} {t : Term} {n : Int32} (h : (Jvm.Cond.eq t (.int n)).value args s none s [] = some true) : t.eval args s none [] s = some (.int n) := by
  obtain ⟨x, y, e1, e2, k, k'⟩ := cmp_v (Or.inl h)
  obtain rfl : y = .int n := (Option.some.inj (e2.symm.trans (Term.int_eval n)))
  obtain ⟨z, rfl⟩ : ∃ z, x = .int z := k'
  have q : (Jvm.Cond.eq t (.int n)).value args s none s [] = some (decide (z = n)) := by simp [Cond.value, e1, e2]
  rw [q] at h
  rw [e1, of_decide_eq_true (Option.some.inj h)]

theorem own_eqR {args : Array Value} {s : State} {t u : Term} {x : Addr} (h : (Jvm.Cond.eq t u).value args s none s [] = some true) (hu : u.eval args s none [] s = some (.ref x)) : t.eval args s none [] s = some (.ref x) := by
  obtain ⟨a, b, e1, e2, k, k'⟩ := cmp_v (Or.inl h)
  obtain rfl : b = .ref x := Option.some.inj (e2.symm.trans hu)
  have hr : a.isRef = true := k'.2
  rw [eq_R e1 e2 hr rfl] at h
  rw [e1, of_decide_eq_true (Option.some.inj h)]

theorem own_len {args : Array Value} {s : State} {t : Term} {a : Addr} {c : Cell} {ty : FieldType} {n : Int32} {k : Nat} (ev : t.eval args s none [] s = some (.ref a)) (A : Arr s s.heap a c ty) (h : (Term.length t).eval args s none [] s = some (.int n)) (hk : n.toInt = (k : Int)) : c.slots.size = k := by
  have hA := A.fin (U := s) (Vm.Alike.refl _)
  by_cases hl : c.slots.size < 2 ^ 31
  · rw [len_f ev hA hl] at h
    have e : c.slots.size.toInt32 = n := by cases h; rfl
    have q := len_toInt hl
    rw [e] at q
    omega
  · simp [Term.eval, ev, hA, hl] at h
theorem own_ary {Z : State} {h : Heap} {a : Addr} {c : Cell} {ty : FieldType} {vs : List Value} (A : Arr Z h a c ty) (hs : c.slots.size = vs.length) (he : ∀ k, k < vs.length → c.slots[k]? = vs[k]?) : Ary Z h a ty vs := by
  refine ⟨c, A, ?_⟩
  apply Array.ext_getElem?
  intro i
  by_cases hi : i < vs.length
  · rw [he i hi]; simp
  · rw [Array.getElem?_eq_none (by omega), Array.getElem?_eq_none (by simp; omega)]
theorem own_elem {args : Array Value} {s : State} {t : Term} {a : Addr} {c : Cell} {ty : FieldType} {j : Int32} {k : Nat} {v : Value} (ev : t.eval args s none [] s = some (.ref a)) (A : Arr s s.heap a c ty) (h : (Term.elem t (.int j)).eval args s none [] s = some v) (hk : j.toInt = (k : Int)) : c.slots[k]? = some v := by
  have q := (elem_in h ev (Term.int_eval j) A.1).2
  rw [clamp_of hk] at q
  exact q

set_option maxRecDepth 65536 in
set_option maxHeartbeats 40000000 in
theorem m_l0 (l : Launch) (Z : State) (a0 : Array Value) (hw : ∀ d ∈ tables_1, d.before a0 Z = true)  (h0 : Heap) (n0 : Nat) (z0 : n0 ≤ h0.size)  : Mt false l Z (⟨"com/example/leadlight/leadlight/model/ColourOfLetterPinLaw", "letterAt", "(I)C"⟩ : MethodName) method_2_code 1 (some .char) ({ frames := 0, cells := 0, slots := 0, locals := 0 } : Room) n0 (fun v h => v = some (.int (89 : Int32)) ∧ h0 = h) h0 #[(.int (0 : Int32))] := by
  refine Mt.go (Ls := #[.val (.int (0 : Int32))]) pn0 (fun m => by rfl) ?_
  show (Go false l ({ frames := 0, cells := 0, slots := 0, locals := 0 } : Room) Z (⟨"com/example/leadlight/leadlight/model/ColourOfLetterPinLaw", "letterAt", "(I)C"⟩ : MethodName) method_2_code 1 (some .char) n0 0 0 (fun v h => v = some (.int (89 : Int32)) ∧ h0 = h)) h0 0 0 0 #[.val (.int (0 : Int32))] []
  refine Go.iloadN (pc' := 1) d1_0 rfl rfl ?_
  refine Go.ifc (pc1 := 7) (pc2 := 4) d1_1 (by decide) (by decide) rfl (fun (c_1 : (0 : Int) ≠ 0) => ?_) (fun (c_1 : (0 : Int) = 0) => ?_)
  · exact absurd c_1 (by decide)
  refine Go.bipush (pc' := 6) (v := (89 : Int32)) d1_4 rfl rfl ?_
  exact Go.retN (t := .char) d1_6 rfl (by simp) rfl ⟨rfl, rfl⟩ (by decide) (by decide)
set_option maxRecDepth 65536 in
set_option maxHeartbeats 40000000 in
theorem m_c0 (l : Launch) (Z : State) (a0 : Array Value) (hw : ∀ d ∈ tables_1, d.before a0 Z = true) (a : Addr) (h0 : Heap) (n0 : Nat) (z0 : n0 ≤ h0.size) (hS : Sta Z h0 "com/example/leadlight/leadlight/model/Colour" "YELLOW" "Lcom/example/leadlight/leadlight/model/Colour;" (.ref a)) : Mt false l Z (⟨"com/example/leadlight/leadlight/model/ColourOfLetterPinLaw", "colourAt", "(I)Lcom/example/leadlight/leadlight/model/Colour;"⟩ : MethodName) method_3_code 1 (some (.object "com/example/leadlight/leadlight/model/Colour")) ({ frames := 0, cells := 0, slots := 0, locals := 0 } : Room) n0 (fun v h => v = some (.ref a) ∧ h0 = h) h0 #[(.int (0 : Int32))] := by
  refine Mt.go (Ls := #[.val (.int (0 : Int32))]) pn0 (fun m => by rfl) ?_
  show (Go false l ({ frames := 0, cells := 0, slots := 0, locals := 0 } : Room) Z (⟨"com/example/leadlight/leadlight/model/ColourOfLetterPinLaw", "colourAt", "(I)Lcom/example/leadlight/leadlight/model/Colour;"⟩ : MethodName) method_3_code 1 (some (.object "com/example/leadlight/leadlight/model/Colour")) n0 0 0 (fun v h => v = some (.ref a) ∧ h0 = h)) h0 0 0 0 #[.val (.int (0 : Int32))] []
  refine Go.iloadN (pc' := 1) d2_0 rfl rfl ?_
  refine Go.ifc (pc1 := 8) (pc2 := 4) d2_1 (by decide) (by decide) rfl (fun (c_2 : (0 : Int) ≠ 0) => ?_) (fun (c_2 : (0 : Int) = 0) => ?_)
  · exact absurd c_2 (by decide)
  refine Go.getS (pc' := 7) (hw _ (List.mem_of_getElem? (i := 8) rfl)) hS d2_4 rfl ?_
  exact Go.retA d2_7 rfl rfl rfl ⟨rfl, rfl⟩ (by decide) (by decide)
set_option maxRecDepth 65536 in
set_option maxHeartbeats 40000000 in
theorem m_l1 (l : Launch) (Z : State) (a0 : Array Value) (hw : ∀ d ∈ tables_1, d.before a0 Z = true)  (h0 : Heap) (n0 : Nat) (z0 : n0 ≤ h0.size)  : Mt false l Z (⟨"com/example/leadlight/leadlight/model/ColourOfLetterPinLaw", "letterAt", "(I)C"⟩ : MethodName) method_2_code 1 (some .char) ({ frames := 0, cells := 0, slots := 0, locals := 0 } : Room) n0 (fun v h => v = some (.int (82 : Int32)) ∧ h0 = h) h0 #[(.int (1 : Int32))] := by
  refine Mt.go (Ls := #[.val (.int (1 : Int32))]) pn0 (fun m => by rfl) ?_
  show (Go false l ({ frames := 0, cells := 0, slots := 0, locals := 0 } : Room) Z (⟨"com/example/leadlight/leadlight/model/ColourOfLetterPinLaw", "letterAt", "(I)C"⟩ : MethodName) method_2_code 1 (some .char) n0 0 0 (fun v h => v = some (.int (82 : Int32)) ∧ h0 = h)) h0 0 0 0 #[.val (.int (1 : Int32))] []
  refine Go.iloadN (pc' := 1) d1_0 rfl rfl ?_
  refine Go.ifc (pc1 := 7) (pc2 := 4) d1_1 (by decide) (by decide) rfl (fun (c_3 : (1 : Int) ≠ 0) => ?_) (fun (c_3 : (1 : Int) = 0) => ?_)
  rotate_left
  · exact absurd c_3 (by decide)
  refine Go.iloadN (pc' := 8) d1_7 rfl rfl ?_
  refine Go.iconst (pc' := 9) (v := (1 : Int32)) d1_8 rfl rfl ?_
  refine Go.icmp (pc1 := 15) (pc2 := 12) d1_9 (by decide) (by decide) rfl (fun (c_4 : (1 : Int) ≠ (1 : Int)) => ?_) (fun (c_4 : (1 : Int) = (1 : Int)) => ?_)
  · exact absurd c_4 (by decide)
  refine Go.bipush (pc' := 14) (v := (82 : Int32)) d1_12 rfl rfl ?_
  exact Go.retN (t := .char) d1_14 rfl (by simp) rfl ⟨rfl, rfl⟩ (by decide) (by decide)
set_option maxRecDepth 65536 in
set_option maxHeartbeats 40000000 in
theorem m_c1 (l : Launch) (Z : State) (a0 : Array Value) (hw : ∀ d ∈ tables_1, d.before a0 Z = true) (a : Addr) (h0 : Heap) (n0 : Nat) (z0 : n0 ≤ h0.size) (hS : Sta Z h0 "com/example/leadlight/leadlight/model/Colour" "RED" "Lcom/example/leadlight/leadlight/model/Colour;" (.ref a)) : Mt false l Z (⟨"com/example/leadlight/leadlight/model/ColourOfLetterPinLaw", "colourAt", "(I)Lcom/example/leadlight/leadlight/model/Colour;"⟩ : MethodName) method_3_code 1 (some (.object "com/example/leadlight/leadlight/model/Colour")) ({ frames := 0, cells := 0, slots := 0, locals := 0 } : Room) n0 (fun v h => v = some (.ref a) ∧ h0 = h) h0 #[(.int (1 : Int32))] := by
  refine Mt.go (Ls := #[.val (.int (1 : Int32))]) pn0 (fun m => by rfl) ?_
  show (Go false l ({ frames := 0, cells := 0, slots := 0, locals := 0 } : Room) Z (⟨"com/example/leadlight/leadlight/model/ColourOfLetterPinLaw", "colourAt", "(I)Lcom/example/leadlight/leadlight/model/Colour;"⟩ : MethodName) method_3_code 1 (some (.object "com/example/leadlight/leadlight/model/Colour")) n0 0 0 (fun v h => v = some (.ref a) ∧ h0 = h)) h0 0 0 0 #[.val (.int (1 : Int32))] []
  refine Go.iloadN (pc' := 1) d2_0 rfl rfl ?_
  refine Go.ifc (pc1 := 8) (pc2 := 4) d2_1 (by decide) (by decide) rfl (fun (c_5 : (1 : Int) ≠ 0) => ?_) (fun (c_5 : (1 : Int) = 0) => ?_)
  rotate_left
  · exact absurd c_5 (by decide)
  refine Go.iloadN (pc' := 9) d2_8 rfl rfl ?_
  refine Go.iconst (pc' := 10) (v := (1 : Int32)) d2_9 rfl rfl ?_
  refine Go.icmp (pc1 := 17) (pc2 := 13) d2_10 (by decide) (by decide) rfl (fun (c_6 : (1 : Int) ≠ (1 : Int)) => ?_) (fun (c_6 : (1 : Int) = (1 : Int)) => ?_)
  · exact absurd c_6 (by decide)
  refine Go.getS (pc' := 16) (hw _ (List.mem_of_getElem? (i := 41) rfl)) hS d2_13 rfl ?_
  exact Go.retA d2_16 rfl rfl rfl ⟨rfl, rfl⟩ (by decide) (by decide)
set_option maxRecDepth 65536 in
set_option maxHeartbeats 40000000 in
theorem m_l2 (l : Launch) (Z : State) (a0 : Array Value) (hw : ∀ d ∈ tables_1, d.before a0 Z = true)  (h0 : Heap) (n0 : Nat) (z0 : n0 ≤ h0.size)  : Mt false l Z (⟨"com/example/leadlight/leadlight/model/ColourOfLetterPinLaw", "letterAt", "(I)C"⟩ : MethodName) method_2_code 1 (some .char) ({ frames := 0, cells := 0, slots := 0, locals := 0 } : Room) n0 (fun v h => v = some (.int (66 : Int32)) ∧ h0 = h) h0 #[(.int (2 : Int32))] := by
  refine Mt.go (Ls := #[.val (.int (2 : Int32))]) pn0 (fun m => by rfl) ?_
  show (Go false l ({ frames := 0, cells := 0, slots := 0, locals := 0 } : Room) Z (⟨"com/example/leadlight/leadlight/model/ColourOfLetterPinLaw", "letterAt", "(I)C"⟩ : MethodName) method_2_code 1 (some .char) n0 0 0 (fun v h => v = some (.int (66 : Int32)) ∧ h0 = h)) h0 0 0 0 #[.val (.int (2 : Int32))] []
  refine Go.iloadN (pc' := 1) d1_0 rfl rfl ?_
  refine Go.ifc (pc1 := 7) (pc2 := 4) d1_1 (by decide) (by decide) rfl (fun (c_7 : (2 : Int) ≠ 0) => ?_) (fun (c_7 : (2 : Int) = 0) => ?_)
  rotate_left
  · exact absurd c_7 (by decide)
  refine Go.iloadN (pc' := 8) d1_7 rfl rfl ?_
  refine Go.iconst (pc' := 9) (v := (1 : Int32)) d1_8 rfl rfl ?_
  refine Go.icmp (pc1 := 15) (pc2 := 12) d1_9 (by decide) (by decide) rfl (fun (c_8 : (2 : Int) ≠ (1 : Int)) => ?_) (fun (c_8 : (2 : Int) = (1 : Int)) => ?_)
  rotate_left
  · exact absurd c_8 (by decide)
  refine Go.iloadN (pc' := 16) d1_15 rfl rfl ?_
  refine Go.iconst (pc' := 17) (v := (2 : Int32)) d1_16 rfl rfl ?_
  refine Go.icmp (pc1 := 23) (pc2 := 20) d1_17 (by decide) (by decide) rfl (fun (c_9 : (2 : Int) ≠ (2 : Int)) => ?_) (fun (c_9 : (2 : Int) = (2 : Int)) => ?_)
  · exact absurd c_9 (by decide)
  refine Go.bipush (pc' := 22) (v := (66 : Int32)) d1_20 rfl rfl ?_
  exact Go.retN (t := .char) d1_22 rfl (by simp) rfl ⟨rfl, rfl⟩ (by decide) (by decide)
set_option maxRecDepth 65536 in
set_option maxHeartbeats 40000000 in
theorem m_c2 (l : Launch) (Z : State) (a0 : Array Value) (hw : ∀ d ∈ tables_1, d.before a0 Z = true) (a : Addr) (h0 : Heap) (n0 : Nat) (z0 : n0 ≤ h0.size) (hS : Sta Z h0 "com/example/leadlight/leadlight/model/Colour" "BLUE" "Lcom/example/leadlight/leadlight/model/Colour;" (.ref a)) : Mt false l Z (⟨"com/example/leadlight/leadlight/model/ColourOfLetterPinLaw", "colourAt", "(I)Lcom/example/leadlight/leadlight/model/Colour;"⟩ : MethodName) method_3_code 1 (some (.object "com/example/leadlight/leadlight/model/Colour")) ({ frames := 0, cells := 0, slots := 0, locals := 0 } : Room) n0 (fun v h => v = some (.ref a) ∧ h0 = h) h0 #[(.int (2 : Int32))] := by
  refine Mt.go (Ls := #[.val (.int (2 : Int32))]) pn0 (fun m => by rfl) ?_
  show (Go false l ({ frames := 0, cells := 0, slots := 0, locals := 0 } : Room) Z (⟨"com/example/leadlight/leadlight/model/ColourOfLetterPinLaw", "colourAt", "(I)Lcom/example/leadlight/leadlight/model/Colour;"⟩ : MethodName) method_3_code 1 (some (.object "com/example/leadlight/leadlight/model/Colour")) n0 0 0 (fun v h => v = some (.ref a) ∧ h0 = h)) h0 0 0 0 #[.val (.int (2 : Int32))] []
  refine Go.iloadN (pc' := 1) d2_0 rfl rfl ?_
  refine Go.ifc (pc1 := 8) (pc2 := 4) d2_1 (by decide) (by decide) rfl (fun (c_10 : (2 : Int) ≠ 0) => ?_) (fun (c_10 : (2 : Int) = 0) => ?_)
  rotate_left
  · exact absurd c_10 (by decide)
  refine Go.iloadN (pc' := 9) d2_8 rfl rfl ?_
  refine Go.iconst (pc' := 10) (v := (1 : Int32)) d2_9 rfl rfl ?_
  refine Go.icmp (pc1 := 17) (pc2 := 13) d2_10 (by decide) (by decide) rfl (fun (c_11 : (2 : Int) ≠ (1 : Int)) => ?_) (fun (c_11 : (2 : Int) = (1 : Int)) => ?_)
  rotate_left
  · exact absurd c_11 (by decide)
  refine Go.iloadN (pc' := 18) d2_17 rfl rfl ?_
  refine Go.iconst (pc' := 19) (v := (2 : Int32)) d2_18 rfl rfl ?_
  refine Go.icmp (pc1 := 26) (pc2 := 22) d2_19 (by decide) (by decide) rfl (fun (c_12 : (2 : Int) ≠ (2 : Int)) => ?_) (fun (c_12 : (2 : Int) = (2 : Int)) => ?_)
  · exact absurd c_12 (by decide)
  refine Go.getS (pc' := 25) (hw _ (List.mem_of_getElem? (i := 43) rfl)) hS d2_22 rfl ?_
  exact Go.retA d2_25 rfl rfl rfl ⟨rfl, rfl⟩ (by decide) (by decide)
set_option maxRecDepth 65536 in
set_option maxHeartbeats 40000000 in
theorem m_l3 (l : Launch) (Z : State) (a0 : Array Value) (hw : ∀ d ∈ tables_1, d.before a0 Z = true)  (h0 : Heap) (n0 : Nat) (z0 : n0 ≤ h0.size)  : Mt false l Z (⟨"com/example/leadlight/leadlight/model/ColourOfLetterPinLaw", "letterAt", "(I)C"⟩ : MethodName) method_2_code 1 (some .char) ({ frames := 0, cells := 0, slots := 0, locals := 0 } : Room) n0 (fun v h => v = some (.int (71 : Int32)) ∧ h0 = h) h0 #[(.int (3 : Int32))] := by
  refine Mt.go (Ls := #[.val (.int (3 : Int32))]) pn0 (fun m => by rfl) ?_
  show (Go false l ({ frames := 0, cells := 0, slots := 0, locals := 0 } : Room) Z (⟨"com/example/leadlight/leadlight/model/ColourOfLetterPinLaw", "letterAt", "(I)C"⟩ : MethodName) method_2_code 1 (some .char) n0 0 0 (fun v h => v = some (.int (71 : Int32)) ∧ h0 = h)) h0 0 0 0 #[.val (.int (3 : Int32))] []
  refine Go.iloadN (pc' := 1) d1_0 rfl rfl ?_
  refine Go.ifc (pc1 := 7) (pc2 := 4) d1_1 (by decide) (by decide) rfl (fun (c_13 : (3 : Int) ≠ 0) => ?_) (fun (c_13 : (3 : Int) = 0) => ?_)
  rotate_left
  · exact absurd c_13 (by decide)
  refine Go.iloadN (pc' := 8) d1_7 rfl rfl ?_
  refine Go.iconst (pc' := 9) (v := (1 : Int32)) d1_8 rfl rfl ?_
  refine Go.icmp (pc1 := 15) (pc2 := 12) d1_9 (by decide) (by decide) rfl (fun (c_14 : (3 : Int) ≠ (1 : Int)) => ?_) (fun (c_14 : (3 : Int) = (1 : Int)) => ?_)
  rotate_left
  · exact absurd c_14 (by decide)
  refine Go.iloadN (pc' := 16) d1_15 rfl rfl ?_
  refine Go.iconst (pc' := 17) (v := (2 : Int32)) d1_16 rfl rfl ?_
  refine Go.icmp (pc1 := 23) (pc2 := 20) d1_17 (by decide) (by decide) rfl (fun (c_15 : (3 : Int) ≠ (2 : Int)) => ?_) (fun (c_15 : (3 : Int) = (2 : Int)) => ?_)
  rotate_left
  · exact absurd c_15 (by decide)
  refine Go.iloadN (pc' := 24) d1_23 rfl rfl ?_
  refine Go.iconst (pc' := 25) (v := (3 : Int32)) d1_24 rfl rfl ?_
  refine Go.icmp (pc1 := 31) (pc2 := 28) d1_25 (by decide) (by decide) rfl (fun (c_16 : (3 : Int) ≠ (3 : Int)) => ?_) (fun (c_16 : (3 : Int) = (3 : Int)) => ?_)
  · exact absurd c_16 (by decide)
  refine Go.bipush (pc' := 30) (v := (71 : Int32)) d1_28 rfl rfl ?_
  exact Go.retN (t := .char) d1_30 rfl (by simp) rfl ⟨rfl, rfl⟩ (by decide) (by decide)
set_option maxRecDepth 65536 in
set_option maxHeartbeats 40000000 in
theorem m_c3 (l : Launch) (Z : State) (a0 : Array Value) (hw : ∀ d ∈ tables_1, d.before a0 Z = true) (a : Addr) (h0 : Heap) (n0 : Nat) (z0 : n0 ≤ h0.size) (hS : Sta Z h0 "com/example/leadlight/leadlight/model/Colour" "GREEN" "Lcom/example/leadlight/leadlight/model/Colour;" (.ref a)) : Mt false l Z (⟨"com/example/leadlight/leadlight/model/ColourOfLetterPinLaw", "colourAt", "(I)Lcom/example/leadlight/leadlight/model/Colour;"⟩ : MethodName) method_3_code 1 (some (.object "com/example/leadlight/leadlight/model/Colour")) ({ frames := 0, cells := 0, slots := 0, locals := 0 } : Room) n0 (fun v h => v = some (.ref a) ∧ h0 = h) h0 #[(.int (3 : Int32))] := by
  refine Mt.go (Ls := #[.val (.int (3 : Int32))]) pn0 (fun m => by rfl) ?_
  show (Go false l ({ frames := 0, cells := 0, slots := 0, locals := 0 } : Room) Z (⟨"com/example/leadlight/leadlight/model/ColourOfLetterPinLaw", "colourAt", "(I)Lcom/example/leadlight/leadlight/model/Colour;"⟩ : MethodName) method_3_code 1 (some (.object "com/example/leadlight/leadlight/model/Colour")) n0 0 0 (fun v h => v = some (.ref a) ∧ h0 = h)) h0 0 0 0 #[.val (.int (3 : Int32))] []
  refine Go.iloadN (pc' := 1) d2_0 rfl rfl ?_
  refine Go.ifc (pc1 := 8) (pc2 := 4) d2_1 (by decide) (by decide) rfl (fun (c_17 : (3 : Int) ≠ 0) => ?_) (fun (c_17 : (3 : Int) = 0) => ?_)
  rotate_left
  · exact absurd c_17 (by decide)
  refine Go.iloadN (pc' := 9) d2_8 rfl rfl ?_
  refine Go.iconst (pc' := 10) (v := (1 : Int32)) d2_9 rfl rfl ?_
  refine Go.icmp (pc1 := 17) (pc2 := 13) d2_10 (by decide) (by decide) rfl (fun (c_18 : (3 : Int) ≠ (1 : Int)) => ?_) (fun (c_18 : (3 : Int) = (1 : Int)) => ?_)
  rotate_left
  · exact absurd c_18 (by decide)
  refine Go.iloadN (pc' := 18) d2_17 rfl rfl ?_
  refine Go.iconst (pc' := 19) (v := (2 : Int32)) d2_18 rfl rfl ?_
  refine Go.icmp (pc1 := 26) (pc2 := 22) d2_19 (by decide) (by decide) rfl (fun (c_19 : (3 : Int) ≠ (2 : Int)) => ?_) (fun (c_19 : (3 : Int) = (2 : Int)) => ?_)
  rotate_left
  · exact absurd c_19 (by decide)
  refine Go.iloadN (pc' := 27) d2_26 rfl rfl ?_
  refine Go.iconst (pc' := 28) (v := (3 : Int32)) d2_27 rfl rfl ?_
  refine Go.icmp (pc1 := 35) (pc2 := 31) d2_28 (by decide) (by decide) rfl (fun (c_20 : (3 : Int) ≠ (3 : Int)) => ?_) (fun (c_20 : (3 : Int) = (3 : Int)) => ?_)
  · exact absurd c_20 (by decide)
  refine Go.getS (pc' := 34) (hw _ (List.mem_of_getElem? (i := 40) rfl)) hS d2_31 rfl ?_
  exact Go.retA d2_34 rfl rfl rfl ⟨rfl, rfl⟩ (by decide) (by decide)
set_option maxRecDepth 65536 in
set_option maxHeartbeats 40000000 in
theorem m_l4 (l : Launch) (Z : State) (a0 : Array Value) (hw : ∀ d ∈ tables_1, d.before a0 Z = true)  (h0 : Heap) (n0 : Nat) (z0 : n0 ≤ h0.size)  : Mt false l Z (⟨"com/example/leadlight/leadlight/model/ColourOfLetterPinLaw", "letterAt", "(I)C"⟩ : MethodName) method_2_code 1 (some .char) ({ frames := 0, cells := 0, slots := 0, locals := 0 } : Room) n0 (fun v h => v = some (.int (80 : Int32)) ∧ h0 = h) h0 #[(.int (4 : Int32))] := by
  refine Mt.go (Ls := #[.val (.int (4 : Int32))]) pn0 (fun m => by rfl) ?_
  show (Go false l ({ frames := 0, cells := 0, slots := 0, locals := 0 } : Room) Z (⟨"com/example/leadlight/leadlight/model/ColourOfLetterPinLaw", "letterAt", "(I)C"⟩ : MethodName) method_2_code 1 (some .char) n0 0 0 (fun v h => v = some (.int (80 : Int32)) ∧ h0 = h)) h0 0 0 0 #[.val (.int (4 : Int32))] []
  refine Go.iloadN (pc' := 1) d1_0 rfl rfl ?_
  refine Go.ifc (pc1 := 7) (pc2 := 4) d1_1 (by decide) (by decide) rfl (fun (c_21 : (4 : Int) ≠ 0) => ?_) (fun (c_21 : (4 : Int) = 0) => ?_)
  rotate_left
  · exact absurd c_21 (by decide)
  refine Go.iloadN (pc' := 8) d1_7 rfl rfl ?_
  refine Go.iconst (pc' := 9) (v := (1 : Int32)) d1_8 rfl rfl ?_
  refine Go.icmp (pc1 := 15) (pc2 := 12) d1_9 (by decide) (by decide) rfl (fun (c_22 : (4 : Int) ≠ (1 : Int)) => ?_) (fun (c_22 : (4 : Int) = (1 : Int)) => ?_)
  rotate_left
  · exact absurd c_22 (by decide)
  refine Go.iloadN (pc' := 16) d1_15 rfl rfl ?_
  refine Go.iconst (pc' := 17) (v := (2 : Int32)) d1_16 rfl rfl ?_
  refine Go.icmp (pc1 := 23) (pc2 := 20) d1_17 (by decide) (by decide) rfl (fun (c_23 : (4 : Int) ≠ (2 : Int)) => ?_) (fun (c_23 : (4 : Int) = (2 : Int)) => ?_)
  rotate_left
  · exact absurd c_23 (by decide)
  refine Go.iloadN (pc' := 24) d1_23 rfl rfl ?_
  refine Go.iconst (pc' := 25) (v := (3 : Int32)) d1_24 rfl rfl ?_
  refine Go.icmp (pc1 := 31) (pc2 := 28) d1_25 (by decide) (by decide) rfl (fun (c_24 : (4 : Int) ≠ (3 : Int)) => ?_) (fun (c_24 : (4 : Int) = (3 : Int)) => ?_)
  rotate_left
  · exact absurd c_24 (by decide)
  refine Go.bipush (pc' := 33) (v := (80 : Int32)) d1_31 rfl rfl ?_
  exact Go.retN (t := .char) d1_33 rfl (by simp) rfl ⟨rfl, rfl⟩ (by decide) (by decide)
set_option maxRecDepth 65536 in
set_option maxHeartbeats 40000000 in
theorem m_c4 (l : Launch) (Z : State) (a0 : Array Value) (hw : ∀ d ∈ tables_1, d.before a0 Z = true) (a : Addr) (h0 : Heap) (n0 : Nat) (z0 : n0 ≤ h0.size) (hS : Sta Z h0 "com/example/leadlight/leadlight/model/Colour" "PURPLE" "Lcom/example/leadlight/leadlight/model/Colour;" (.ref a)) : Mt false l Z (⟨"com/example/leadlight/leadlight/model/ColourOfLetterPinLaw", "colourAt", "(I)Lcom/example/leadlight/leadlight/model/Colour;"⟩ : MethodName) method_3_code 1 (some (.object "com/example/leadlight/leadlight/model/Colour")) ({ frames := 0, cells := 0, slots := 0, locals := 0 } : Room) n0 (fun v h => v = some (.ref a) ∧ h0 = h) h0 #[(.int (4 : Int32))] := by
  refine Mt.go (Ls := #[.val (.int (4 : Int32))]) pn0 (fun m => by rfl) ?_
  show (Go false l ({ frames := 0, cells := 0, slots := 0, locals := 0 } : Room) Z (⟨"com/example/leadlight/leadlight/model/ColourOfLetterPinLaw", "colourAt", "(I)Lcom/example/leadlight/leadlight/model/Colour;"⟩ : MethodName) method_3_code 1 (some (.object "com/example/leadlight/leadlight/model/Colour")) n0 0 0 (fun v h => v = some (.ref a) ∧ h0 = h)) h0 0 0 0 #[.val (.int (4 : Int32))] []
  refine Go.iloadN (pc' := 1) d2_0 rfl rfl ?_
  refine Go.ifc (pc1 := 8) (pc2 := 4) d2_1 (by decide) (by decide) rfl (fun (c_25 : (4 : Int) ≠ 0) => ?_) (fun (c_25 : (4 : Int) = 0) => ?_)
  rotate_left
  · exact absurd c_25 (by decide)
  refine Go.iloadN (pc' := 9) d2_8 rfl rfl ?_
  refine Go.iconst (pc' := 10) (v := (1 : Int32)) d2_9 rfl rfl ?_
  refine Go.icmp (pc1 := 17) (pc2 := 13) d2_10 (by decide) (by decide) rfl (fun (c_26 : (4 : Int) ≠ (1 : Int)) => ?_) (fun (c_26 : (4 : Int) = (1 : Int)) => ?_)
  rotate_left
  · exact absurd c_26 (by decide)
  refine Go.iloadN (pc' := 18) d2_17 rfl rfl ?_
  refine Go.iconst (pc' := 19) (v := (2 : Int32)) d2_18 rfl rfl ?_
  refine Go.icmp (pc1 := 26) (pc2 := 22) d2_19 (by decide) (by decide) rfl (fun (c_27 : (4 : Int) ≠ (2 : Int)) => ?_) (fun (c_27 : (4 : Int) = (2 : Int)) => ?_)
  rotate_left
  · exact absurd c_27 (by decide)
  refine Go.iloadN (pc' := 27) d2_26 rfl rfl ?_
  refine Go.iconst (pc' := 28) (v := (3 : Int32)) d2_27 rfl rfl ?_
  refine Go.icmp (pc1 := 35) (pc2 := 31) d2_28 (by decide) (by decide) rfl (fun (c_28 : (4 : Int) ≠ (3 : Int)) => ?_) (fun (c_28 : (4 : Int) = (3 : Int)) => ?_)
  rotate_left
  · exact absurd c_28 (by decide)
  refine Go.getS (pc' := 38) (hw _ (List.mem_of_getElem? (i := 42) rfl)) hS d2_35 rfl ?_
  exact Go.retA d2_38 rfl rfl rfl ⟨rfl, rfl⟩ (by decide) (by decide)
set_option maxRecDepth 65536 in
set_option maxHeartbeats 40000000 in
theorem m_v (l : Launch) (Z : State) (a0 : Array Value) (hw : ∀ d ∈ tables_1, d.before a0 Z = true) (b : Addr) (u0 u1 u2 u3 u4 : Addr) (h0 : Heap) (n0 : Nat) (z0 : n0 ≤ h0.size) (hS : Sta Z h0 "com/example/leadlight/leadlight/model/Colour" "$VALUES" "[Lcom/example/leadlight/leadlight/model/Colour;" (.ref b)) (hA : Ary Z h0 b (.object "com/example/leadlight/leadlight/model/Colour") [.ref u0, .ref u1, .ref u2, .ref u3, .ref u4]) (hE : Exa Z h0 b "[Lcom/example/leadlight/leadlight/model/Colour;") : Mt false l Z (⟨"com/example/leadlight/leadlight/model/Colour", "values", "()[Lcom/example/leadlight/leadlight/model/Colour;"⟩ : MethodName) prog_14_method_1_code 0 (some (.array (.object "com/example/leadlight/leadlight/model/Colour"))) ({ frames := 1, cells := 1, slots := 5, locals := 14 } : Room) n0 (fun v h => ∃ e, v = some (.ref e) ∧ Keep h0 h [] ∧ Ary Z h e (.object "com/example/leadlight/leadlight/model/Colour") [.ref u0, .ref u1, .ref u2, .ref u3, .ref u4]) h0 #[] := by
  refine Mt.go (Ls := #[]) pn1 (fun m => by rfl) ?_
  show (Go false l ({ frames := 1, cells := 1, slots := 5, locals := 14 } : Room) Z (⟨"com/example/leadlight/leadlight/model/Colour", "values", "()[Lcom/example/leadlight/leadlight/model/Colour;"⟩ : MethodName) prog_14_method_1_code 0 (some (.array (.object "com/example/leadlight/leadlight/model/Colour"))) n0 1 5 (fun v h => ∃ e, v = some (.ref e) ∧ Keep h0 h [] ∧ Ary Z h e (.object "com/example/leadlight/leadlight/model/Colour") [.ref u0, .ref u1, .ref u2, .ref u3, .ref u4])) h0 0 0 0 #[] []
  refine Go.getS (pc' := 3) (hw _ (List.mem_of_getElem? (i := 17) rfl)) hS d4_0 rfl ?_
  refine Go.clone (pc' := 6) (ad := "[Lcom/example/leadlight/leadlight/model/Colour;") (W := 0) (cap := 5) (hw _ (List.mem_of_getElem? (i := 19) rfl)) (hw _ (List.mem_of_getElem? (i := 20) rfl)) (hw _ (List.mem_of_getElem? (i := 24) rfl)) (hw _ (List.mem_of_getElem? (i := 22) rfl)) (hw _ (List.mem_of_getElem? (i := 23) rfl)) (hw _ (List.mem_of_getElem? (i := 25) rfl)) hA hE (by intro v hv; simp only [List.mem_cons, List.not_mem_nil, or_false] at hv; rcases hv with rfl | rfl | rfl | rfl | rfl <;> rfl) d4_3 rfl (by decide) (Nat.le_of_eq rfl) (by decide) (Nat.le_of_eq rfl) (by decide) (by decide) rfl ?_
  intro h_29 a_30 q_31 E_32 A_33 X_34
  have n_35 : b ≠ a_30 := Nat.ne_of_lt (q_31 ▸ hA.lt)
  have g_36 : n0 ≤ a_30 := q_31 ▸ z0
  have g_37 : h0.size ≤ a_30 := q_31 ▸ (Nat.le_refl _)
  have f_39 : Ary Z h_29 b (.object "com/example/leadlight/leadlight/model/Colour") [(.ref u0), (.ref u1), (.ref u2), (.ref u3), (.ref u4)] := hA.sm (Sm.ext E_32)
  have f_40 : Exa Z h_29 b "[Lcom/example/leadlight/leadlight/model/Colour;" := hE.sm (Sm.ext E_32)
  have t_41 : b < h_29.size := Nat.lt_of_lt_of_le hA.lt E_32.1
  have z_42 : n0 ≤ h_29.size := Nat.le_trans z0 E_32.1
  have b_43 : h0.size ≤ h_29.size := Nat.le_trans (Nat.le_refl _) E_32.1
  have K_44 : Keep h0 h_29 [] := (Keep.refl _ _).ext E_32
  have f_38 : Sta Z h_29 "com/example/leadlight/leadlight/model/Colour" "$VALUES" "[Lcom/example/leadlight/leadlight/model/Colour;" (.ref b) := Sta.ext E_32 hS
  have t_45 : a_30 < h_29.size := A_33.lt
  refine Go.castTo (pc' := 9) (hw _ (List.mem_of_getElem? (i := 31) rfl)) (Ins.self X_34) d4_6 rfl ?_
  exact Go.retA d4_9 rfl rfl rfl ⟨a_30, rfl, K_44, A_33⟩ (by decide) (by decide)
set_option maxRecDepth 65536 in
set_option maxHeartbeats 40000000 in
theorem m_o0 (l : Launch) (Z : State) (a0 : Array Value) (hw : ∀ d ∈ tables_1, d.before a0 Z = true) (b : Addr) (u0 u1 u2 u3 u4 : Addr) (h0 : Heap) (n0 : Nat) (z0 : n0 ≤ h0.size) (hS : Sta Z h0 "com/example/leadlight/leadlight/model/Colour" "$VALUES" "[Lcom/example/leadlight/leadlight/model/Colour;" (.ref b)) (hA : Ary Z h0 b (.object "com/example/leadlight/leadlight/model/Colour") [.ref u0, .ref u1, .ref u2, .ref u3, .ref u4]) (hE : Exa Z h0 b "[Lcom/example/leadlight/leadlight/model/Colour;") (hL0 : Fld Z h0 u0 "com/example/leadlight/leadlight/model/Colour" "letter" "C" (.int (89 : Int32))) (hL1 : Fld Z h0 u1 "com/example/leadlight/leadlight/model/Colour" "letter" "C" (.int (82 : Int32))) (hL2 : Fld Z h0 u2 "com/example/leadlight/leadlight/model/Colour" "letter" "C" (.int (66 : Int32))) (hL3 : Fld Z h0 u3 "com/example/leadlight/leadlight/model/Colour" "letter" "C" (.int (71 : Int32))) (hL4 : Fld Z h0 u4 "com/example/leadlight/leadlight/model/Colour" "letter" "C" (.int (80 : Int32))) : Mt false l Z (⟨"com/example/leadlight/leadlight/model/Colour", "ofLetter", "(C)Lcom/example/leadlight/leadlight/model/Colour;"⟩ : MethodName) prog_14_method_5_code 5 (some (.object "com/example/leadlight/leadlight/model/Colour")) ({ frames := 2, cells := 1, slots := 5, locals := 25 } : Room) n0 (fun v h => v = some (.ref u0) ∧ Keep h0 h []) h0 #[(.int (89 : Int32))] := by
  refine Mt.go (Ls := #[.val (.int (89 : Int32)), .unset, .unset, .unset, .unset]) pn1 (fun m => by rfl) ?_
  show (Go false l ({ frames := 2, cells := 1, slots := 5, locals := 25 } : Room) Z (⟨"com/example/leadlight/leadlight/model/Colour", "ofLetter", "(C)Lcom/example/leadlight/leadlight/model/Colour;"⟩ : MethodName) prog_14_method_5_code 5 (some (.object "com/example/leadlight/leadlight/model/Colour")) n0 1 5 (fun v h => v = some (.ref u0) ∧ Keep h0 h [])) h0 0 0 0 #[.val (.int (89 : Int32)), .unset, .unset, .unset, .unset] []
  refine Go.callS (pc' := 3) (argsL := []) (rest := []) (W := 0) (hw _ (List.mem_of_getElem? (i := 14) rfl)) (hw _ (List.mem_of_getElem? (i := 15) rfl)) (hw _ (List.mem_of_getElem? (i := 9) rfl)) (hw _ (List.mem_of_getElem? (i := 16) rfl)) (by decide) (m_v l Z a0 hw b u0 u1 u2 u3 u4 h0 n0 z0 hS hA hE) d3_0 rfl pd0 rfl rfl (Nat.le_of_eq rfl) (by decide) (by decide) (by decide) (by decide) rfl ?_
  rintro _ h_46 ⟨e, rfl, K_47, A_48⟩
  have f_49 : Fld Z h_46 u0 "com/example/leadlight/leadlight/model/Colour" "letter" "C" (.int (89 : Int32)) := hL0.sm (Sm.keep K_47 nin0)
  have f_50 : Fld Z h_46 u1 "com/example/leadlight/leadlight/model/Colour" "letter" "C" (.int (82 : Int32)) := hL1.sm (Sm.keep K_47 nin0)
  have f_51 : Fld Z h_46 u2 "com/example/leadlight/leadlight/model/Colour" "letter" "C" (.int (66 : Int32)) := hL2.sm (Sm.keep K_47 nin0)
  have f_52 : Fld Z h_46 u3 "com/example/leadlight/leadlight/model/Colour" "letter" "C" (.int (71 : Int32)) := hL3.sm (Sm.keep K_47 nin0)
  have f_53 : Fld Z h_46 u4 "com/example/leadlight/leadlight/model/Colour" "letter" "C" (.int (80 : Int32)) := hL4.sm (Sm.keep K_47 nin0)
  have t_54 : u0 < h_46.size := Nat.lt_of_lt_of_le hL0.lt K_47.1
  have t_55 : u1 < h_46.size := Nat.lt_of_lt_of_le hL1.lt K_47.1
  have t_56 : u2 < h_46.size := Nat.lt_of_lt_of_le hL2.lt K_47.1
  have t_57 : u3 < h_46.size := Nat.lt_of_lt_of_le hL3.lt K_47.1
  have t_58 : u4 < h_46.size := Nat.lt_of_lt_of_le hL4.lt K_47.1
  have z_59 : n0 ≤ h_46.size := Nat.le_trans z0 K_47.1
  have b_60 : h0.size ≤ h_46.size := Nat.le_trans (Nat.le_refl _) K_47.1
  have K_61 : Keep h0 h_46 [] := (Keep.refl _ _).trans K_47 all0
  show (Go false l ({ frames := 2, cells := 1, slots := 5, locals := 25 } : Room) Z (⟨"com/example/leadlight/leadlight/model/Colour", "ofLetter", "(C)Lcom/example/leadlight/leadlight/model/Colour;"⟩ : MethodName) prog_14_method_5_code 5 (some (.object "com/example/leadlight/leadlight/model/Colour")) n0 1 5 (fun v h => v = some (.ref u0) ∧ Keep h0 h [])) h_46 (0 + 1) (0 + 5) 3 #[.val (.int (89 : Int32)), .unset, .unset, .unset, .unset] [(.ref e)]
  refine Go.astoreN (pc' := 4) (Ls' := #[.val (.int (89 : Int32)), .val (.ref e), .unset, .unset, .unset]) d3_3 rfl rfl rfl ?_
  refine Go.aloadN (pc' := 5) d3_4 rfl rfl rfl ?_
  refine Go.alen (pc' := 6) (z := (5 : Int32)) A_48 rfl d3_5 rfl ?_
  refine Go.istoreN (pc' := 7) (Ls' := #[.val (.int (89 : Int32)), .val (.ref e), .val (.int (5 : Int32)), .unset, .unset]) d3_6 rfl rfl ?_
  refine Go.iconst (pc' := 8) (v := (0 : Int32)) d3_7 rfl rfl ?_
  refine Go.istoreN (pc' := 9) (Ls' := #[.val (.int (89 : Int32)), .val (.ref e), .val (.int (5 : Int32)), .val (.int (0 : Int32)), .unset]) d3_8 rfl rfl ?_
  refine Go.iloadN (pc' := 10) d3_9 rfl rfl ?_
  refine Go.iloadN (pc' := 11) d3_10 rfl rfl ?_
  refine Go.icmp (pc1 := 37) (pc2 := 14) d3_11 (by decide) (by decide) rfl (fun (c_62 : (5 : Int) ≤ (0 : Int)) => ?_) (fun (c_62 : (0 : Int) < (5 : Int)) => ?_)
  · exact absurd c_62 (by decide)
  refine Go.aloadN (pc' := 15) d3_14 rfl rfl rfl ?_
  refine Go.iloadN (pc' := 16) d3_15 rfl rfl ?_
  refine Go.ldA (pc' := 17) (k := 0) (v := (.ref u0)) A_48 rfl rfl rfl d3_16 rfl ?_
  refine Go.astore (pc' := 19) (Ls' := #[.val (.int (89 : Int32)), .val (.ref e), .val (.int (5 : Int32)), .val (.int (0 : Int32)), .val (.ref u0)]) d3_17 rfl rfl rfl ?_
  refine Go.aload (pc' := 21) d3_19 rfl rfl rfl ?_
  refine Go.getF (pc' := 24) (hw _ (List.mem_of_getElem? (i := 33) rfl)) f_49 d3_21 rfl ?_
  refine Go.iloadN (pc' := 25) d3_24 rfl rfl ?_
  refine Go.icmp (pc1 := 31) (pc2 := 28) d3_25 (by decide) (by decide) rfl (fun (c_63 : (89 : Int) ≠ (89 : Int)) => ?_) (fun (c_63 : (89 : Int) = (89 : Int)) => ?_)
  · exact absurd c_63 (by decide)
  refine Go.aload (pc' := 30) d3_28 rfl rfl rfl ?_
  exact Go.retA d3_30 rfl rfl rfl ⟨rfl, K_61⟩ (by decide) (by decide)
set_option maxRecDepth 65536 in
set_option maxHeartbeats 40000000 in
theorem m_o1 (l : Launch) (Z : State) (a0 : Array Value) (hw : ∀ d ∈ tables_1, d.before a0 Z = true) (b : Addr) (u0 u1 u2 u3 u4 : Addr) (h0 : Heap) (n0 : Nat) (z0 : n0 ≤ h0.size) (hS : Sta Z h0 "com/example/leadlight/leadlight/model/Colour" "$VALUES" "[Lcom/example/leadlight/leadlight/model/Colour;" (.ref b)) (hA : Ary Z h0 b (.object "com/example/leadlight/leadlight/model/Colour") [.ref u0, .ref u1, .ref u2, .ref u3, .ref u4]) (hE : Exa Z h0 b "[Lcom/example/leadlight/leadlight/model/Colour;") (hL0 : Fld Z h0 u0 "com/example/leadlight/leadlight/model/Colour" "letter" "C" (.int (89 : Int32))) (hL1 : Fld Z h0 u1 "com/example/leadlight/leadlight/model/Colour" "letter" "C" (.int (82 : Int32))) (hL2 : Fld Z h0 u2 "com/example/leadlight/leadlight/model/Colour" "letter" "C" (.int (66 : Int32))) (hL3 : Fld Z h0 u3 "com/example/leadlight/leadlight/model/Colour" "letter" "C" (.int (71 : Int32))) (hL4 : Fld Z h0 u4 "com/example/leadlight/leadlight/model/Colour" "letter" "C" (.int (80 : Int32))) : Mt false l Z (⟨"com/example/leadlight/leadlight/model/Colour", "ofLetter", "(C)Lcom/example/leadlight/leadlight/model/Colour;"⟩ : MethodName) prog_14_method_5_code 5 (some (.object "com/example/leadlight/leadlight/model/Colour")) ({ frames := 2, cells := 1, slots := 5, locals := 25 } : Room) n0 (fun v h => v = some (.ref u1) ∧ Keep h0 h []) h0 #[(.int (82 : Int32))] := by
  refine Mt.go (Ls := #[.val (.int (82 : Int32)), .unset, .unset, .unset, .unset]) pn1 (fun m => by rfl) ?_
  show (Go false l ({ frames := 2, cells := 1, slots := 5, locals := 25 } : Room) Z (⟨"com/example/leadlight/leadlight/model/Colour", "ofLetter", "(C)Lcom/example/leadlight/leadlight/model/Colour;"⟩ : MethodName) prog_14_method_5_code 5 (some (.object "com/example/leadlight/leadlight/model/Colour")) n0 1 5 (fun v h => v = some (.ref u1) ∧ Keep h0 h [])) h0 0 0 0 #[.val (.int (82 : Int32)), .unset, .unset, .unset, .unset] []
  refine Go.callS (pc' := 3) (argsL := []) (rest := []) (W := 0) (hw _ (List.mem_of_getElem? (i := 14) rfl)) (hw _ (List.mem_of_getElem? (i := 15) rfl)) (hw _ (List.mem_of_getElem? (i := 9) rfl)) (hw _ (List.mem_of_getElem? (i := 16) rfl)) (by decide) (m_v l Z a0 hw b u0 u1 u2 u3 u4 h0 n0 z0 hS hA hE) d3_0 rfl pd0 rfl rfl (Nat.le_of_eq rfl) (by decide) (by decide) (by decide) (by decide) rfl ?_
  rintro _ h_64 ⟨e, rfl, K_65, A_66⟩
  have f_67 : Fld Z h_64 u0 "com/example/leadlight/leadlight/model/Colour" "letter" "C" (.int (89 : Int32)) := hL0.sm (Sm.keep K_65 nin0)
  have f_68 : Fld Z h_64 u1 "com/example/leadlight/leadlight/model/Colour" "letter" "C" (.int (82 : Int32)) := hL1.sm (Sm.keep K_65 nin0)
  have f_69 : Fld Z h_64 u2 "com/example/leadlight/leadlight/model/Colour" "letter" "C" (.int (66 : Int32)) := hL2.sm (Sm.keep K_65 nin0)
  have f_70 : Fld Z h_64 u3 "com/example/leadlight/leadlight/model/Colour" "letter" "C" (.int (71 : Int32)) := hL3.sm (Sm.keep K_65 nin0)
  have f_71 : Fld Z h_64 u4 "com/example/leadlight/leadlight/model/Colour" "letter" "C" (.int (80 : Int32)) := hL4.sm (Sm.keep K_65 nin0)
  have t_72 : u0 < h_64.size := Nat.lt_of_lt_of_le hL0.lt K_65.1
  have t_73 : u1 < h_64.size := Nat.lt_of_lt_of_le hL1.lt K_65.1
  have t_74 : u2 < h_64.size := Nat.lt_of_lt_of_le hL2.lt K_65.1
  have t_75 : u3 < h_64.size := Nat.lt_of_lt_of_le hL3.lt K_65.1
  have t_76 : u4 < h_64.size := Nat.lt_of_lt_of_le hL4.lt K_65.1
  have z_77 : n0 ≤ h_64.size := Nat.le_trans z0 K_65.1
  have b_78 : h0.size ≤ h_64.size := Nat.le_trans (Nat.le_refl _) K_65.1
  have K_79 : Keep h0 h_64 [] := (Keep.refl _ _).trans K_65 all0
  show (Go false l ({ frames := 2, cells := 1, slots := 5, locals := 25 } : Room) Z (⟨"com/example/leadlight/leadlight/model/Colour", "ofLetter", "(C)Lcom/example/leadlight/leadlight/model/Colour;"⟩ : MethodName) prog_14_method_5_code 5 (some (.object "com/example/leadlight/leadlight/model/Colour")) n0 1 5 (fun v h => v = some (.ref u1) ∧ Keep h0 h [])) h_64 (0 + 1) (0 + 5) 3 #[.val (.int (82 : Int32)), .unset, .unset, .unset, .unset] [(.ref e)]
  refine Go.astoreN (pc' := 4) (Ls' := #[.val (.int (82 : Int32)), .val (.ref e), .unset, .unset, .unset]) d3_3 rfl rfl rfl ?_
  refine Go.aloadN (pc' := 5) d3_4 rfl rfl rfl ?_
  refine Go.alen (pc' := 6) (z := (5 : Int32)) A_66 rfl d3_5 rfl ?_
  refine Go.istoreN (pc' := 7) (Ls' := #[.val (.int (82 : Int32)), .val (.ref e), .val (.int (5 : Int32)), .unset, .unset]) d3_6 rfl rfl ?_
  refine Go.iconst (pc' := 8) (v := (0 : Int32)) d3_7 rfl rfl ?_
  refine Go.istoreN (pc' := 9) (Ls' := #[.val (.int (82 : Int32)), .val (.ref e), .val (.int (5 : Int32)), .val (.int (0 : Int32)), .unset]) d3_8 rfl rfl ?_
  refine Go.iloadN (pc' := 10) d3_9 rfl rfl ?_
  refine Go.iloadN (pc' := 11) d3_10 rfl rfl ?_
  refine Go.icmp (pc1 := 37) (pc2 := 14) d3_11 (by decide) (by decide) rfl (fun (c_80 : (5 : Int) ≤ (0 : Int)) => ?_) (fun (c_80 : (0 : Int) < (5 : Int)) => ?_)
  · exact absurd c_80 (by decide)
  refine Go.aloadN (pc' := 15) d3_14 rfl rfl rfl ?_
  refine Go.iloadN (pc' := 16) d3_15 rfl rfl ?_
  refine Go.ldA (pc' := 17) (k := 0) (v := (.ref u0)) A_66 rfl rfl rfl d3_16 rfl ?_
  refine Go.astore (pc' := 19) (Ls' := #[.val (.int (82 : Int32)), .val (.ref e), .val (.int (5 : Int32)), .val (.int (0 : Int32)), .val (.ref u0)]) d3_17 rfl rfl rfl ?_
  refine Go.aload (pc' := 21) d3_19 rfl rfl rfl ?_
  refine Go.getF (pc' := 24) (hw _ (List.mem_of_getElem? (i := 33) rfl)) f_67 d3_21 rfl ?_
  refine Go.iloadN (pc' := 25) d3_24 rfl rfl ?_
  refine Go.icmp (pc1 := 31) (pc2 := 28) d3_25 (by decide) (by decide) rfl (fun (c_81 : (89 : Int) ≠ (82 : Int)) => ?_) (fun (c_81 : (89 : Int) = (82 : Int)) => ?_)
  rotate_left
  · exact absurd c_81 (by decide)
  refine Go.iinc (pc' := 34) (w := (1 : Int32)) (Ls' := #[.val (.int (82 : Int32)), .val (.ref e), .val (.int (5 : Int32)), .val (.int (1 : Int32)), .val (.ref u0)]) d3_31 rfl rfl rfl rfl ?_
  refine Go.goto (pc' := 9) d3_34 (by decide) (by decide) ?_
  refine Go.iloadN (pc' := 10) d3_9 rfl rfl ?_
  refine Go.iloadN (pc' := 11) d3_10 rfl rfl ?_
  refine Go.icmp (pc1 := 37) (pc2 := 14) d3_11 (by decide) (by decide) rfl (fun (c_82 : (5 : Int) ≤ (1 : Int)) => ?_) (fun (c_82 : (1 : Int) < (5 : Int)) => ?_)
  · exact absurd c_82 (by decide)
  refine Go.aloadN (pc' := 15) d3_14 rfl rfl rfl ?_
  refine Go.iloadN (pc' := 16) d3_15 rfl rfl ?_
  refine Go.ldA (pc' := 17) (k := 1) (v := (.ref u1)) A_66 rfl rfl rfl d3_16 rfl ?_
  refine Go.astore (pc' := 19) (Ls' := #[.val (.int (82 : Int32)), .val (.ref e), .val (.int (5 : Int32)), .val (.int (1 : Int32)), .val (.ref u1)]) d3_17 rfl rfl rfl ?_
  refine Go.aload (pc' := 21) d3_19 rfl rfl rfl ?_
  refine Go.getF (pc' := 24) (hw _ (List.mem_of_getElem? (i := 33) rfl)) f_68 d3_21 rfl ?_
  refine Go.iloadN (pc' := 25) d3_24 rfl rfl ?_
  refine Go.icmp (pc1 := 31) (pc2 := 28) d3_25 (by decide) (by decide) rfl (fun (c_83 : (82 : Int) ≠ (82 : Int)) => ?_) (fun (c_83 : (82 : Int) = (82 : Int)) => ?_)
  · exact absurd c_83 (by decide)
  refine Go.aload (pc' := 30) d3_28 rfl rfl rfl ?_
  exact Go.retA d3_30 rfl rfl rfl ⟨rfl, K_79⟩ (by decide) (by decide)
set_option maxRecDepth 65536 in
set_option maxHeartbeats 40000000 in
theorem m_o2 (l : Launch) (Z : State) (a0 : Array Value) (hw : ∀ d ∈ tables_1, d.before a0 Z = true) (b : Addr) (u0 u1 u2 u3 u4 : Addr) (h0 : Heap) (n0 : Nat) (z0 : n0 ≤ h0.size) (hS : Sta Z h0 "com/example/leadlight/leadlight/model/Colour" "$VALUES" "[Lcom/example/leadlight/leadlight/model/Colour;" (.ref b)) (hA : Ary Z h0 b (.object "com/example/leadlight/leadlight/model/Colour") [.ref u0, .ref u1, .ref u2, .ref u3, .ref u4]) (hE : Exa Z h0 b "[Lcom/example/leadlight/leadlight/model/Colour;") (hL0 : Fld Z h0 u0 "com/example/leadlight/leadlight/model/Colour" "letter" "C" (.int (89 : Int32))) (hL1 : Fld Z h0 u1 "com/example/leadlight/leadlight/model/Colour" "letter" "C" (.int (82 : Int32))) (hL2 : Fld Z h0 u2 "com/example/leadlight/leadlight/model/Colour" "letter" "C" (.int (66 : Int32))) (hL3 : Fld Z h0 u3 "com/example/leadlight/leadlight/model/Colour" "letter" "C" (.int (71 : Int32))) (hL4 : Fld Z h0 u4 "com/example/leadlight/leadlight/model/Colour" "letter" "C" (.int (80 : Int32))) : Mt false l Z (⟨"com/example/leadlight/leadlight/model/Colour", "ofLetter", "(C)Lcom/example/leadlight/leadlight/model/Colour;"⟩ : MethodName) prog_14_method_5_code 5 (some (.object "com/example/leadlight/leadlight/model/Colour")) ({ frames := 2, cells := 1, slots := 5, locals := 25 } : Room) n0 (fun v h => v = some (.ref u2) ∧ Keep h0 h []) h0 #[(.int (66 : Int32))] := by
  refine Mt.go (Ls := #[.val (.int (66 : Int32)), .unset, .unset, .unset, .unset]) pn1 (fun m => by rfl) ?_
  show (Go false l ({ frames := 2, cells := 1, slots := 5, locals := 25 } : Room) Z (⟨"com/example/leadlight/leadlight/model/Colour", "ofLetter", "(C)Lcom/example/leadlight/leadlight/model/Colour;"⟩ : MethodName) prog_14_method_5_code 5 (some (.object "com/example/leadlight/leadlight/model/Colour")) n0 1 5 (fun v h => v = some (.ref u2) ∧ Keep h0 h [])) h0 0 0 0 #[.val (.int (66 : Int32)), .unset, .unset, .unset, .unset] []
  refine Go.callS (pc' := 3) (argsL := []) (rest := []) (W := 0) (hw _ (List.mem_of_getElem? (i := 14) rfl)) (hw _ (List.mem_of_getElem? (i := 15) rfl)) (hw _ (List.mem_of_getElem? (i := 9) rfl)) (hw _ (List.mem_of_getElem? (i := 16) rfl)) (by decide) (m_v l Z a0 hw b u0 u1 u2 u3 u4 h0 n0 z0 hS hA hE) d3_0 rfl pd0 rfl rfl (Nat.le_of_eq rfl) (by decide) (by decide) (by decide) (by decide) rfl ?_
  rintro _ h_84 ⟨e, rfl, K_85, A_86⟩
  have f_87 : Fld Z h_84 u0 "com/example/leadlight/leadlight/model/Colour" "letter" "C" (.int (89 : Int32)) := hL0.sm (Sm.keep K_85 nin0)
  have f_88 : Fld Z h_84 u1 "com/example/leadlight/leadlight/model/Colour" "letter" "C" (.int (82 : Int32)) := hL1.sm (Sm.keep K_85 nin0)
  have f_89 : Fld Z h_84 u2 "com/example/leadlight/leadlight/model/Colour" "letter" "C" (.int (66 : Int32)) := hL2.sm (Sm.keep K_85 nin0)
  have f_90 : Fld Z h_84 u3 "com/example/leadlight/leadlight/model/Colour" "letter" "C" (.int (71 : Int32)) := hL3.sm (Sm.keep K_85 nin0)
  have f_91 : Fld Z h_84 u4 "com/example/leadlight/leadlight/model/Colour" "letter" "C" (.int (80 : Int32)) := hL4.sm (Sm.keep K_85 nin0)
  have t_92 : u0 < h_84.size := Nat.lt_of_lt_of_le hL0.lt K_85.1
  have t_93 : u1 < h_84.size := Nat.lt_of_lt_of_le hL1.lt K_85.1
  have t_94 : u2 < h_84.size := Nat.lt_of_lt_of_le hL2.lt K_85.1
  have t_95 : u3 < h_84.size := Nat.lt_of_lt_of_le hL3.lt K_85.1
  have t_96 : u4 < h_84.size := Nat.lt_of_lt_of_le hL4.lt K_85.1
  have z_97 : n0 ≤ h_84.size := Nat.le_trans z0 K_85.1
  have b_98 : h0.size ≤ h_84.size := Nat.le_trans (Nat.le_refl _) K_85.1
  have K_99 : Keep h0 h_84 [] := (Keep.refl _ _).trans K_85 all0
  show (Go false l ({ frames := 2, cells := 1, slots := 5, locals := 25 } : Room) Z (⟨"com/example/leadlight/leadlight/model/Colour", "ofLetter", "(C)Lcom/example/leadlight/leadlight/model/Colour;"⟩ : MethodName) prog_14_method_5_code 5 (some (.object "com/example/leadlight/leadlight/model/Colour")) n0 1 5 (fun v h => v = some (.ref u2) ∧ Keep h0 h [])) h_84 (0 + 1) (0 + 5) 3 #[.val (.int (66 : Int32)), .unset, .unset, .unset, .unset] [(.ref e)]
  refine Go.astoreN (pc' := 4) (Ls' := #[.val (.int (66 : Int32)), .val (.ref e), .unset, .unset, .unset]) d3_3 rfl rfl rfl ?_
  refine Go.aloadN (pc' := 5) d3_4 rfl rfl rfl ?_
  refine Go.alen (pc' := 6) (z := (5 : Int32)) A_86 rfl d3_5 rfl ?_
  refine Go.istoreN (pc' := 7) (Ls' := #[.val (.int (66 : Int32)), .val (.ref e), .val (.int (5 : Int32)), .unset, .unset]) d3_6 rfl rfl ?_
  refine Go.iconst (pc' := 8) (v := (0 : Int32)) d3_7 rfl rfl ?_
  refine Go.istoreN (pc' := 9) (Ls' := #[.val (.int (66 : Int32)), .val (.ref e), .val (.int (5 : Int32)), .val (.int (0 : Int32)), .unset]) d3_8 rfl rfl ?_
  refine Go.iloadN (pc' := 10) d3_9 rfl rfl ?_
  refine Go.iloadN (pc' := 11) d3_10 rfl rfl ?_
  refine Go.icmp (pc1 := 37) (pc2 := 14) d3_11 (by decide) (by decide) rfl (fun (c_100 : (5 : Int) ≤ (0 : Int)) => ?_) (fun (c_100 : (0 : Int) < (5 : Int)) => ?_)
  · exact absurd c_100 (by decide)
  refine Go.aloadN (pc' := 15) d3_14 rfl rfl rfl ?_
  refine Go.iloadN (pc' := 16) d3_15 rfl rfl ?_
  refine Go.ldA (pc' := 17) (k := 0) (v := (.ref u0)) A_86 rfl rfl rfl d3_16 rfl ?_
  refine Go.astore (pc' := 19) (Ls' := #[.val (.int (66 : Int32)), .val (.ref e), .val (.int (5 : Int32)), .val (.int (0 : Int32)), .val (.ref u0)]) d3_17 rfl rfl rfl ?_
  refine Go.aload (pc' := 21) d3_19 rfl rfl rfl ?_
  refine Go.getF (pc' := 24) (hw _ (List.mem_of_getElem? (i := 33) rfl)) f_87 d3_21 rfl ?_
  refine Go.iloadN (pc' := 25) d3_24 rfl rfl ?_
  refine Go.icmp (pc1 := 31) (pc2 := 28) d3_25 (by decide) (by decide) rfl (fun (c_101 : (89 : Int) ≠ (66 : Int)) => ?_) (fun (c_101 : (89 : Int) = (66 : Int)) => ?_)
  rotate_left
  · exact absurd c_101 (by decide)
  refine Go.iinc (pc' := 34) (w := (1 : Int32)) (Ls' := #[.val (.int (66 : Int32)), .val (.ref e), .val (.int (5 : Int32)), .val (.int (1 : Int32)), .val (.ref u0)]) d3_31 rfl rfl rfl rfl ?_
  refine Go.goto (pc' := 9) d3_34 (by decide) (by decide) ?_
  refine Go.iloadN (pc' := 10) d3_9 rfl rfl ?_
  refine Go.iloadN (pc' := 11) d3_10 rfl rfl ?_
  refine Go.icmp (pc1 := 37) (pc2 := 14) d3_11 (by decide) (by decide) rfl (fun (c_102 : (5 : Int) ≤ (1 : Int)) => ?_) (fun (c_102 : (1 : Int) < (5 : Int)) => ?_)
  · exact absurd c_102 (by decide)
  refine Go.aloadN (pc' := 15) d3_14 rfl rfl rfl ?_
  refine Go.iloadN (pc' := 16) d3_15 rfl rfl ?_
  refine Go.ldA (pc' := 17) (k := 1) (v := (.ref u1)) A_86 rfl rfl rfl d3_16 rfl ?_
  refine Go.astore (pc' := 19) (Ls' := #[.val (.int (66 : Int32)), .val (.ref e), .val (.int (5 : Int32)), .val (.int (1 : Int32)), .val (.ref u1)]) d3_17 rfl rfl rfl ?_
  refine Go.aload (pc' := 21) d3_19 rfl rfl rfl ?_
  refine Go.getF (pc' := 24) (hw _ (List.mem_of_getElem? (i := 33) rfl)) f_88 d3_21 rfl ?_
  refine Go.iloadN (pc' := 25) d3_24 rfl rfl ?_
  refine Go.icmp (pc1 := 31) (pc2 := 28) d3_25 (by decide) (by decide) rfl (fun (c_103 : (82 : Int) ≠ (66 : Int)) => ?_) (fun (c_103 : (82 : Int) = (66 : Int)) => ?_)
  rotate_left
  · exact absurd c_103 (by decide)
  refine Go.iinc (pc' := 34) (w := (2 : Int32)) (Ls' := #[.val (.int (66 : Int32)), .val (.ref e), .val (.int (5 : Int32)), .val (.int (2 : Int32)), .val (.ref u1)]) d3_31 rfl rfl rfl rfl ?_
  refine Go.goto (pc' := 9) d3_34 (by decide) (by decide) ?_
  refine Go.iloadN (pc' := 10) d3_9 rfl rfl ?_
  refine Go.iloadN (pc' := 11) d3_10 rfl rfl ?_
  refine Go.icmp (pc1 := 37) (pc2 := 14) d3_11 (by decide) (by decide) rfl (fun (c_104 : (5 : Int) ≤ (2 : Int)) => ?_) (fun (c_104 : (2 : Int) < (5 : Int)) => ?_)
  · exact absurd c_104 (by decide)
  refine Go.aloadN (pc' := 15) d3_14 rfl rfl rfl ?_
  refine Go.iloadN (pc' := 16) d3_15 rfl rfl ?_
  refine Go.ldA (pc' := 17) (k := 2) (v := (.ref u2)) A_86 rfl rfl rfl d3_16 rfl ?_
  refine Go.astore (pc' := 19) (Ls' := #[.val (.int (66 : Int32)), .val (.ref e), .val (.int (5 : Int32)), .val (.int (2 : Int32)), .val (.ref u2)]) d3_17 rfl rfl rfl ?_
  refine Go.aload (pc' := 21) d3_19 rfl rfl rfl ?_
  refine Go.getF (pc' := 24) (hw _ (List.mem_of_getElem? (i := 33) rfl)) f_89 d3_21 rfl ?_
  refine Go.iloadN (pc' := 25) d3_24 rfl rfl ?_
  refine Go.icmp (pc1 := 31) (pc2 := 28) d3_25 (by decide) (by decide) rfl (fun (c_105 : (66 : Int) ≠ (66 : Int)) => ?_) (fun (c_105 : (66 : Int) = (66 : Int)) => ?_)
  · exact absurd c_105 (by decide)
  refine Go.aload (pc' := 30) d3_28 rfl rfl rfl ?_
  exact Go.retA d3_30 rfl rfl rfl ⟨rfl, K_99⟩ (by decide) (by decide)
set_option maxRecDepth 65536 in
set_option maxHeartbeats 40000000 in
theorem m_o3 (l : Launch) (Z : State) (a0 : Array Value) (hw : ∀ d ∈ tables_1, d.before a0 Z = true) (b : Addr) (u0 u1 u2 u3 u4 : Addr) (h0 : Heap) (n0 : Nat) (z0 : n0 ≤ h0.size) (hS : Sta Z h0 "com/example/leadlight/leadlight/model/Colour" "$VALUES" "[Lcom/example/leadlight/leadlight/model/Colour;" (.ref b)) (hA : Ary Z h0 b (.object "com/example/leadlight/leadlight/model/Colour") [.ref u0, .ref u1, .ref u2, .ref u3, .ref u4]) (hE : Exa Z h0 b "[Lcom/example/leadlight/leadlight/model/Colour;") (hL0 : Fld Z h0 u0 "com/example/leadlight/leadlight/model/Colour" "letter" "C" (.int (89 : Int32))) (hL1 : Fld Z h0 u1 "com/example/leadlight/leadlight/model/Colour" "letter" "C" (.int (82 : Int32))) (hL2 : Fld Z h0 u2 "com/example/leadlight/leadlight/model/Colour" "letter" "C" (.int (66 : Int32))) (hL3 : Fld Z h0 u3 "com/example/leadlight/leadlight/model/Colour" "letter" "C" (.int (71 : Int32))) (hL4 : Fld Z h0 u4 "com/example/leadlight/leadlight/model/Colour" "letter" "C" (.int (80 : Int32))) : Mt false l Z (⟨"com/example/leadlight/leadlight/model/Colour", "ofLetter", "(C)Lcom/example/leadlight/leadlight/model/Colour;"⟩ : MethodName) prog_14_method_5_code 5 (some (.object "com/example/leadlight/leadlight/model/Colour")) ({ frames := 2, cells := 1, slots := 5, locals := 25 } : Room) n0 (fun v h => v = some (.ref u3) ∧ Keep h0 h []) h0 #[(.int (71 : Int32))] := by
  refine Mt.go (Ls := #[.val (.int (71 : Int32)), .unset, .unset, .unset, .unset]) pn1 (fun m => by rfl) ?_
  show (Go false l ({ frames := 2, cells := 1, slots := 5, locals := 25 } : Room) Z (⟨"com/example/leadlight/leadlight/model/Colour", "ofLetter", "(C)Lcom/example/leadlight/leadlight/model/Colour;"⟩ : MethodName) prog_14_method_5_code 5 (some (.object "com/example/leadlight/leadlight/model/Colour")) n0 1 5 (fun v h => v = some (.ref u3) ∧ Keep h0 h [])) h0 0 0 0 #[.val (.int (71 : Int32)), .unset, .unset, .unset, .unset] []
  refine Go.callS (pc' := 3) (argsL := []) (rest := []) (W := 0) (hw _ (List.mem_of_getElem? (i := 14) rfl)) (hw _ (List.mem_of_getElem? (i := 15) rfl)) (hw _ (List.mem_of_getElem? (i := 9) rfl)) (hw _ (List.mem_of_getElem? (i := 16) rfl)) (by decide) (m_v l Z a0 hw b u0 u1 u2 u3 u4 h0 n0 z0 hS hA hE) d3_0 rfl pd0 rfl rfl (Nat.le_of_eq rfl) (by decide) (by decide) (by decide) (by decide) rfl ?_
  rintro _ h_106 ⟨e, rfl, K_107, A_108⟩
  have f_109 : Fld Z h_106 u0 "com/example/leadlight/leadlight/model/Colour" "letter" "C" (.int (89 : Int32)) := hL0.sm (Sm.keep K_107 nin0)
  have f_110 : Fld Z h_106 u1 "com/example/leadlight/leadlight/model/Colour" "letter" "C" (.int (82 : Int32)) := hL1.sm (Sm.keep K_107 nin0)
  have f_111 : Fld Z h_106 u2 "com/example/leadlight/leadlight/model/Colour" "letter" "C" (.int (66 : Int32)) := hL2.sm (Sm.keep K_107 nin0)
  have f_112 : Fld Z h_106 u3 "com/example/leadlight/leadlight/model/Colour" "letter" "C" (.int (71 : Int32)) := hL3.sm (Sm.keep K_107 nin0)
  have f_113 : Fld Z h_106 u4 "com/example/leadlight/leadlight/model/Colour" "letter" "C" (.int (80 : Int32)) := hL4.sm (Sm.keep K_107 nin0)
  have t_114 : u0 < h_106.size := Nat.lt_of_lt_of_le hL0.lt K_107.1
  have t_115 : u1 < h_106.size := Nat.lt_of_lt_of_le hL1.lt K_107.1
  have t_116 : u2 < h_106.size := Nat.lt_of_lt_of_le hL2.lt K_107.1
  have t_117 : u3 < h_106.size := Nat.lt_of_lt_of_le hL3.lt K_107.1
  have t_118 : u4 < h_106.size := Nat.lt_of_lt_of_le hL4.lt K_107.1
  have z_119 : n0 ≤ h_106.size := Nat.le_trans z0 K_107.1
  have b_120 : h0.size ≤ h_106.size := Nat.le_trans (Nat.le_refl _) K_107.1
  have K_121 : Keep h0 h_106 [] := (Keep.refl _ _).trans K_107 all0
  show (Go false l ({ frames := 2, cells := 1, slots := 5, locals := 25 } : Room) Z (⟨"com/example/leadlight/leadlight/model/Colour", "ofLetter", "(C)Lcom/example/leadlight/leadlight/model/Colour;"⟩ : MethodName) prog_14_method_5_code 5 (some (.object "com/example/leadlight/leadlight/model/Colour")) n0 1 5 (fun v h => v = some (.ref u3) ∧ Keep h0 h [])) h_106 (0 + 1) (0 + 5) 3 #[.val (.int (71 : Int32)), .unset, .unset, .unset, .unset] [(.ref e)]
  refine Go.astoreN (pc' := 4) (Ls' := #[.val (.int (71 : Int32)), .val (.ref e), .unset, .unset, .unset]) d3_3 rfl rfl rfl ?_
  refine Go.aloadN (pc' := 5) d3_4 rfl rfl rfl ?_
  refine Go.alen (pc' := 6) (z := (5 : Int32)) A_108 rfl d3_5 rfl ?_
  refine Go.istoreN (pc' := 7) (Ls' := #[.val (.int (71 : Int32)), .val (.ref e), .val (.int (5 : Int32)), .unset, .unset]) d3_6 rfl rfl ?_
  refine Go.iconst (pc' := 8) (v := (0 : Int32)) d3_7 rfl rfl ?_
  refine Go.istoreN (pc' := 9) (Ls' := #[.val (.int (71 : Int32)), .val (.ref e), .val (.int (5 : Int32)), .val (.int (0 : Int32)), .unset]) d3_8 rfl rfl ?_
  refine Go.iloadN (pc' := 10) d3_9 rfl rfl ?_
  refine Go.iloadN (pc' := 11) d3_10 rfl rfl ?_
  refine Go.icmp (pc1 := 37) (pc2 := 14) d3_11 (by decide) (by decide) rfl (fun (c_122 : (5 : Int) ≤ (0 : Int)) => ?_) (fun (c_122 : (0 : Int) < (5 : Int)) => ?_)
  · exact absurd c_122 (by decide)
  refine Go.aloadN (pc' := 15) d3_14 rfl rfl rfl ?_
  refine Go.iloadN (pc' := 16) d3_15 rfl rfl ?_
  refine Go.ldA (pc' := 17) (k := 0) (v := (.ref u0)) A_108 rfl rfl rfl d3_16 rfl ?_
  refine Go.astore (pc' := 19) (Ls' := #[.val (.int (71 : Int32)), .val (.ref e), .val (.int (5 : Int32)), .val (.int (0 : Int32)), .val (.ref u0)]) d3_17 rfl rfl rfl ?_
  refine Go.aload (pc' := 21) d3_19 rfl rfl rfl ?_
  refine Go.getF (pc' := 24) (hw _ (List.mem_of_getElem? (i := 33) rfl)) f_109 d3_21 rfl ?_
  refine Go.iloadN (pc' := 25) d3_24 rfl rfl ?_
  refine Go.icmp (pc1 := 31) (pc2 := 28) d3_25 (by decide) (by decide) rfl (fun (c_123 : (89 : Int) ≠ (71 : Int)) => ?_) (fun (c_123 : (89 : Int) = (71 : Int)) => ?_)
  rotate_left
  · exact absurd c_123 (by decide)
  refine Go.iinc (pc' := 34) (w := (1 : Int32)) (Ls' := #[.val (.int (71 : Int32)), .val (.ref e), .val (.int (5 : Int32)), .val (.int (1 : Int32)), .val (.ref u0)]) d3_31 rfl rfl rfl rfl ?_
  refine Go.goto (pc' := 9) d3_34 (by decide) (by decide) ?_
  refine Go.iloadN (pc' := 10) d3_9 rfl rfl ?_
  refine Go.iloadN (pc' := 11) d3_10 rfl rfl ?_
  refine Go.icmp (pc1 := 37) (pc2 := 14) d3_11 (by decide) (by decide) rfl (fun (c_124 : (5 : Int) ≤ (1 : Int)) => ?_) (fun (c_124 : (1 : Int) < (5 : Int)) => ?_)
  · exact absurd c_124 (by decide)
  refine Go.aloadN (pc' := 15) d3_14 rfl rfl rfl ?_
  refine Go.iloadN (pc' := 16) d3_15 rfl rfl ?_
  refine Go.ldA (pc' := 17) (k := 1) (v := (.ref u1)) A_108 rfl rfl rfl d3_16 rfl ?_
  refine Go.astore (pc' := 19) (Ls' := #[.val (.int (71 : Int32)), .val (.ref e), .val (.int (5 : Int32)), .val (.int (1 : Int32)), .val (.ref u1)]) d3_17 rfl rfl rfl ?_
  refine Go.aload (pc' := 21) d3_19 rfl rfl rfl ?_
  refine Go.getF (pc' := 24) (hw _ (List.mem_of_getElem? (i := 33) rfl)) f_110 d3_21 rfl ?_
  refine Go.iloadN (pc' := 25) d3_24 rfl rfl ?_
  refine Go.icmp (pc1 := 31) (pc2 := 28) d3_25 (by decide) (by decide) rfl (fun (c_125 : (82 : Int) ≠ (71 : Int)) => ?_) (fun (c_125 : (82 : Int) = (71 : Int)) => ?_)
  rotate_left
  · exact absurd c_125 (by decide)
  refine Go.iinc (pc' := 34) (w := (2 : Int32)) (Ls' := #[.val (.int (71 : Int32)), .val (.ref e), .val (.int (5 : Int32)), .val (.int (2 : Int32)), .val (.ref u1)]) d3_31 rfl rfl rfl rfl ?_
  refine Go.goto (pc' := 9) d3_34 (by decide) (by decide) ?_
  refine Go.iloadN (pc' := 10) d3_9 rfl rfl ?_
  refine Go.iloadN (pc' := 11) d3_10 rfl rfl ?_
  refine Go.icmp (pc1 := 37) (pc2 := 14) d3_11 (by decide) (by decide) rfl (fun (c_126 : (5 : Int) ≤ (2 : Int)) => ?_) (fun (c_126 : (2 : Int) < (5 : Int)) => ?_)
  · exact absurd c_126 (by decide)
  refine Go.aloadN (pc' := 15) d3_14 rfl rfl rfl ?_
  refine Go.iloadN (pc' := 16) d3_15 rfl rfl ?_
  refine Go.ldA (pc' := 17) (k := 2) (v := (.ref u2)) A_108 rfl rfl rfl d3_16 rfl ?_
  refine Go.astore (pc' := 19) (Ls' := #[.val (.int (71 : Int32)), .val (.ref e), .val (.int (5 : Int32)), .val (.int (2 : Int32)), .val (.ref u2)]) d3_17 rfl rfl rfl ?_
  refine Go.aload (pc' := 21) d3_19 rfl rfl rfl ?_
  refine Go.getF (pc' := 24) (hw _ (List.mem_of_getElem? (i := 33) rfl)) f_111 d3_21 rfl ?_
  refine Go.iloadN (pc' := 25) d3_24 rfl rfl ?_
  refine Go.icmp (pc1 := 31) (pc2 := 28) d3_25 (by decide) (by decide) rfl (fun (c_127 : (66 : Int) ≠ (71 : Int)) => ?_) (fun (c_127 : (66 : Int) = (71 : Int)) => ?_)
  rotate_left
  · exact absurd c_127 (by decide)
  refine Go.iinc (pc' := 34) (w := (3 : Int32)) (Ls' := #[.val (.int (71 : Int32)), .val (.ref e), .val (.int (5 : Int32)), .val (.int (3 : Int32)), .val (.ref u2)]) d3_31 rfl rfl rfl rfl ?_
  refine Go.goto (pc' := 9) d3_34 (by decide) (by decide) ?_
  refine Go.iloadN (pc' := 10) d3_9 rfl rfl ?_
  refine Go.iloadN (pc' := 11) d3_10 rfl rfl ?_
  refine Go.icmp (pc1 := 37) (pc2 := 14) d3_11 (by decide) (by decide) rfl (fun (c_128 : (5 : Int) ≤ (3 : Int)) => ?_) (fun (c_128 : (3 : Int) < (5 : Int)) => ?_)
  · exact absurd c_128 (by decide)
  refine Go.aloadN (pc' := 15) d3_14 rfl rfl rfl ?_
  refine Go.iloadN (pc' := 16) d3_15 rfl rfl ?_
  refine Go.ldA (pc' := 17) (k := 3) (v := (.ref u3)) A_108 rfl rfl rfl d3_16 rfl ?_
  refine Go.astore (pc' := 19) (Ls' := #[.val (.int (71 : Int32)), .val (.ref e), .val (.int (5 : Int32)), .val (.int (3 : Int32)), .val (.ref u3)]) d3_17 rfl rfl rfl ?_
  refine Go.aload (pc' := 21) d3_19 rfl rfl rfl ?_
  refine Go.getF (pc' := 24) (hw _ (List.mem_of_getElem? (i := 33) rfl)) f_112 d3_21 rfl ?_
  refine Go.iloadN (pc' := 25) d3_24 rfl rfl ?_
  refine Go.icmp (pc1 := 31) (pc2 := 28) d3_25 (by decide) (by decide) rfl (fun (c_129 : (71 : Int) ≠ (71 : Int)) => ?_) (fun (c_129 : (71 : Int) = (71 : Int)) => ?_)
  · exact absurd c_129 (by decide)
  refine Go.aload (pc' := 30) d3_28 rfl rfl rfl ?_
  exact Go.retA d3_30 rfl rfl rfl ⟨rfl, K_121⟩ (by decide) (by decide)
set_option maxRecDepth 65536 in
set_option maxHeartbeats 40000000 in
theorem m_o4 (l : Launch) (Z : State) (a0 : Array Value) (hw : ∀ d ∈ tables_1, d.before a0 Z = true) (b : Addr) (u0 u1 u2 u3 u4 : Addr) (h0 : Heap) (n0 : Nat) (z0 : n0 ≤ h0.size) (hS : Sta Z h0 "com/example/leadlight/leadlight/model/Colour" "$VALUES" "[Lcom/example/leadlight/leadlight/model/Colour;" (.ref b)) (hA : Ary Z h0 b (.object "com/example/leadlight/leadlight/model/Colour") [.ref u0, .ref u1, .ref u2, .ref u3, .ref u4]) (hE : Exa Z h0 b "[Lcom/example/leadlight/leadlight/model/Colour;") (hL0 : Fld Z h0 u0 "com/example/leadlight/leadlight/model/Colour" "letter" "C" (.int (89 : Int32))) (hL1 : Fld Z h0 u1 "com/example/leadlight/leadlight/model/Colour" "letter" "C" (.int (82 : Int32))) (hL2 : Fld Z h0 u2 "com/example/leadlight/leadlight/model/Colour" "letter" "C" (.int (66 : Int32))) (hL3 : Fld Z h0 u3 "com/example/leadlight/leadlight/model/Colour" "letter" "C" (.int (71 : Int32))) (hL4 : Fld Z h0 u4 "com/example/leadlight/leadlight/model/Colour" "letter" "C" (.int (80 : Int32))) : Mt false l Z (⟨"com/example/leadlight/leadlight/model/Colour", "ofLetter", "(C)Lcom/example/leadlight/leadlight/model/Colour;"⟩ : MethodName) prog_14_method_5_code 5 (some (.object "com/example/leadlight/leadlight/model/Colour")) ({ frames := 2, cells := 1, slots := 5, locals := 25 } : Room) n0 (fun v h => v = some (.ref u4) ∧ Keep h0 h []) h0 #[(.int (80 : Int32))] := by
  refine Mt.go (Ls := #[.val (.int (80 : Int32)), .unset, .unset, .unset, .unset]) pn1 (fun m => by rfl) ?_
  show (Go false l ({ frames := 2, cells := 1, slots := 5, locals := 25 } : Room) Z (⟨"com/example/leadlight/leadlight/model/Colour", "ofLetter", "(C)Lcom/example/leadlight/leadlight/model/Colour;"⟩ : MethodName) prog_14_method_5_code 5 (some (.object "com/example/leadlight/leadlight/model/Colour")) n0 1 5 (fun v h => v = some (.ref u4) ∧ Keep h0 h [])) h0 0 0 0 #[.val (.int (80 : Int32)), .unset, .unset, .unset, .unset] []
  refine Go.callS (pc' := 3) (argsL := []) (rest := []) (W := 0) (hw _ (List.mem_of_getElem? (i := 14) rfl)) (hw _ (List.mem_of_getElem? (i := 15) rfl)) (hw _ (List.mem_of_getElem? (i := 9) rfl)) (hw _ (List.mem_of_getElem? (i := 16) rfl)) (by decide) (m_v l Z a0 hw b u0 u1 u2 u3 u4 h0 n0 z0 hS hA hE) d3_0 rfl pd0 rfl rfl (Nat.le_of_eq rfl) (by decide) (by decide) (by decide) (by decide) rfl ?_
  rintro _ h_130 ⟨e, rfl, K_131, A_132⟩
  have f_133 : Fld Z h_130 u0 "com/example/leadlight/leadlight/model/Colour" "letter" "C" (.int (89 : Int32)) := hL0.sm (Sm.keep K_131 nin0)
  have f_134 : Fld Z h_130 u1 "com/example/leadlight/leadlight/model/Colour" "letter" "C" (.int (82 : Int32)) := hL1.sm (Sm.keep K_131 nin0)
  have f_135 : Fld Z h_130 u2 "com/example/leadlight/leadlight/model/Colour" "letter" "C" (.int (66 : Int32)) := hL2.sm (Sm.keep K_131 nin0)
  have f_136 : Fld Z h_130 u3 "com/example/leadlight/leadlight/model/Colour" "letter" "C" (.int (71 : Int32)) := hL3.sm (Sm.keep K_131 nin0)
  have f_137 : Fld Z h_130 u4 "com/example/leadlight/leadlight/model/Colour" "letter" "C" (.int (80 : Int32)) := hL4.sm (Sm.keep K_131 nin0)
  have t_138 : u0 < h_130.size := Nat.lt_of_lt_of_le hL0.lt K_131.1
  have t_139 : u1 < h_130.size := Nat.lt_of_lt_of_le hL1.lt K_131.1
  have t_140 : u2 < h_130.size := Nat.lt_of_lt_of_le hL2.lt K_131.1
  have t_141 : u3 < h_130.size := Nat.lt_of_lt_of_le hL3.lt K_131.1
  have t_142 : u4 < h_130.size := Nat.lt_of_lt_of_le hL4.lt K_131.1
  have z_143 : n0 ≤ h_130.size := Nat.le_trans z0 K_131.1
  have b_144 : h0.size ≤ h_130.size := Nat.le_trans (Nat.le_refl _) K_131.1
  have K_145 : Keep h0 h_130 [] := (Keep.refl _ _).trans K_131 all0
  show (Go false l ({ frames := 2, cells := 1, slots := 5, locals := 25 } : Room) Z (⟨"com/example/leadlight/leadlight/model/Colour", "ofLetter", "(C)Lcom/example/leadlight/leadlight/model/Colour;"⟩ : MethodName) prog_14_method_5_code 5 (some (.object "com/example/leadlight/leadlight/model/Colour")) n0 1 5 (fun v h => v = some (.ref u4) ∧ Keep h0 h [])) h_130 (0 + 1) (0 + 5) 3 #[.val (.int (80 : Int32)), .unset, .unset, .unset, .unset] [(.ref e)]
  refine Go.astoreN (pc' := 4) (Ls' := #[.val (.int (80 : Int32)), .val (.ref e), .unset, .unset, .unset]) d3_3 rfl rfl rfl ?_
  refine Go.aloadN (pc' := 5) d3_4 rfl rfl rfl ?_
  refine Go.alen (pc' := 6) (z := (5 : Int32)) A_132 rfl d3_5 rfl ?_
  refine Go.istoreN (pc' := 7) (Ls' := #[.val (.int (80 : Int32)), .val (.ref e), .val (.int (5 : Int32)), .unset, .unset]) d3_6 rfl rfl ?_
  refine Go.iconst (pc' := 8) (v := (0 : Int32)) d3_7 rfl rfl ?_
  refine Go.istoreN (pc' := 9) (Ls' := #[.val (.int (80 : Int32)), .val (.ref e), .val (.int (5 : Int32)), .val (.int (0 : Int32)), .unset]) d3_8 rfl rfl ?_
  refine Go.iloadN (pc' := 10) d3_9 rfl rfl ?_
  refine Go.iloadN (pc' := 11) d3_10 rfl rfl ?_
  refine Go.icmp (pc1 := 37) (pc2 := 14) d3_11 (by decide) (by decide) rfl (fun (c_146 : (5 : Int) ≤ (0 : Int)) => ?_) (fun (c_146 : (0 : Int) < (5 : Int)) => ?_)
  · exact absurd c_146 (by decide)
  refine Go.aloadN (pc' := 15) d3_14 rfl rfl rfl ?_
  refine Go.iloadN (pc' := 16) d3_15 rfl rfl ?_
  refine Go.ldA (pc' := 17) (k := 0) (v := (.ref u0)) A_132 rfl rfl rfl d3_16 rfl ?_
  refine Go.astore (pc' := 19) (Ls' := #[.val (.int (80 : Int32)), .val (.ref e), .val (.int (5 : Int32)), .val (.int (0 : Int32)), .val (.ref u0)]) d3_17 rfl rfl rfl ?_
  refine Go.aload (pc' := 21) d3_19 rfl rfl rfl ?_
  refine Go.getF (pc' := 24) (hw _ (List.mem_of_getElem? (i := 33) rfl)) f_133 d3_21 rfl ?_
  refine Go.iloadN (pc' := 25) d3_24 rfl rfl ?_
  refine Go.icmp (pc1 := 31) (pc2 := 28) d3_25 (by decide) (by decide) rfl (fun (c_147 : (89 : Int) ≠ (80 : Int)) => ?_) (fun (c_147 : (89 : Int) = (80 : Int)) => ?_)
  rotate_left
  · exact absurd c_147 (by decide)
  refine Go.iinc (pc' := 34) (w := (1 : Int32)) (Ls' := #[.val (.int (80 : Int32)), .val (.ref e), .val (.int (5 : Int32)), .val (.int (1 : Int32)), .val (.ref u0)]) d3_31 rfl rfl rfl rfl ?_
  refine Go.goto (pc' := 9) d3_34 (by decide) (by decide) ?_
  refine Go.iloadN (pc' := 10) d3_9 rfl rfl ?_
  refine Go.iloadN (pc' := 11) d3_10 rfl rfl ?_
  refine Go.icmp (pc1 := 37) (pc2 := 14) d3_11 (by decide) (by decide) rfl (fun (c_148 : (5 : Int) ≤ (1 : Int)) => ?_) (fun (c_148 : (1 : Int) < (5 : Int)) => ?_)
  · exact absurd c_148 (by decide)
  refine Go.aloadN (pc' := 15) d3_14 rfl rfl rfl ?_
  refine Go.iloadN (pc' := 16) d3_15 rfl rfl ?_
  refine Go.ldA (pc' := 17) (k := 1) (v := (.ref u1)) A_132 rfl rfl rfl d3_16 rfl ?_
  refine Go.astore (pc' := 19) (Ls' := #[.val (.int (80 : Int32)), .val (.ref e), .val (.int (5 : Int32)), .val (.int (1 : Int32)), .val (.ref u1)]) d3_17 rfl rfl rfl ?_
  refine Go.aload (pc' := 21) d3_19 rfl rfl rfl ?_
  refine Go.getF (pc' := 24) (hw _ (List.mem_of_getElem? (i := 33) rfl)) f_134 d3_21 rfl ?_
  refine Go.iloadN (pc' := 25) d3_24 rfl rfl ?_
  refine Go.icmp (pc1 := 31) (pc2 := 28) d3_25 (by decide) (by decide) rfl (fun (c_149 : (82 : Int) ≠ (80 : Int)) => ?_) (fun (c_149 : (82 : Int) = (80 : Int)) => ?_)
  rotate_left
  · exact absurd c_149 (by decide)
  refine Go.iinc (pc' := 34) (w := (2 : Int32)) (Ls' := #[.val (.int (80 : Int32)), .val (.ref e), .val (.int (5 : Int32)), .val (.int (2 : Int32)), .val (.ref u1)]) d3_31 rfl rfl rfl rfl ?_
  refine Go.goto (pc' := 9) d3_34 (by decide) (by decide) ?_
  refine Go.iloadN (pc' := 10) d3_9 rfl rfl ?_
  refine Go.iloadN (pc' := 11) d3_10 rfl rfl ?_
  refine Go.icmp (pc1 := 37) (pc2 := 14) d3_11 (by decide) (by decide) rfl (fun (c_150 : (5 : Int) ≤ (2 : Int)) => ?_) (fun (c_150 : (2 : Int) < (5 : Int)) => ?_)
  · exact absurd c_150 (by decide)
  refine Go.aloadN (pc' := 15) d3_14 rfl rfl rfl ?_
  refine Go.iloadN (pc' := 16) d3_15 rfl rfl ?_
  refine Go.ldA (pc' := 17) (k := 2) (v := (.ref u2)) A_132 rfl rfl rfl d3_16 rfl ?_
  refine Go.astore (pc' := 19) (Ls' := #[.val (.int (80 : Int32)), .val (.ref e), .val (.int (5 : Int32)), .val (.int (2 : Int32)), .val (.ref u2)]) d3_17 rfl rfl rfl ?_
  refine Go.aload (pc' := 21) d3_19 rfl rfl rfl ?_
  refine Go.getF (pc' := 24) (hw _ (List.mem_of_getElem? (i := 33) rfl)) f_135 d3_21 rfl ?_
  refine Go.iloadN (pc' := 25) d3_24 rfl rfl ?_
  refine Go.icmp (pc1 := 31) (pc2 := 28) d3_25 (by decide) (by decide) rfl (fun (c_151 : (66 : Int) ≠ (80 : Int)) => ?_) (fun (c_151 : (66 : Int) = (80 : Int)) => ?_)
  rotate_left
  · exact absurd c_151 (by decide)
  refine Go.iinc (pc' := 34) (w := (3 : Int32)) (Ls' := #[.val (.int (80 : Int32)), .val (.ref e), .val (.int (5 : Int32)), .val (.int (3 : Int32)), .val (.ref u2)]) d3_31 rfl rfl rfl rfl ?_
  refine Go.goto (pc' := 9) d3_34 (by decide) (by decide) ?_
  refine Go.iloadN (pc' := 10) d3_9 rfl rfl ?_
  refine Go.iloadN (pc' := 11) d3_10 rfl rfl ?_
  refine Go.icmp (pc1 := 37) (pc2 := 14) d3_11 (by decide) (by decide) rfl (fun (c_152 : (5 : Int) ≤ (3 : Int)) => ?_) (fun (c_152 : (3 : Int) < (5 : Int)) => ?_)
  · exact absurd c_152 (by decide)
  refine Go.aloadN (pc' := 15) d3_14 rfl rfl rfl ?_
  refine Go.iloadN (pc' := 16) d3_15 rfl rfl ?_
  refine Go.ldA (pc' := 17) (k := 3) (v := (.ref u3)) A_132 rfl rfl rfl d3_16 rfl ?_
  refine Go.astore (pc' := 19) (Ls' := #[.val (.int (80 : Int32)), .val (.ref e), .val (.int (5 : Int32)), .val (.int (3 : Int32)), .val (.ref u3)]) d3_17 rfl rfl rfl ?_
  refine Go.aload (pc' := 21) d3_19 rfl rfl rfl ?_
  refine Go.getF (pc' := 24) (hw _ (List.mem_of_getElem? (i := 33) rfl)) f_136 d3_21 rfl ?_
  refine Go.iloadN (pc' := 25) d3_24 rfl rfl ?_
  refine Go.icmp (pc1 := 31) (pc2 := 28) d3_25 (by decide) (by decide) rfl (fun (c_153 : (71 : Int) ≠ (80 : Int)) => ?_) (fun (c_153 : (71 : Int) = (80 : Int)) => ?_)
  rotate_left
  · exact absurd c_153 (by decide)
  refine Go.iinc (pc' := 34) (w := (4 : Int32)) (Ls' := #[.val (.int (80 : Int32)), .val (.ref e), .val (.int (5 : Int32)), .val (.int (4 : Int32)), .val (.ref u3)]) d3_31 rfl rfl rfl rfl ?_
  refine Go.goto (pc' := 9) d3_34 (by decide) (by decide) ?_
  refine Go.iloadN (pc' := 10) d3_9 rfl rfl ?_
  refine Go.iloadN (pc' := 11) d3_10 rfl rfl ?_
  refine Go.icmp (pc1 := 37) (pc2 := 14) d3_11 (by decide) (by decide) rfl (fun (c_154 : (5 : Int) ≤ (4 : Int)) => ?_) (fun (c_154 : (4 : Int) < (5 : Int)) => ?_)
  · exact absurd c_154 (by decide)
  refine Go.aloadN (pc' := 15) d3_14 rfl rfl rfl ?_
  refine Go.iloadN (pc' := 16) d3_15 rfl rfl ?_
  refine Go.ldA (pc' := 17) (k := 4) (v := (.ref u4)) A_132 rfl rfl rfl d3_16 rfl ?_
  refine Go.astore (pc' := 19) (Ls' := #[.val (.int (80 : Int32)), .val (.ref e), .val (.int (5 : Int32)), .val (.int (4 : Int32)), .val (.ref u4)]) d3_17 rfl rfl rfl ?_
  refine Go.aload (pc' := 21) d3_19 rfl rfl rfl ?_
  refine Go.getF (pc' := 24) (hw _ (List.mem_of_getElem? (i := 33) rfl)) f_137 d3_21 rfl ?_
  refine Go.iloadN (pc' := 25) d3_24 rfl rfl ?_
  refine Go.icmp (pc1 := 31) (pc2 := 28) d3_25 (by decide) (by decide) rfl (fun (c_155 : (80 : Int) ≠ (80 : Int)) => ?_) (fun (c_155 : (80 : Int) = (80 : Int)) => ?_)
  · exact absurd c_155 (by decide)
  refine Go.aload (pc' := 30) d3_28 rfl rfl rfl ?_
  exact Go.retA d3_30 rfl rfl rfl ⟨rfl, K_145⟩ (by decide) (by decide)
set_option maxRecDepth 65536 in
set_option maxHeartbeats 40000000 in
theorem m_t (l : Launch) (Z : State) (a0 : Array Value) (hw : ∀ d ∈ tables_1, d.before a0 Z = true) (a : Addr) (c : Int32) (h0 : Heap) (n0 : Nat) (z0 : n0 ≤ h0.size) (hL : Fld Z h0 a "com/example/leadlight/leadlight/model/Colour" "letter" "C" (.int c)) (hc : nar .char c = c) : Mt false l Z (⟨"com/example/leadlight/leadlight/model/Colour", "letter", "()C"⟩ : MethodName) prog_14_method_4_code 1 (some .char) ({ frames := 0, cells := 0, slots := 0, locals := 0 } : Room) n0 (fun v h => v = some (.int c) ∧ h0 = h) h0 #[(.ref a)] := by
  refine Mt.go (Ls := #[.val (.ref a)]) pn1 (fun m => by rfl) ?_
  show (Go false l ({ frames := 0, cells := 0, slots := 0, locals := 0 } : Room) Z (⟨"com/example/leadlight/leadlight/model/Colour", "letter", "()C"⟩ : MethodName) prog_14_method_4_code 1 (some .char) n0 0 0 (fun v h => v = some (.int c) ∧ h0 = h)) h0 0 0 0 #[.val (.ref a)] []
  refine Go.aloadN (pc' := 1) d5_0 rfl rfl rfl ?_
  refine Go.getF (pc' := 4) (hw _ (List.mem_of_getElem? (i := 33) rfl)) hL d5_1 rfl ?_
  exact Go.retN (t := .char) d5_4 rfl (by simp) hc ⟨rfl, rfl⟩ (by decide) (by decide)
set_option maxRecDepth 65536 in
set_option maxHeartbeats 40000000 in
theorem rm1 (l : Launch) (Z : State) (a0 : Array Value) (hw : ∀ d ∈ tables_1, d.before a0 Z = true) (ws : List Jvm.Cond) (k0 : Int32) (b u0 u1 u2 u3 u4 : Addr) (h0 : Heap) (n0 : Nat) (z0 : n0 ≤ h0.size) (hSV : Sta Z h0 "com/example/leadlight/leadlight/model/Colour" "$VALUES" "[Lcom/example/leadlight/leadlight/model/Colour;" (.ref b)) (hA : Ary Z h0 b (.object "com/example/leadlight/leadlight/model/Colour") [.ref u0, .ref u1, .ref u2, .ref u3, .ref u4]) (hE : Exa Z h0 b "[Lcom/example/leadlight/leadlight/model/Colour;") (hS0 : Sta Z h0 "com/example/leadlight/leadlight/model/Colour" "YELLOW" "Lcom/example/leadlight/leadlight/model/Colour;" (.ref u0)) (hE0 : Exa Z h0 u0 "com/example/leadlight/leadlight/model/Colour") (hL0 : Fld Z h0 u0 "com/example/leadlight/leadlight/model/Colour" "letter" "C" (.int (89 : Int32))) (hS1 : Sta Z h0 "com/example/leadlight/leadlight/model/Colour" "RED" "Lcom/example/leadlight/leadlight/model/Colour;" (.ref u1)) (hE1 : Exa Z h0 u1 "com/example/leadlight/leadlight/model/Colour") (hL1 : Fld Z h0 u1 "com/example/leadlight/leadlight/model/Colour" "letter" "C" (.int (82 : Int32))) (hS2 : Sta Z h0 "com/example/leadlight/leadlight/model/Colour" "BLUE" "Lcom/example/leadlight/leadlight/model/Colour;" (.ref u2)) (hE2 : Exa Z h0 u2 "com/example/leadlight/leadlight/model/Colour") (hL2 : Fld Z h0 u2 "com/example/leadlight/leadlight/model/Colour" "letter" "C" (.int (66 : Int32))) (hS3 : Sta Z h0 "com/example/leadlight/leadlight/model/Colour" "GREEN" "Lcom/example/leadlight/leadlight/model/Colour;" (.ref u3)) (hE3 : Exa Z h0 u3 "com/example/leadlight/leadlight/model/Colour") (hL3 : Fld Z h0 u3 "com/example/leadlight/leadlight/model/Colour" "letter" "C" (.int (71 : Int32))) (hS4 : Sta Z h0 "com/example/leadlight/leadlight/model/Colour" "PURPLE" "Lcom/example/leadlight/leadlight/model/Colour;" (.ref u4)) (hE4 : Exa Z h0 u4 "com/example/leadlight/leadlight/model/Colour") (hL4 : Fld Z h0 u4 "com/example/leadlight/leadlight/model/Colour" "letter" "C" (.int (80 : Int32))) : MetFree l x (head1 (Jvm.Cond.code x code maxLocals ret :: ws) room_1) (fun a U => a = #[(.int k0)] ∧ Z.Warmed39 U.vm ∧ U.heap = h0) (fun _ _ _ _ _ => True) (fun _ U o U' => ∃ v L, o = .returned v ∧ (((fun v h => v = some (.int 1)) v U'.heap ∧ h0.size ≤ U'.heap.size) ∧ Fr n0 L) ∧ GoEnd false U o U' L 16 128) := by
  refine met_go (y := x) (Q := fun v h => v = some (.int 1)) (Ls := #[.val (.int k0), .unset, .unset, .unset, .unset]) pn0 (fun m => by first | rfl | (simp [entryFrame, mkF, argsToLocals, Value.category, maxLocals]; done)) ?_
  show (Go false l room_1 Z x code maxLocals ret n0 16 128 (fun v h => v = some (.int 1))) h0 0 0 0 #[.val (.int k0), .unset, .unset, .unset, .unset] []
  refine Go.iloadN (pc' := 1) at_0 rfl rfl ?_
  refine Go.ldcI (pc' := 3) (hw _ (List.mem_of_getElem? (i := 0) rfl)) at_1 rfl ?_
  refine Go.iand (pc' := 4) at_3 rfl ?_
  refine Go.iconst (pc' := 5) (v := (5 : Int32)) at_4 rfl rfl ?_
  refine Go.irem (pc' := 6) at_5 (by decide) rfl ?_
  generalize ei_156 : (k0 &&& (2147483647 : Int32)) % (5 : Int32) = i_156
  have k_157 : i_156.toInt = 0 ∨ i_156.toInt = 1 ∨ i_156.toInt = 2 ∨ i_156.toInt = 3 ∨ i_156.toInt = 4 := by
    rw [← ei_156]
    have : (2147483647 : Int32).toInt = 2147483647 := by decide
    have := c_mask k0 (2147483647 : Int32) 31 (by decide) (by decide)
    have := rng32 (k0 &&& (2147483647 : Int32))
    have := rng32 k0
    have : (5 : Int32).toInt = 5 := by decide
    have := c_irem (k0 &&& (2147483647 : Int32)) (5 : Int32) 5 (by decide)
    have := rng32 ((k0 &&& (2147483647 : Int32)) % (5 : Int32))
    omega
  clear ei_156
  rcases k_157 with k_157 | k_157 | k_157 | k_157 | k_157
  · obtain rfl : i_156 = (0 : Int32) := Int32.toInt_inj.mp k_157
    refine Go.istoreN (pc' := 7) (Ls' := #[.val (.int k0), .val (.int (0 : Int32)), .unset, .unset, .unset]) at_6 rfl rfl ?_
    refine Go.iloadN (pc' := 8) at_7 rfl rfl ?_
    refine Go.callS (pc' := 11) (argsL := [(.int (0 : Int32))]) (rest := []) (W := 0) (hw _ (List.mem_of_getElem? (i := 1) rfl)) (hw _ (List.mem_of_getElem? (i := 2) rfl)) (hw _ (List.mem_of_getElem? (i := 3) rfl)) (hw _ (List.mem_of_getElem? (i := 4) rfl)) (by decide) (m_l0 l Z a0 hw h0 n0 z0) at_8 rfl pd1 rfl rfl (Nat.le_of_eq rfl) (by decide) (by decide) (by decide) (by decide) rfl ?_
    rintro _ _ ⟨rfl, rfl⟩
    show (Go false l room_1 Z x code maxLocals ret n0 16 128 (fun v h => v = some (.int 1))) h0 (0 + 0) (0 + 0) 11 #[.val (.int k0), .val (.int (0 : Int32)), .unset, .unset, .unset] [(.int (89 : Int32))]
    refine Go.istoreN (pc' := 12) (Ls' := #[.val (.int k0), .val (.int (0 : Int32)), .val (.int (89 : Int32)), .unset, .unset]) at_11 rfl rfl ?_
    refine Go.iloadN (pc' := 13) at_12 rfl rfl ?_
    refine Go.callS (pc' := 16) (argsL := [(.int (0 : Int32))]) (rest := []) (W := 0) (hw _ (List.mem_of_getElem? (i := 5) rfl)) (hw _ (List.mem_of_getElem? (i := 6) rfl)) (hw _ (List.mem_of_getElem? (i := 3) rfl)) (hw _ (List.mem_of_getElem? (i := 7) rfl)) (by decide) (m_c0 l Z a0 hw u0 h0 n0 z0 hS0) at_13 rfl pd2 rfl rfl (Nat.le_of_eq rfl) (by decide) (by decide) (by decide) (by decide) rfl ?_
    rintro _ _ ⟨rfl, rfl⟩
    show (Go false l room_1 Z x code maxLocals ret n0 16 128 (fun v h => v = some (.int 1))) h0 (0 + 0 + 0) (0 + 0 + 0) 16 #[.val (.int k0), .val (.int (0 : Int32)), .val (.int (89 : Int32)), .unset, .unset] [(.ref u0)]
    refine Go.astoreN (pc' := 17) (Ls' := #[.val (.int k0), .val (.int (0 : Int32)), .val (.int (89 : Int32)), .val (.ref u0), .unset]) at_16 rfl rfl rfl ?_
    refine Go.iloadN (pc' := 18) at_17 rfl rfl ?_
    refine Go.callS (pc' := 21) (argsL := [(.int (89 : Int32))]) (rest := []) (W := 0) (hw _ (List.mem_of_getElem? (i := 11) rfl)) (hw _ (List.mem_of_getElem? (i := 12) rfl)) (hw _ (List.mem_of_getElem? (i := 9) rfl)) (hw _ (List.mem_of_getElem? (i := 13) rfl)) (by decide) (m_o0 l Z a0 hw b u0 u1 u2 u3 u4 h0 n0 z0 hSV hA hE hL0 hL1 hL2 hL3 hL4) at_18 rfl pd3 rfl rfl (Nat.le_of_eq rfl) (by decide) (by decide) (by decide) (by decide) rfl ?_
    rintro _ h_158 ⟨rfl, K_159⟩
    have f_160 : Ary Z h_158 b (.object "com/example/leadlight/leadlight/model/Colour") [(.ref u0), (.ref u1), (.ref u2), (.ref u3), (.ref u4)] := hA.sm (Sm.keep K_159 nin0)
    have f_161 : Exa Z h_158 b "[Lcom/example/leadlight/leadlight/model/Colour;" := hE.sm (Sm.keep K_159 nin0)
    have f_162 : Exa Z h_158 u0 "com/example/leadlight/leadlight/model/Colour" := hE0.sm (Sm.keep K_159 nin0)
    have f_163 : Fld Z h_158 u0 "com/example/leadlight/leadlight/model/Colour" "letter" "C" (.int (89 : Int32)) := hL0.sm (Sm.keep K_159 nin0)
    have f_164 : Exa Z h_158 u1 "com/example/leadlight/leadlight/model/Colour" := hE1.sm (Sm.keep K_159 nin0)
    have f_165 : Fld Z h_158 u1 "com/example/leadlight/leadlight/model/Colour" "letter" "C" (.int (82 : Int32)) := hL1.sm (Sm.keep K_159 nin0)
    have f_166 : Exa Z h_158 u2 "com/example/leadlight/leadlight/model/Colour" := hE2.sm (Sm.keep K_159 nin0)
    have f_167 : Fld Z h_158 u2 "com/example/leadlight/leadlight/model/Colour" "letter" "C" (.int (66 : Int32)) := hL2.sm (Sm.keep K_159 nin0)
    have f_168 : Exa Z h_158 u3 "com/example/leadlight/leadlight/model/Colour" := hE3.sm (Sm.keep K_159 nin0)
    have f_169 : Fld Z h_158 u3 "com/example/leadlight/leadlight/model/Colour" "letter" "C" (.int (71 : Int32)) := hL3.sm (Sm.keep K_159 nin0)
    have f_170 : Exa Z h_158 u4 "com/example/leadlight/leadlight/model/Colour" := hE4.sm (Sm.keep K_159 nin0)
    have f_171 : Fld Z h_158 u4 "com/example/leadlight/leadlight/model/Colour" "letter" "C" (.int (80 : Int32)) := hL4.sm (Sm.keep K_159 nin0)
    have t_172 : b < h_158.size := Nat.lt_of_lt_of_le hA.lt K_159.1
    have t_173 : u0 < h_158.size := Nat.lt_of_lt_of_le hE0.lt K_159.1
    have t_174 : u1 < h_158.size := Nat.lt_of_lt_of_le hE1.lt K_159.1
    have t_175 : u2 < h_158.size := Nat.lt_of_lt_of_le hE2.lt K_159.1
    have t_176 : u3 < h_158.size := Nat.lt_of_lt_of_le hE3.lt K_159.1
    have t_177 : u4 < h_158.size := Nat.lt_of_lt_of_le hE4.lt K_159.1
    have z_178 : n0 ≤ h_158.size := Nat.le_trans z0 K_159.1
    show (Go false l room_1 Z x code maxLocals ret n0 16 128 (fun v h => v = some (.int 1))) h_158 (0 + 0 + 0 + 1) (0 + 0 + 0 + 5) 21 #[.val (.int k0), .val (.int (0 : Int32)), .val (.int (89 : Int32)), .val (.ref u0), .unset] [(.ref u0)]
    refine Go.astore (pc' := 23) (Ls' := #[.val (.int k0), .val (.int (0 : Int32)), .val (.int (89 : Int32)), .val (.ref u0), .val (.ref u0)]) at_21 rfl rfl rfl ?_
    refine Go.aload (pc' := 25) at_23 rfl rfl rfl ?_
    refine Go.aloadN (pc' := 26) at_25 rfl rfl rfl ?_
    refine Go.acmp (pc1 := 29) (pc2 := 42) at_26 rfl rfl (by decide) (by decide) (by decide) (fun c_179 => ?_) (fun c_179 => absurd rfl c_179)
    refine Go.aload (pc' := 31) at_29 rfl rfl rfl ?_
    refine Go.callV (pc' := 34) (argsL := []) (rest := []) (W := 0) (hw _ (List.mem_of_getElem? (i := 35) rfl)) (hw _ (List.mem_of_getElem? (i := 36) rfl)) (hw _ (List.mem_of_getElem? (i := 38) rfl)) (hw _ (List.mem_of_getElem? (i := 37) rfl)) (hw _ (List.mem_of_getElem? (i := 9) rfl)) (hw _ (List.mem_of_getElem? (i := 39) rfl)) (by decide) f_162 (m_t l Z a0 hw u0 (89 : Int32) h_158 n0 z_178 f_163 (by decide)) at_31 rfl pd4 rfl rfl (Nat.le_of_eq rfl) (by decide) (by decide) (by decide) (by decide) rfl ?_
    rintro _ _ ⟨rfl, rfl⟩
    show (Go false l room_1 Z x code maxLocals ret n0 16 128 (fun v h => v = some (.int 1))) h_158 (0 + 0 + 0 + 1 + 0) (0 + 0 + 0 + 5 + 0) 34 #[.val (.int k0), .val (.int (0 : Int32)), .val (.int (89 : Int32)), .val (.ref u0), .val (.ref u0)] [(.int (89 : Int32))]
    refine Go.iloadN (pc' := 35) at_34 rfl rfl ?_
    refine Go.icmp (pc1 := 42) (pc2 := 38) at_35 (by decide) (by decide) rfl (fun (c_180 : (89 : Int) ≠ (89 : Int)) => ?_) (fun (c_180 : (89 : Int) = (89 : Int)) => ?_)
    · exact absurd c_180 (by decide)
    refine Go.iconst (pc' := 39) (v := (1 : Int32)) at_38 rfl rfl ?_
    refine Go.goto (pc' := 43) at_39 (by decide) (by decide) ?_
    exact Go.retN (t := .boolean) at_43 rfl (by simp) rfl rfl (by decide) (by decide)
  · obtain rfl : i_156 = (1 : Int32) := Int32.toInt_inj.mp k_157
    refine Go.istoreN (pc' := 7) (Ls' := #[.val (.int k0), .val (.int (1 : Int32)), .unset, .unset, .unset]) at_6 rfl rfl ?_
    refine Go.iloadN (pc' := 8) at_7 rfl rfl ?_
    refine Go.callS (pc' := 11) (argsL := [(.int (1 : Int32))]) (rest := []) (W := 0) (hw _ (List.mem_of_getElem? (i := 1) rfl)) (hw _ (List.mem_of_getElem? (i := 2) rfl)) (hw _ (List.mem_of_getElem? (i := 3) rfl)) (hw _ (List.mem_of_getElem? (i := 4) rfl)) (by decide) (m_l1 l Z a0 hw h0 n0 z0) at_8 rfl pd1 rfl rfl (Nat.le_of_eq rfl) (by decide) (by decide) (by decide) (by decide) rfl ?_
    rintro _ _ ⟨rfl, rfl⟩
    show (Go false l room_1 Z x code maxLocals ret n0 16 128 (fun v h => v = some (.int 1))) h0 (0 + 0) (0 + 0) 11 #[.val (.int k0), .val (.int (1 : Int32)), .unset, .unset, .unset] [(.int (82 : Int32))]
    refine Go.istoreN (pc' := 12) (Ls' := #[.val (.int k0), .val (.int (1 : Int32)), .val (.int (82 : Int32)), .unset, .unset]) at_11 rfl rfl ?_
    refine Go.iloadN (pc' := 13) at_12 rfl rfl ?_
    refine Go.callS (pc' := 16) (argsL := [(.int (1 : Int32))]) (rest := []) (W := 0) (hw _ (List.mem_of_getElem? (i := 5) rfl)) (hw _ (List.mem_of_getElem? (i := 6) rfl)) (hw _ (List.mem_of_getElem? (i := 3) rfl)) (hw _ (List.mem_of_getElem? (i := 7) rfl)) (by decide) (m_c1 l Z a0 hw u1 h0 n0 z0 hS1) at_13 rfl pd2 rfl rfl (Nat.le_of_eq rfl) (by decide) (by decide) (by decide) (by decide) rfl ?_
    rintro _ _ ⟨rfl, rfl⟩
    show (Go false l room_1 Z x code maxLocals ret n0 16 128 (fun v h => v = some (.int 1))) h0 (0 + 0 + 0) (0 + 0 + 0) 16 #[.val (.int k0), .val (.int (1 : Int32)), .val (.int (82 : Int32)), .unset, .unset] [(.ref u1)]
    refine Go.astoreN (pc' := 17) (Ls' := #[.val (.int k0), .val (.int (1 : Int32)), .val (.int (82 : Int32)), .val (.ref u1), .unset]) at_16 rfl rfl rfl ?_
    refine Go.iloadN (pc' := 18) at_17 rfl rfl ?_
    refine Go.callS (pc' := 21) (argsL := [(.int (82 : Int32))]) (rest := []) (W := 0) (hw _ (List.mem_of_getElem? (i := 11) rfl)) (hw _ (List.mem_of_getElem? (i := 12) rfl)) (hw _ (List.mem_of_getElem? (i := 9) rfl)) (hw _ (List.mem_of_getElem? (i := 13) rfl)) (by decide) (m_o1 l Z a0 hw b u0 u1 u2 u3 u4 h0 n0 z0 hSV hA hE hL0 hL1 hL2 hL3 hL4) at_18 rfl pd3 rfl rfl (Nat.le_of_eq rfl) (by decide) (by decide) (by decide) (by decide) rfl ?_
    rintro _ h_181 ⟨rfl, K_182⟩
    have f_183 : Ary Z h_181 b (.object "com/example/leadlight/leadlight/model/Colour") [(.ref u0), (.ref u1), (.ref u2), (.ref u3), (.ref u4)] := hA.sm (Sm.keep K_182 nin0)
    have f_184 : Exa Z h_181 b "[Lcom/example/leadlight/leadlight/model/Colour;" := hE.sm (Sm.keep K_182 nin0)
    have f_185 : Exa Z h_181 u0 "com/example/leadlight/leadlight/model/Colour" := hE0.sm (Sm.keep K_182 nin0)
    have f_186 : Fld Z h_181 u0 "com/example/leadlight/leadlight/model/Colour" "letter" "C" (.int (89 : Int32)) := hL0.sm (Sm.keep K_182 nin0)
    have f_187 : Exa Z h_181 u1 "com/example/leadlight/leadlight/model/Colour" := hE1.sm (Sm.keep K_182 nin0)
    have f_188 : Fld Z h_181 u1 "com/example/leadlight/leadlight/model/Colour" "letter" "C" (.int (82 : Int32)) := hL1.sm (Sm.keep K_182 nin0)
    have f_189 : Exa Z h_181 u2 "com/example/leadlight/leadlight/model/Colour" := hE2.sm (Sm.keep K_182 nin0)
    have f_190 : Fld Z h_181 u2 "com/example/leadlight/leadlight/model/Colour" "letter" "C" (.int (66 : Int32)) := hL2.sm (Sm.keep K_182 nin0)
    have f_191 : Exa Z h_181 u3 "com/example/leadlight/leadlight/model/Colour" := hE3.sm (Sm.keep K_182 nin0)
    have f_192 : Fld Z h_181 u3 "com/example/leadlight/leadlight/model/Colour" "letter" "C" (.int (71 : Int32)) := hL3.sm (Sm.keep K_182 nin0)
    have f_193 : Exa Z h_181 u4 "com/example/leadlight/leadlight/model/Colour" := hE4.sm (Sm.keep K_182 nin0)
    have f_194 : Fld Z h_181 u4 "com/example/leadlight/leadlight/model/Colour" "letter" "C" (.int (80 : Int32)) := hL4.sm (Sm.keep K_182 nin0)
    have t_195 : b < h_181.size := Nat.lt_of_lt_of_le hA.lt K_182.1
    have t_196 : u0 < h_181.size := Nat.lt_of_lt_of_le hE0.lt K_182.1
    have t_197 : u1 < h_181.size := Nat.lt_of_lt_of_le hE1.lt K_182.1
    have t_198 : u2 < h_181.size := Nat.lt_of_lt_of_le hE2.lt K_182.1
    have t_199 : u3 < h_181.size := Nat.lt_of_lt_of_le hE3.lt K_182.1
    have t_200 : u4 < h_181.size := Nat.lt_of_lt_of_le hE4.lt K_182.1
    have z_201 : n0 ≤ h_181.size := Nat.le_trans z0 K_182.1
    show (Go false l room_1 Z x code maxLocals ret n0 16 128 (fun v h => v = some (.int 1))) h_181 (0 + 0 + 0 + 1) (0 + 0 + 0 + 5) 21 #[.val (.int k0), .val (.int (1 : Int32)), .val (.int (82 : Int32)), .val (.ref u1), .unset] [(.ref u1)]
    refine Go.astore (pc' := 23) (Ls' := #[.val (.int k0), .val (.int (1 : Int32)), .val (.int (82 : Int32)), .val (.ref u1), .val (.ref u1)]) at_21 rfl rfl rfl ?_
    refine Go.aload (pc' := 25) at_23 rfl rfl rfl ?_
    refine Go.aloadN (pc' := 26) at_25 rfl rfl rfl ?_
    refine Go.acmp (pc1 := 29) (pc2 := 42) at_26 rfl rfl (by decide) (by decide) (by decide) (fun c_202 => ?_) (fun c_202 => absurd rfl c_202)
    refine Go.aload (pc' := 31) at_29 rfl rfl rfl ?_
    refine Go.callV (pc' := 34) (argsL := []) (rest := []) (W := 0) (hw _ (List.mem_of_getElem? (i := 35) rfl)) (hw _ (List.mem_of_getElem? (i := 36) rfl)) (hw _ (List.mem_of_getElem? (i := 38) rfl)) (hw _ (List.mem_of_getElem? (i := 37) rfl)) (hw _ (List.mem_of_getElem? (i := 9) rfl)) (hw _ (List.mem_of_getElem? (i := 39) rfl)) (by decide) f_187 (m_t l Z a0 hw u1 (82 : Int32) h_181 n0 z_201 f_188 (by decide)) at_31 rfl pd4 rfl rfl (Nat.le_of_eq rfl) (by decide) (by decide) (by decide) (by decide) rfl ?_
    rintro _ _ ⟨rfl, rfl⟩
    show (Go false l room_1 Z x code maxLocals ret n0 16 128 (fun v h => v = some (.int 1))) h_181 (0 + 0 + 0 + 1 + 0) (0 + 0 + 0 + 5 + 0) 34 #[.val (.int k0), .val (.int (1 : Int32)), .val (.int (82 : Int32)), .val (.ref u1), .val (.ref u1)] [(.int (82 : Int32))]
    refine Go.iloadN (pc' := 35) at_34 rfl rfl ?_
    refine Go.icmp (pc1 := 42) (pc2 := 38) at_35 (by decide) (by decide) rfl (fun (c_203 : (82 : Int) ≠ (82 : Int)) => ?_) (fun (c_203 : (82 : Int) = (82 : Int)) => ?_)
    · exact absurd c_203 (by decide)
    refine Go.iconst (pc' := 39) (v := (1 : Int32)) at_38 rfl rfl ?_
    refine Go.goto (pc' := 43) at_39 (by decide) (by decide) ?_
    exact Go.retN (t := .boolean) at_43 rfl (by simp) rfl rfl (by decide) (by decide)
  · obtain rfl : i_156 = (2 : Int32) := Int32.toInt_inj.mp k_157
    refine Go.istoreN (pc' := 7) (Ls' := #[.val (.int k0), .val (.int (2 : Int32)), .unset, .unset, .unset]) at_6 rfl rfl ?_
    refine Go.iloadN (pc' := 8) at_7 rfl rfl ?_
    refine Go.callS (pc' := 11) (argsL := [(.int (2 : Int32))]) (rest := []) (W := 0) (hw _ (List.mem_of_getElem? (i := 1) rfl)) (hw _ (List.mem_of_getElem? (i := 2) rfl)) (hw _ (List.mem_of_getElem? (i := 3) rfl)) (hw _ (List.mem_of_getElem? (i := 4) rfl)) (by decide) (m_l2 l Z a0 hw h0 n0 z0) at_8 rfl pd1 rfl rfl (Nat.le_of_eq rfl) (by decide) (by decide) (by decide) (by decide) rfl ?_
    rintro _ _ ⟨rfl, rfl⟩
    show (Go false l room_1 Z x code maxLocals ret n0 16 128 (fun v h => v = some (.int 1))) h0 (0 + 0) (0 + 0) 11 #[.val (.int k0), .val (.int (2 : Int32)), .unset, .unset, .unset] [(.int (66 : Int32))]
    refine Go.istoreN (pc' := 12) (Ls' := #[.val (.int k0), .val (.int (2 : Int32)), .val (.int (66 : Int32)), .unset, .unset]) at_11 rfl rfl ?_
    refine Go.iloadN (pc' := 13) at_12 rfl rfl ?_
    refine Go.callS (pc' := 16) (argsL := [(.int (2 : Int32))]) (rest := []) (W := 0) (hw _ (List.mem_of_getElem? (i := 5) rfl)) (hw _ (List.mem_of_getElem? (i := 6) rfl)) (hw _ (List.mem_of_getElem? (i := 3) rfl)) (hw _ (List.mem_of_getElem? (i := 7) rfl)) (by decide) (m_c2 l Z a0 hw u2 h0 n0 z0 hS2) at_13 rfl pd2 rfl rfl (Nat.le_of_eq rfl) (by decide) (by decide) (by decide) (by decide) rfl ?_
    rintro _ _ ⟨rfl, rfl⟩
    show (Go false l room_1 Z x code maxLocals ret n0 16 128 (fun v h => v = some (.int 1))) h0 (0 + 0 + 0) (0 + 0 + 0) 16 #[.val (.int k0), .val (.int (2 : Int32)), .val (.int (66 : Int32)), .unset, .unset] [(.ref u2)]
    refine Go.astoreN (pc' := 17) (Ls' := #[.val (.int k0), .val (.int (2 : Int32)), .val (.int (66 : Int32)), .val (.ref u2), .unset]) at_16 rfl rfl rfl ?_
    refine Go.iloadN (pc' := 18) at_17 rfl rfl ?_
    refine Go.callS (pc' := 21) (argsL := [(.int (66 : Int32))]) (rest := []) (W := 0) (hw _ (List.mem_of_getElem? (i := 11) rfl)) (hw _ (List.mem_of_getElem? (i := 12) rfl)) (hw _ (List.mem_of_getElem? (i := 9) rfl)) (hw _ (List.mem_of_getElem? (i := 13) rfl)) (by decide) (m_o2 l Z a0 hw b u0 u1 u2 u3 u4 h0 n0 z0 hSV hA hE hL0 hL1 hL2 hL3 hL4) at_18 rfl pd3 rfl rfl (Nat.le_of_eq rfl) (by decide) (by decide) (by decide) (by decide) rfl ?_
    rintro _ h_204 ⟨rfl, K_205⟩
    have f_206 : Ary Z h_204 b (.object "com/example/leadlight/leadlight/model/Colour") [(.ref u0), (.ref u1), (.ref u2), (.ref u3), (.ref u4)] := hA.sm (Sm.keep K_205 nin0)
    have f_207 : Exa Z h_204 b "[Lcom/example/leadlight/leadlight/model/Colour;" := hE.sm (Sm.keep K_205 nin0)
    have f_208 : Exa Z h_204 u0 "com/example/leadlight/leadlight/model/Colour" := hE0.sm (Sm.keep K_205 nin0)
    have f_209 : Fld Z h_204 u0 "com/example/leadlight/leadlight/model/Colour" "letter" "C" (.int (89 : Int32)) := hL0.sm (Sm.keep K_205 nin0)
    have f_210 : Exa Z h_204 u1 "com/example/leadlight/leadlight/model/Colour" := hE1.sm (Sm.keep K_205 nin0)
    have f_211 : Fld Z h_204 u1 "com/example/leadlight/leadlight/model/Colour" "letter" "C" (.int (82 : Int32)) := hL1.sm (Sm.keep K_205 nin0)
    have f_212 : Exa Z h_204 u2 "com/example/leadlight/leadlight/model/Colour" := hE2.sm (Sm.keep K_205 nin0)
    have f_213 : Fld Z h_204 u2 "com/example/leadlight/leadlight/model/Colour" "letter" "C" (.int (66 : Int32)) := hL2.sm (Sm.keep K_205 nin0)
    have f_214 : Exa Z h_204 u3 "com/example/leadlight/leadlight/model/Colour" := hE3.sm (Sm.keep K_205 nin0)
    have f_215 : Fld Z h_204 u3 "com/example/leadlight/leadlight/model/Colour" "letter" "C" (.int (71 : Int32)) := hL3.sm (Sm.keep K_205 nin0)
    have f_216 : Exa Z h_204 u4 "com/example/leadlight/leadlight/model/Colour" := hE4.sm (Sm.keep K_205 nin0)
    have f_217 : Fld Z h_204 u4 "com/example/leadlight/leadlight/model/Colour" "letter" "C" (.int (80 : Int32)) := hL4.sm (Sm.keep K_205 nin0)
    have t_218 : b < h_204.size := Nat.lt_of_lt_of_le hA.lt K_205.1
    have t_219 : u0 < h_204.size := Nat.lt_of_lt_of_le hE0.lt K_205.1
    have t_220 : u1 < h_204.size := Nat.lt_of_lt_of_le hE1.lt K_205.1
    have t_221 : u2 < h_204.size := Nat.lt_of_lt_of_le hE2.lt K_205.1
    have t_222 : u3 < h_204.size := Nat.lt_of_lt_of_le hE3.lt K_205.1
    have t_223 : u4 < h_204.size := Nat.lt_of_lt_of_le hE4.lt K_205.1
    have z_224 : n0 ≤ h_204.size := Nat.le_trans z0 K_205.1
    show (Go false l room_1 Z x code maxLocals ret n0 16 128 (fun v h => v = some (.int 1))) h_204 (0 + 0 + 0 + 1) (0 + 0 + 0 + 5) 21 #[.val (.int k0), .val (.int (2 : Int32)), .val (.int (66 : Int32)), .val (.ref u2), .unset] [(.ref u2)]
    refine Go.astore (pc' := 23) (Ls' := #[.val (.int k0), .val (.int (2 : Int32)), .val (.int (66 : Int32)), .val (.ref u2), .val (.ref u2)]) at_21 rfl rfl rfl ?_
    refine Go.aload (pc' := 25) at_23 rfl rfl rfl ?_
    refine Go.aloadN (pc' := 26) at_25 rfl rfl rfl ?_
    refine Go.acmp (pc1 := 29) (pc2 := 42) at_26 rfl rfl (by decide) (by decide) (by decide) (fun c_225 => ?_) (fun c_225 => absurd rfl c_225)
    refine Go.aload (pc' := 31) at_29 rfl rfl rfl ?_
    refine Go.callV (pc' := 34) (argsL := []) (rest := []) (W := 0) (hw _ (List.mem_of_getElem? (i := 35) rfl)) (hw _ (List.mem_of_getElem? (i := 36) rfl)) (hw _ (List.mem_of_getElem? (i := 38) rfl)) (hw _ (List.mem_of_getElem? (i := 37) rfl)) (hw _ (List.mem_of_getElem? (i := 9) rfl)) (hw _ (List.mem_of_getElem? (i := 39) rfl)) (by decide) f_212 (m_t l Z a0 hw u2 (66 : Int32) h_204 n0 z_224 f_213 (by decide)) at_31 rfl pd4 rfl rfl (Nat.le_of_eq rfl) (by decide) (by decide) (by decide) (by decide) rfl ?_
    rintro _ _ ⟨rfl, rfl⟩
    show (Go false l room_1 Z x code maxLocals ret n0 16 128 (fun v h => v = some (.int 1))) h_204 (0 + 0 + 0 + 1 + 0) (0 + 0 + 0 + 5 + 0) 34 #[.val (.int k0), .val (.int (2 : Int32)), .val (.int (66 : Int32)), .val (.ref u2), .val (.ref u2)] [(.int (66 : Int32))]
    refine Go.iloadN (pc' := 35) at_34 rfl rfl ?_
    refine Go.icmp (pc1 := 42) (pc2 := 38) at_35 (by decide) (by decide) rfl (fun (c_226 : (66 : Int) ≠ (66 : Int)) => ?_) (fun (c_226 : (66 : Int) = (66 : Int)) => ?_)
    · exact absurd c_226 (by decide)
    refine Go.iconst (pc' := 39) (v := (1 : Int32)) at_38 rfl rfl ?_
    refine Go.goto (pc' := 43) at_39 (by decide) (by decide) ?_
    exact Go.retN (t := .boolean) at_43 rfl (by simp) rfl rfl (by decide) (by decide)
  · obtain rfl : i_156 = (3 : Int32) := Int32.toInt_inj.mp k_157
    refine Go.istoreN (pc' := 7) (Ls' := #[.val (.int k0), .val (.int (3 : Int32)), .unset, .unset, .unset]) at_6 rfl rfl ?_
    refine Go.iloadN (pc' := 8) at_7 rfl rfl ?_
    refine Go.callS (pc' := 11) (argsL := [(.int (3 : Int32))]) (rest := []) (W := 0) (hw _ (List.mem_of_getElem? (i := 1) rfl)) (hw _ (List.mem_of_getElem? (i := 2) rfl)) (hw _ (List.mem_of_getElem? (i := 3) rfl)) (hw _ (List.mem_of_getElem? (i := 4) rfl)) (by decide) (m_l3 l Z a0 hw h0 n0 z0) at_8 rfl pd1 rfl rfl (Nat.le_of_eq rfl) (by decide) (by decide) (by decide) (by decide) rfl ?_
    rintro _ _ ⟨rfl, rfl⟩
    show (Go false l room_1 Z x code maxLocals ret n0 16 128 (fun v h => v = some (.int 1))) h0 (0 + 0) (0 + 0) 11 #[.val (.int k0), .val (.int (3 : Int32)), .unset, .unset, .unset] [(.int (71 : Int32))]
    refine Go.istoreN (pc' := 12) (Ls' := #[.val (.int k0), .val (.int (3 : Int32)), .val (.int (71 : Int32)), .unset, .unset]) at_11 rfl rfl ?_
    refine Go.iloadN (pc' := 13) at_12 rfl rfl ?_
    refine Go.callS (pc' := 16) (argsL := [(.int (3 : Int32))]) (rest := []) (W := 0) (hw _ (List.mem_of_getElem? (i := 5) rfl)) (hw _ (List.mem_of_getElem? (i := 6) rfl)) (hw _ (List.mem_of_getElem? (i := 3) rfl)) (hw _ (List.mem_of_getElem? (i := 7) rfl)) (by decide) (m_c3 l Z a0 hw u3 h0 n0 z0 hS3) at_13 rfl pd2 rfl rfl (Nat.le_of_eq rfl) (by decide) (by decide) (by decide) (by decide) rfl ?_
    rintro _ _ ⟨rfl, rfl⟩
    show (Go false l room_1 Z x code maxLocals ret n0 16 128 (fun v h => v = some (.int 1))) h0 (0 + 0 + 0) (0 + 0 + 0) 16 #[.val (.int k0), .val (.int (3 : Int32)), .val (.int (71 : Int32)), .unset, .unset] [(.ref u3)]
    refine Go.astoreN (pc' := 17) (Ls' := #[.val (.int k0), .val (.int (3 : Int32)), .val (.int (71 : Int32)), .val (.ref u3), .unset]) at_16 rfl rfl rfl ?_
    refine Go.iloadN (pc' := 18) at_17 rfl rfl ?_
    refine Go.callS (pc' := 21) (argsL := [(.int (71 : Int32))]) (rest := []) (W := 0) (hw _ (List.mem_of_getElem? (i := 11) rfl)) (hw _ (List.mem_of_getElem? (i := 12) rfl)) (hw _ (List.mem_of_getElem? (i := 9) rfl)) (hw _ (List.mem_of_getElem? (i := 13) rfl)) (by decide) (m_o3 l Z a0 hw b u0 u1 u2 u3 u4 h0 n0 z0 hSV hA hE hL0 hL1 hL2 hL3 hL4) at_18 rfl pd3 rfl rfl (Nat.le_of_eq rfl) (by decide) (by decide) (by decide) (by decide) rfl ?_
    rintro _ h_227 ⟨rfl, K_228⟩
    have f_229 : Ary Z h_227 b (.object "com/example/leadlight/leadlight/model/Colour") [(.ref u0), (.ref u1), (.ref u2), (.ref u3), (.ref u4)] := hA.sm (Sm.keep K_228 nin0)
    have f_230 : Exa Z h_227 b "[Lcom/example/leadlight/leadlight/model/Colour;" := hE.sm (Sm.keep K_228 nin0)
    have f_231 : Exa Z h_227 u0 "com/example/leadlight/leadlight/model/Colour" := hE0.sm (Sm.keep K_228 nin0)
    have f_232 : Fld Z h_227 u0 "com/example/leadlight/leadlight/model/Colour" "letter" "C" (.int (89 : Int32)) := hL0.sm (Sm.keep K_228 nin0)
    have f_233 : Exa Z h_227 u1 "com/example/leadlight/leadlight/model/Colour" := hE1.sm (Sm.keep K_228 nin0)
    have f_234 : Fld Z h_227 u1 "com/example/leadlight/leadlight/model/Colour" "letter" "C" (.int (82 : Int32)) := hL1.sm (Sm.keep K_228 nin0)
    have f_235 : Exa Z h_227 u2 "com/example/leadlight/leadlight/model/Colour" := hE2.sm (Sm.keep K_228 nin0)
    have f_236 : Fld Z h_227 u2 "com/example/leadlight/leadlight/model/Colour" "letter" "C" (.int (66 : Int32)) := hL2.sm (Sm.keep K_228 nin0)
    have f_237 : Exa Z h_227 u3 "com/example/leadlight/leadlight/model/Colour" := hE3.sm (Sm.keep K_228 nin0)
    have f_238 : Fld Z h_227 u3 "com/example/leadlight/leadlight/model/Colour" "letter" "C" (.int (71 : Int32)) := hL3.sm (Sm.keep K_228 nin0)
    have f_239 : Exa Z h_227 u4 "com/example/leadlight/leadlight/model/Colour" := hE4.sm (Sm.keep K_228 nin0)
    have f_240 : Fld Z h_227 u4 "com/example/leadlight/leadlight/model/Colour" "letter" "C" (.int (80 : Int32)) := hL4.sm (Sm.keep K_228 nin0)
    have t_241 : b < h_227.size := Nat.lt_of_lt_of_le hA.lt K_228.1
    have t_242 : u0 < h_227.size := Nat.lt_of_lt_of_le hE0.lt K_228.1
    have t_243 : u1 < h_227.size := Nat.lt_of_lt_of_le hE1.lt K_228.1
    have t_244 : u2 < h_227.size := Nat.lt_of_lt_of_le hE2.lt K_228.1
    have t_245 : u3 < h_227.size := Nat.lt_of_lt_of_le hE3.lt K_228.1
    have t_246 : u4 < h_227.size := Nat.lt_of_lt_of_le hE4.lt K_228.1
    have z_247 : n0 ≤ h_227.size := Nat.le_trans z0 K_228.1
    show (Go false l room_1 Z x code maxLocals ret n0 16 128 (fun v h => v = some (.int 1))) h_227 (0 + 0 + 0 + 1) (0 + 0 + 0 + 5) 21 #[.val (.int k0), .val (.int (3 : Int32)), .val (.int (71 : Int32)), .val (.ref u3), .unset] [(.ref u3)]
    refine Go.astore (pc' := 23) (Ls' := #[.val (.int k0), .val (.int (3 : Int32)), .val (.int (71 : Int32)), .val (.ref u3), .val (.ref u3)]) at_21 rfl rfl rfl ?_
    refine Go.aload (pc' := 25) at_23 rfl rfl rfl ?_
    refine Go.aloadN (pc' := 26) at_25 rfl rfl rfl ?_
    refine Go.acmp (pc1 := 29) (pc2 := 42) at_26 rfl rfl (by decide) (by decide) (by decide) (fun c_248 => ?_) (fun c_248 => absurd rfl c_248)
    refine Go.aload (pc' := 31) at_29 rfl rfl rfl ?_
    refine Go.callV (pc' := 34) (argsL := []) (rest := []) (W := 0) (hw _ (List.mem_of_getElem? (i := 35) rfl)) (hw _ (List.mem_of_getElem? (i := 36) rfl)) (hw _ (List.mem_of_getElem? (i := 38) rfl)) (hw _ (List.mem_of_getElem? (i := 37) rfl)) (hw _ (List.mem_of_getElem? (i := 9) rfl)) (hw _ (List.mem_of_getElem? (i := 39) rfl)) (by decide) f_237 (m_t l Z a0 hw u3 (71 : Int32) h_227 n0 z_247 f_238 (by decide)) at_31 rfl pd4 rfl rfl (Nat.le_of_eq rfl) (by decide) (by decide) (by decide) (by decide) rfl ?_
    rintro _ _ ⟨rfl, rfl⟩
    show (Go false l room_1 Z x code maxLocals ret n0 16 128 (fun v h => v = some (.int 1))) h_227 (0 + 0 + 0 + 1 + 0) (0 + 0 + 0 + 5 + 0) 34 #[.val (.int k0), .val (.int (3 : Int32)), .val (.int (71 : Int32)), .val (.ref u3), .val (.ref u3)] [(.int (71 : Int32))]
    refine Go.iloadN (pc' := 35) at_34 rfl rfl ?_
    refine Go.icmp (pc1 := 42) (pc2 := 38) at_35 (by decide) (by decide) rfl (fun (c_249 : (71 : Int) ≠ (71 : Int)) => ?_) (fun (c_249 : (71 : Int) = (71 : Int)) => ?_)
    · exact absurd c_249 (by decide)
    refine Go.iconst (pc' := 39) (v := (1 : Int32)) at_38 rfl rfl ?_
    refine Go.goto (pc' := 43) at_39 (by decide) (by decide) ?_
    exact Go.retN (t := .boolean) at_43 rfl (by simp) rfl rfl (by decide) (by decide)
  · obtain rfl : i_156 = (4 : Int32) := Int32.toInt_inj.mp k_157
    refine Go.istoreN (pc' := 7) (Ls' := #[.val (.int k0), .val (.int (4 : Int32)), .unset, .unset, .unset]) at_6 rfl rfl ?_
    refine Go.iloadN (pc' := 8) at_7 rfl rfl ?_
    refine Go.callS (pc' := 11) (argsL := [(.int (4 : Int32))]) (rest := []) (W := 0) (hw _ (List.mem_of_getElem? (i := 1) rfl)) (hw _ (List.mem_of_getElem? (i := 2) rfl)) (hw _ (List.mem_of_getElem? (i := 3) rfl)) (hw _ (List.mem_of_getElem? (i := 4) rfl)) (by decide) (m_l4 l Z a0 hw h0 n0 z0) at_8 rfl pd1 rfl rfl (Nat.le_of_eq rfl) (by decide) (by decide) (by decide) (by decide) rfl ?_
    rintro _ _ ⟨rfl, rfl⟩
    show (Go false l room_1 Z x code maxLocals ret n0 16 128 (fun v h => v = some (.int 1))) h0 (0 + 0) (0 + 0) 11 #[.val (.int k0), .val (.int (4 : Int32)), .unset, .unset, .unset] [(.int (80 : Int32))]
    refine Go.istoreN (pc' := 12) (Ls' := #[.val (.int k0), .val (.int (4 : Int32)), .val (.int (80 : Int32)), .unset, .unset]) at_11 rfl rfl ?_
    refine Go.iloadN (pc' := 13) at_12 rfl rfl ?_
    refine Go.callS (pc' := 16) (argsL := [(.int (4 : Int32))]) (rest := []) (W := 0) (hw _ (List.mem_of_getElem? (i := 5) rfl)) (hw _ (List.mem_of_getElem? (i := 6) rfl)) (hw _ (List.mem_of_getElem? (i := 3) rfl)) (hw _ (List.mem_of_getElem? (i := 7) rfl)) (by decide) (m_c4 l Z a0 hw u4 h0 n0 z0 hS4) at_13 rfl pd2 rfl rfl (Nat.le_of_eq rfl) (by decide) (by decide) (by decide) (by decide) rfl ?_
    rintro _ _ ⟨rfl, rfl⟩
    show (Go false l room_1 Z x code maxLocals ret n0 16 128 (fun v h => v = some (.int 1))) h0 (0 + 0 + 0) (0 + 0 + 0) 16 #[.val (.int k0), .val (.int (4 : Int32)), .val (.int (80 : Int32)), .unset, .unset] [(.ref u4)]
    refine Go.astoreN (pc' := 17) (Ls' := #[.val (.int k0), .val (.int (4 : Int32)), .val (.int (80 : Int32)), .val (.ref u4), .unset]) at_16 rfl rfl rfl ?_
    refine Go.iloadN (pc' := 18) at_17 rfl rfl ?_
    refine Go.callS (pc' := 21) (argsL := [(.int (80 : Int32))]) (rest := []) (W := 0) (hw _ (List.mem_of_getElem? (i := 11) rfl)) (hw _ (List.mem_of_getElem? (i := 12) rfl)) (hw _ (List.mem_of_getElem? (i := 9) rfl)) (hw _ (List.mem_of_getElem? (i := 13) rfl)) (by decide) (m_o4 l Z a0 hw b u0 u1 u2 u3 u4 h0 n0 z0 hSV hA hE hL0 hL1 hL2 hL3 hL4) at_18 rfl pd3 rfl rfl (Nat.le_of_eq rfl) (by decide) (by decide) (by decide) (by decide) rfl ?_
    rintro _ h_250 ⟨rfl, K_251⟩
    have f_252 : Ary Z h_250 b (.object "com/example/leadlight/leadlight/model/Colour") [(.ref u0), (.ref u1), (.ref u2), (.ref u3), (.ref u4)] := hA.sm (Sm.keep K_251 nin0)
    have f_253 : Exa Z h_250 b "[Lcom/example/leadlight/leadlight/model/Colour;" := hE.sm (Sm.keep K_251 nin0)
    have f_254 : Exa Z h_250 u0 "com/example/leadlight/leadlight/model/Colour" := hE0.sm (Sm.keep K_251 nin0)
    have f_255 : Fld Z h_250 u0 "com/example/leadlight/leadlight/model/Colour" "letter" "C" (.int (89 : Int32)) := hL0.sm (Sm.keep K_251 nin0)
    have f_256 : Exa Z h_250 u1 "com/example/leadlight/leadlight/model/Colour" := hE1.sm (Sm.keep K_251 nin0)
    have f_257 : Fld Z h_250 u1 "com/example/leadlight/leadlight/model/Colour" "letter" "C" (.int (82 : Int32)) := hL1.sm (Sm.keep K_251 nin0)
    have f_258 : Exa Z h_250 u2 "com/example/leadlight/leadlight/model/Colour" := hE2.sm (Sm.keep K_251 nin0)
    have f_259 : Fld Z h_250 u2 "com/example/leadlight/leadlight/model/Colour" "letter" "C" (.int (66 : Int32)) := hL2.sm (Sm.keep K_251 nin0)
    have f_260 : Exa Z h_250 u3 "com/example/leadlight/leadlight/model/Colour" := hE3.sm (Sm.keep K_251 nin0)
    have f_261 : Fld Z h_250 u3 "com/example/leadlight/leadlight/model/Colour" "letter" "C" (.int (71 : Int32)) := hL3.sm (Sm.keep K_251 nin0)
    have f_262 : Exa Z h_250 u4 "com/example/leadlight/leadlight/model/Colour" := hE4.sm (Sm.keep K_251 nin0)
    have f_263 : Fld Z h_250 u4 "com/example/leadlight/leadlight/model/Colour" "letter" "C" (.int (80 : Int32)) := hL4.sm (Sm.keep K_251 nin0)
    have t_264 : b < h_250.size := Nat.lt_of_lt_of_le hA.lt K_251.1
    have t_265 : u0 < h_250.size := Nat.lt_of_lt_of_le hE0.lt K_251.1
    have t_266 : u1 < h_250.size := Nat.lt_of_lt_of_le hE1.lt K_251.1
    have t_267 : u2 < h_250.size := Nat.lt_of_lt_of_le hE2.lt K_251.1
    have t_268 : u3 < h_250.size := Nat.lt_of_lt_of_le hE3.lt K_251.1
    have t_269 : u4 < h_250.size := Nat.lt_of_lt_of_le hE4.lt K_251.1
    have z_270 : n0 ≤ h_250.size := Nat.le_trans z0 K_251.1
    show (Go false l room_1 Z x code maxLocals ret n0 16 128 (fun v h => v = some (.int 1))) h_250 (0 + 0 + 0 + 1) (0 + 0 + 0 + 5) 21 #[.val (.int k0), .val (.int (4 : Int32)), .val (.int (80 : Int32)), .val (.ref u4), .unset] [(.ref u4)]
    refine Go.astore (pc' := 23) (Ls' := #[.val (.int k0), .val (.int (4 : Int32)), .val (.int (80 : Int32)), .val (.ref u4), .val (.ref u4)]) at_21 rfl rfl rfl ?_
    refine Go.aload (pc' := 25) at_23 rfl rfl rfl ?_
    refine Go.aloadN (pc' := 26) at_25 rfl rfl rfl ?_
    refine Go.acmp (pc1 := 29) (pc2 := 42) at_26 rfl rfl (by decide) (by decide) (by decide) (fun c_271 => ?_) (fun c_271 => absurd rfl c_271)
    refine Go.aload (pc' := 31) at_29 rfl rfl rfl ?_
    refine Go.callV (pc' := 34) (argsL := []) (rest := []) (W := 0) (hw _ (List.mem_of_getElem? (i := 35) rfl)) (hw _ (List.mem_of_getElem? (i := 36) rfl)) (hw _ (List.mem_of_getElem? (i := 38) rfl)) (hw _ (List.mem_of_getElem? (i := 37) rfl)) (hw _ (List.mem_of_getElem? (i := 9) rfl)) (hw _ (List.mem_of_getElem? (i := 39) rfl)) (by decide) f_262 (m_t l Z a0 hw u4 (80 : Int32) h_250 n0 z_270 f_263 (by decide)) at_31 rfl pd4 rfl rfl (Nat.le_of_eq rfl) (by decide) (by decide) (by decide) (by decide) rfl ?_
    rintro _ _ ⟨rfl, rfl⟩
    show (Go false l room_1 Z x code maxLocals ret n0 16 128 (fun v h => v = some (.int 1))) h_250 (0 + 0 + 0 + 1 + 0) (0 + 0 + 0 + 5 + 0) 34 #[.val (.int k0), .val (.int (4 : Int32)), .val (.int (80 : Int32)), .val (.ref u4), .val (.ref u4)] [(.int (80 : Int32))]
    refine Go.iloadN (pc' := 35) at_34 rfl rfl ?_
    refine Go.icmp (pc1 := 42) (pc2 := 38) at_35 (by decide) (by decide) rfl (fun (c_272 : (80 : Int) ≠ (80 : Int)) => ?_) (fun (c_272 : (80 : Int) = (80 : Int)) => ?_)
    · exact absurd c_272 (by decide)
    refine Go.iconst (pc' := 39) (v := (1 : Int32)) at_38 rfl rfl ?_
    refine Go.goto (pc' := 43) at_39 (by decide) (by decide) ?_
    exact Go.retN (t := .boolean) at_43 rfl (by simp) rfl rfl (by decide) (by decide)
set_option maxRecDepth 65536 in
set_option maxHeartbeats 40000000 in
theorem comes_1 {Post : Tables → Env → Array Value → State → Outcome → State → Prop} (hpost : ∀ tb e args s v u, (limb_1_1.after args s (.returned v) u = true ∧ limb_1_2.after args s (.returned v) u = true ∧ True) → FrameEnd s (.returned v) u (Jvm.fieldLocs frame_1_writes args s ++ Jvm.arrayLocs frame_1_arrays args s ++ Jvm.staticLocs frame_1_statics s) 16 128 → Post tb e args s (.returned v) u) :
    ArmFor flags0 classFile x code maxLocals ret World_1 tables_1 room_1 Calls_1 rest_1 Pre_1 Post := by
  intro l hfl _ _ p e ha hc hk s m args below hf hA hF happ hP
  obtain ⟨hcalls, hrest, hpre⟩ := hP
  obtain ⟨-, -, -, hnamed, -, -, -, hat⟩ := (Spec.applies_iff hf).mp happ
  obtain ⟨hg, hn⟩ := and_e (Cond.before_iff.mp (show (Jvm.Cond.and given_1 narrow_1).before args s = true from hpre))
  obtain ⟨h1, hg1⟩ := and_e hg
  obtain ⟨w0, rfl⟩ : ∃ w0 : Value, args = #[w0] := by
    have hs : args.size = 1 := by simpa [Cond.value, given_1] using h1
    obtain ⟨L⟩ := args
    match L, hs with
    | [w0], _ => exact ⟨w0, rfl⟩
  have hw := fun d (hd : d ∈ tables_1) => atoms_spec (ws := Jvm.Cond.code x code maxLocals ret :: tables_1) hat d (List.mem_cons_of_mem _ hd)
  have hfit : Fit s := fun {y c} hc i hi => by
    obtain ⟨ha, rfl⟩ := Array.getElem?_eq_some_iff.mp hc
    have q := List.all_eq_true.mp ((Array.all_eq_true_iff_forall_mem.mp hF) _ (Array.getElem_mem ha)) i (List.mem_range.mpr hi)
    simpa [Array.getElem?_eq_getElem hi] using q
  obtain ⟨i0, e0⟩ := is_v hg1
  obtain rfl : w0 = (.int i0) := Option.some.inj e0
  obtain ⟨c0, cr0⟩ := and_e hn
  obtain ⟨c1, cr1⟩ := and_e cr0
  obtain ⟨c2, cr2⟩ := and_e cr1
  obtain ⟨c3, cr3⟩ := and_e cr2
  obtain ⟨c4, cr4⟩ := and_e cr3
  obtain ⟨c5, cr5⟩ := and_e cr4
  obtain ⟨c6, cr6⟩ := and_e cr5
  obtain ⟨c7, cr7⟩ := and_e cr6
  obtain ⟨c8, cr8⟩ := and_e cr7
  obtain ⟨c9, cr9⟩ := and_e cr8
  obtain ⟨c10, cr10⟩ := and_e cr9
  obtain ⟨c11, cr11⟩ := and_e cr10
  obtain ⟨c12, cr12⟩ := and_e cr11
  obtain ⟨c13, cr13⟩ := and_e cr12
  obtain ⟨c14, cr14⟩ := and_e cr13
  obtain ⟨c15, cr15⟩ := and_e cr14
  obtain ⟨c16, cr16⟩ := and_e cr15
  have c17 := cr16
  obtain ⟨p0, v0⟩ := exa_v c0
  obtain ⟨b, vb⟩ := arr_v c1
  obtain ⟨cl, A⟩ := Arr.start vb c1
  obtain ⟨p1, v1⟩ := exa_v c5
  obtain ⟨p2, v2⟩ := exa_v c7
  obtain ⟨p3, v3⟩ := exa_v c9
  obtain ⟨p4, v4⟩ := exa_v c11
  have SV := Sta.start vb (Or.inr ⟨(hw _ (List.mem_of_getElem? (i := 9) rfl)), (hw _ (List.mem_of_getElem? (i := 18) rfl))⟩)
  have S0 := Sta.start v0 (Or.inr ⟨(hw _ (List.mem_of_getElem? (i := 9) rfl)), (hw _ (List.mem_of_getElem? (i := 10) rfl))⟩)
  have F0 := Fld.start ((fld_at v0).symm.trans (own_eqI c13))
  have L0 := own_elem vb A (own_eqR c4 v0) (k := 0) rfl
  have S1 := Sta.start v1 (Or.inr ⟨(hw _ (List.mem_of_getElem? (i := 9) rfl)), (hw _ (List.mem_of_getElem? (i := 26) rfl))⟩)
  have F1 := Fld.start ((fld_at v1).symm.trans (own_eqI c14))
  have L1 := own_elem vb A (own_eqR c6 v1) (k := 1) rfl
  have S2 := Sta.start v2 (Or.inr ⟨(hw _ (List.mem_of_getElem? (i := 9) rfl)), (hw _ (List.mem_of_getElem? (i := 27) rfl))⟩)
  have F2 := Fld.start ((fld_at v2).symm.trans (own_eqI c15))
  have L2 := own_elem vb A (own_eqR c8 v2) (k := 2) rfl
  have S3 := Sta.start v3 (Or.inr ⟨(hw _ (List.mem_of_getElem? (i := 9) rfl)), (hw _ (List.mem_of_getElem? (i := 28) rfl))⟩)
  have F3 := Fld.start ((fld_at v3).symm.trans (own_eqI c16))
  have L3 := own_elem vb A (own_eqR c10 v3) (k := 3) rfl
  have S4 := Sta.start v4 (Or.inr ⟨(hw _ (List.mem_of_getElem? (i := 9) rfl)), (hw _ (List.mem_of_getElem? (i := 29) rfl))⟩)
  have F4 := Fld.start ((fld_at v4).symm.trans (own_eqI c17))
  have L4 := own_elem vb A (own_eqR c12 v4) (k := 4) rfl
  have hsz := own_len vb A (own_eqI c3) (k := 5) rfl
  have AA : Ary s s.heap b (.object "com/example/leadlight/leadlight/model/Colour") [.ref p0, .ref p1, .ref p2, .ref p3, .ref p4] := own_ary A (by rw [hsz]; rfl) (by
    intro k hk
    rcases (by have : k < 5 := hk; omega : k = 0 ∨ k = 1 ∨ k = 2 ∨ k = 3 ∨ k = 4) with rfl | rfl | rfl | rfl | rfl
    · exact L0
    · exact L1
    · exact L2
    · exact L3
    · exact L4)
  obtain ⟨n, o, h1, h2, h3, _, L, rfl, ⟨⟨rfl, -⟩, N⟩, hq⟩ := rm1 l s _ hw tables_1 i0 b p0 p1 p2 p3 p4 s.heap s.heap.size (Nat.le_refl _) SV AA (Exa.start vb c2) S0 (Exa.start v0 c0) F0 S1 (Exa.start v1 c5) F1 S2 (Exa.start v2 c7) F2 S3 (Exa.start v3 c9) F3 S4 (Exa.start v4 c11) F4 p e ha hc hk s m _ below hf ((Spec.applies_iff_loose hf).mp happ).1 ⟨rfl, State.Warmed39.refl s, rfl⟩ trivial
  refine ⟨n, _, h1, h2, h3, hpost _ _ _ _ _ _ ⟨Cond.after_iff.mpr rfl, Cond.after_iff.mpr (eq_i res_at (Term.int_eval (1)) rfl), trivial⟩ ⟨hq.1, hq.2.1, (hq.2.2.sift fun y hy => Or.inr (N y hy)).mono (by decide) (by decide)⟩⟩
theorem main_1_1 : Claimed_1_1 := comes_1 fun _ _ _ _ _ _ h hF => ⟨h.1, hF⟩
theorem main_1_2 : Claimed_1_2 := comes_1 fun _ _ _ _ _ _ h hF => ⟨h.2.1, hF⟩
end Jvm.Pilot.@@N@@
namespace Jvm.Pilot.@@N@@
open Jvm Jvm.ClassFile Sem Op Lib Jvm.Free Jvm.Stand Jvm.Pilot.@@N@@.Jvm.D
/-! MADE BY PROGRAM (witnessworld.py) out of the Statement's table words and the real class files: 13 classes; the members and pool entries that the words name. The judged class is class 1, her method 3. -/
namespace start1
open Jvm.ClassFile
def u (s : String) : CpInfo := .utf8 (stringToUtf16 s)
/-- a pool by its gaps: so many unusable entries, then the entry; so many at the end -/
def gap : Nat → List CpInfo → List CpInfo
  | 0, r => r
  | n + 1, r => .unusable :: gap n r
def poolList (es : List (Nat × CpInfo)) (last : Nat) : List CpInfo := es.foldr (fun e r => gap e.1 (e.2 :: r)) (gap last [])
def pool (es : List (Nat × CpInfo)) (last : Nat) : Array CpInfo := ⟨poolList es last⟩
def fileOf (pool : Array CpInfo) (this : Nat) (attrs : Array Attribute := #[]) (ms : Array MethodInfo := #[]) (fl : Nat := 33) (sup : Nat := 0) (ifs : Array Nat := #[]) (fds : Array FieldInfo := #[]) : ClassFile where
  minorVersion := 0
  majorVersion := 65
  constantPool := pool
  accessFlags := fl
  thisClass := this
  superClass := sup
  interfaces := ifs
  fields := fds
  methods := ms
  attributes := attrs
def plain (name : String) (sup : Option ClassId) : Class where
  name := name
  kind := .ordinary
  loader := none
  accessFlags := 33
  super := sup
  interfaces := #[]
  cf := none
  fields := #[]
  methods := #[]
  instanceTypes := #[]
  staticTypes := #[]
  resolved := #[]
  callSites := []
  init := .initialized
  statics := none
  mirror := none

def pool0 : Array CpInfo := pool [(5, u "<init>"), (0, u "()V"), (1, .class_ 10), (1, u "java/lang/Object"), (85, u "clone"), (0, u "()Ljava/lang/Object;")] 26

def k0m0 : Method := { name := "<init>", desc := "()V", sig := { parameters := [], returnType := none }, accessFlags := 1, code := none }
def k0m1 : Method := { name := "clone", desc := "()Ljava/lang/Object;", sig := { parameters := [], returnType := some (.object "java/lang/Object") }, accessFlags := 260, code := none }
/-- java/lang/Object -/
def k0 : Class := { plain "java/lang/Object" none with
  accessFlags := 33
  interfaces := #[]
  cf := some (fileOf pool0 8 #[] #[{ accessFlags := 1, nameIndex := 5, descriptorIndex := 6, attributes := #[] }, { accessFlags := 260, nameIndex := 96, descriptorIndex := 97, attributes := #[] }] 33 0 #[] #[])
  fields := #[]
  methods := #[k0m0, k0m1]
  instanceTypes := #[]
  staticTypes := #[]
  resolved := Array.replicate 124 none
  statics := none }

def pool1 : Array CpInfo := pool [(2, .class_ 4), (1, u "java/lang/Object"), (0, u "<init>"), (0, u "()V"), (0, .fieldref 8 9), (0, .class_ 10), (0, .nameAndType 11 12), (0, u "com/example/leadlight/leadlight/model/Colour"), (0, u "YELLOW"), (0, u "Lcom/example/leadlight/leadlight/model/Colour;"), (0, .fieldref 8 14), (0, .nameAndType 15 12), (0, u "RED"), (0, .fieldref 8 17), (0, .nameAndType 18 12), (0, u "BLUE"), (0, .fieldref 8 20), (0, .nameAndType 21 12), (0, u "GREEN"), (0, .fieldref 8 23), (0, .nameAndType 24 12), (0, u "PURPLE"), (0, .integer 2147483647), (0, .methodref 27 28), (0, .class_ 29), (0, .nameAndType 30 31), (0, u "com/example/leadlight/leadlight/model/ColourOfLetterPinLaw"), (0, u "letterAt"), (0, u "(I)C"), (0, .methodref 27 33), (0, .nameAndType 34 35), (0, u "colourAt"), (0, u "(I)Lcom/example/leadlight/leadlight/model/Colour;"), (0, .methodref 8 37), (0, .nameAndType 38 39), (0, u "ofLetter"), (0, u "(C)Lcom/example/leadlight/leadlight/model/Colour;"), (0, .methodref 8 41), (0, .nameAndType 42 43), (0, u "letter"), (0, u "()C"), (3, u "law"), (0, u "(I)Z")] 2

def k1m0 : Method := { name := "<init>", desc := "()V", sig := { parameters := [], returnType := none }, accessFlags := 2, code := none }
def k1c1 : Code := { maxStack := 2, maxLocals := 1, code := method_2_code, exceptionTable := #[], attributes := #[] }
def k1m1 : Method := { name := "letterAt", desc := "(I)C", sig := { parameters := [.int], returnType := some .char }, accessFlags := 10, code := some k1c1 }
def k1c2 : Code := { maxStack := 2, maxLocals := 1, code := method_3_code, exceptionTable := #[], attributes := #[] }
def k1m2 : Method := { name := "colourAt", desc := "(I)Lcom/example/leadlight/leadlight/model/Colour;", sig := { parameters := [.int], returnType := some (.object "com/example/leadlight/leadlight/model/Colour") }, accessFlags := 10, code := some k1c2 }
def k1c3 : Code := { maxStack := 2, maxLocals := 5, code := code, exceptionTable := #[], attributes := #[] }
def k1m3 : Method := { name := "law", desc := "(I)Z", sig := { parameters := [.int], returnType := some .boolean }, accessFlags := 9, code := some k1c3 }
/-- com/example/leadlight/leadlight/model/ColourOfLetterPinLaw -/
def k1 : Class := { plain "com/example/leadlight/leadlight/model/ColourOfLetterPinLaw" (some 0) with
  accessFlags := 49
  interfaces := #[]
  cf := some (fileOf pool1 27 #[] #[{ accessFlags := 2, nameIndex := 5, descriptorIndex := 6, attributes := #[] }, { accessFlags := 10, nameIndex := 30, descriptorIndex := 31, attributes := #[] }, { accessFlags := 10, nameIndex := 34, descriptorIndex := 35, attributes := #[] }, { accessFlags := 9, nameIndex := 47, descriptorIndex := 48, attributes := #[] }] 49 2 #[] #[])
  fields := #[]
  methods := #[k1m0, k1m1, k1m2, k1m3]
  instanceTypes := #[]
  staticTypes := #[]
  resolved := Array.replicate 51 none
  statics := none }

def pool2 : Array CpInfo := pool [(1, .class_ 2), (0, u "java/lang/constant/Constable"), (0, .class_ 4), (0, u "java/lang/Object")] 6

/-- java/lang/constant/Constable -/
def k2 : Class := { plain "java/lang/constant/Constable" (some 0) with
  accessFlags := 1537
  interfaces := #[]
  cf := some (fileOf pool2 1 #[] #[] 1537 3 #[] #[])
  fields := #[]
  methods := #[]
  instanceTypes := #[]
  staticTypes := #[]
  resolved := Array.replicate 11 none
  statics := none }

def pool3 : Array CpInfo := pool [(1, .class_ 2), (0, u "java/lang/Comparable"), (0, .class_ 4), (0, u "java/lang/Object")] 7

/-- java/lang/Comparable -/
def k3 : Class := { plain "java/lang/Comparable" (some 0) with
  accessFlags := 1537
  interfaces := #[]
  cf := some (fileOf pool3 1 #[] #[] 1537 3 #[] #[])
  fields := #[]
  methods := #[]
  instanceTypes := #[]
  staticTypes := #[]
  resolved := Array.replicate 12 none
  statics := none }

def pool4 : Array CpInfo := pool [(1, .class_ 2), (0, u "java/io/Serializable"), (0, .class_ 4), (0, u "java/lang/Object")] 2

/-- java/io/Serializable -/
def k4 : Class := { plain "java/io/Serializable" (some 0) with
  accessFlags := 1537
  interfaces := #[]
  cf := some (fileOf pool4 1 #[] #[] 1537 3 #[] #[])
  fields := #[]
  methods := #[]
  instanceTypes := #[]
  staticTypes := #[]
  resolved := Array.replicate 7 none
  statics := none }

def pool5 : Array CpInfo := pool [(2, .class_ 4), (1, u "java/lang/Enum"), (0, u "name"), (0, u "Ljava/lang/String;"), (2, u "ordinal"), (0, u "I"), (1, .class_ 14), (1, u "java/lang/Object"), (4, u "hash"), (86, .class_ 108), (1, u "java/lang/Enum$EnumDesc"), (2, .class_ 112), (0, u "java/lang/constant/Constable"), (0, .class_ 114), (0, u "java/lang/Comparable"), (0, .class_ 116), (0, u "java/io/Serializable")] 87

/-- java/lang/Enum -/
def k5 : Class := { plain "java/lang/Enum" (some 0) with
  accessFlags := 1057
  interfaces := #[2, 3, 4]
  cf := some (fileOf pool5 2 #[.nestMembers #[106]] #[] 1057 12 #[111, 113, 115] #[{ accessFlags := 18, nameIndex := 5, descriptorIndex := 6, attributes := #[] }, { accessFlags := 18, nameIndex := 9, descriptorIndex := 10, attributes := #[] }, { accessFlags := 2, nameIndex := 19, descriptorIndex := 10, attributes := #[] }])
  fields := #[{ name := "name", type := (.object "java/lang/String"), accessFlags := 18, slot := 0, constantValue := 0 }, { name := "ordinal", type := .int, accessFlags := 18, slot := 1, constantValue := 0 }, { name := "hash", type := .int, accessFlags := 2, slot := 2, constantValue := 0 }]
  methods := #[]
  instanceTypes := #[(.object "java/lang/String"), .int, .int]
  staticTypes := #[]
  resolved := Array.replicate 204 none
  statics := none }

def pool6 : Array CpInfo := pool [(1, .class_ 2), (0, u "com/example/leadlight/leadlight/model/Colour"), (2, u "YELLOW"), (0, u "Lcom/example/leadlight/leadlight/model/Colour;"), (2, u "RED"), (2, u "BLUE"), (2, u "GREEN"), (2, u "PURPLE"), (0, .fieldref 1 20), (0, .nameAndType 21 22), (0, u "$VALUES"), (0, u "[Lcom/example/leadlight/leadlight/model/Colour;"), (0, .methodref 24 25), (0, .class_ 22), (0, .nameAndType 26 27), (0, u "clone"), (0, u "()Ljava/lang/Object;"), (1, .class_ 31), (1, u "java/lang/Enum"), (6, .fieldref 1 39), (0, .nameAndType 40 41), (0, u "letter"), (0, u "C"), (0, .methodref 1 43), (0, .nameAndType 44 45), (0, u "values"), (0, u "()[Lcom/example/leadlight/leadlight/model/Colour;"), (26, u "()C"), (0, u "ofLetter"), (0, u "(C)Lcom/example/leadlight/leadlight/model/Colour;")] 21

def k6c0 : Code := { maxStack := 1, maxLocals := 0, code := prog_14_method_1_code, exceptionTable := #[], attributes := #[] }
def k6m0 : Method := { name := "values", desc := "()[Lcom/example/leadlight/leadlight/model/Colour;", sig := { parameters := [], returnType := some (.array (.object "com/example/leadlight/leadlight/model/Colour")) }, accessFlags := 9, code := some k6c0 }
def k6c1 : Code := { maxStack := 1, maxLocals := 1, code := prog_14_method_4_code, exceptionTable := #[], attributes := #[] }
def k6m1 : Method := { name := "letter", desc := "()C", sig := { parameters := [], returnType := some .char }, accessFlags := 1, code := some k6c1 }
def k6c2 : Code := { maxStack := 3, maxLocals := 5, code := prog_14_method_5_code, exceptionTable := #[], attributes := #[] }
def k6m2 : Method := { name := "ofLetter", desc := "(C)Lcom/example/leadlight/leadlight/model/Colour;", sig := { parameters := [.char], returnType := some (.object "com/example/leadlight/leadlight/model/Colour") }, accessFlags := 9, code := some k6c2 }
/-- com/example/leadlight/leadlight/model/Colour -/
def k6 : Class := { plain "com/example/leadlight/leadlight/model/Colour" (some 5) with
  accessFlags := 16433
  interfaces := #[]
  cf := some (fileOf pool6 1 #[] #[{ accessFlags := 9, nameIndex := 44, descriptorIndex := 45, attributes := #[] }, { accessFlags := 1, nameIndex := 40, descriptorIndex := 72, attributes := #[] }, { accessFlags := 9, nameIndex := 73, descriptorIndex := 74, attributes := #[] }] 16433 29 #[] #[{ accessFlags := 16409, nameIndex := 5, descriptorIndex := 6, attributes := #[] }, { accessFlags := 16409, nameIndex := 9, descriptorIndex := 6, attributes := #[] }, { accessFlags := 16409, nameIndex := 12, descriptorIndex := 6, attributes := #[] }, { accessFlags := 16409, nameIndex := 15, descriptorIndex := 6, attributes := #[] }, { accessFlags := 16409, nameIndex := 18, descriptorIndex := 6, attributes := #[] }, { accessFlags := 18, nameIndex := 40, descriptorIndex := 41, attributes := #[] }, { accessFlags := 4122, nameIndex := 21, descriptorIndex := 22, attributes := #[] }])
  fields := #[{ name := "YELLOW", type := (.object "com/example/leadlight/leadlight/model/Colour"), accessFlags := 16409, slot := 0, constantValue := 0 }, { name := "RED", type := (.object "com/example/leadlight/leadlight/model/Colour"), accessFlags := 16409, slot := 1, constantValue := 0 }, { name := "BLUE", type := (.object "com/example/leadlight/leadlight/model/Colour"), accessFlags := 16409, slot := 2, constantValue := 0 }, { name := "GREEN", type := (.object "com/example/leadlight/leadlight/model/Colour"), accessFlags := 16409, slot := 3, constantValue := 0 }, { name := "PURPLE", type := (.object "com/example/leadlight/leadlight/model/Colour"), accessFlags := 16409, slot := 4, constantValue := 0 }, { name := "letter", type := .char, accessFlags := 18, slot := 3, constantValue := 0 }, { name := "$VALUES", type := (.array (.object "com/example/leadlight/leadlight/model/Colour")), accessFlags := 4122, slot := 5, constantValue := 0 }]
  methods := #[k6m0, k6m1, k6m2]
  instanceTypes := #[(.object "java/lang/String"), .int, .int, .char]
  staticTypes := #[(.object "com/example/leadlight/leadlight/model/Colour"), (.object "com/example/leadlight/leadlight/model/Colour"), (.object "com/example/leadlight/leadlight/model/Colour"), (.object "com/example/leadlight/leadlight/model/Colour"), (.object "com/example/leadlight/leadlight/model/Colour"), (.array (.object "com/example/leadlight/leadlight/model/Colour"))]
  resolved := Array.replicate 96 none
  statics := some 0 }

def pool7 : Array CpInfo := pool [(1, .class_ 2), (0, u "java/lang/Cloneable"), (0, .class_ 4), (0, u "java/lang/Object")] 2

/-- java/lang/Cloneable -/
def k7 : Class := { plain "java/lang/Cloneable" (some 0) with
  accessFlags := 1537
  interfaces := #[]
  cf := some (fileOf pool7 1 #[] #[] 1537 3 #[] #[])
  fields := #[]
  methods := #[]
  instanceTypes := #[]
  staticTypes := #[]
  resolved := Array.replicate 7 none
  statics := none }

/-- the primitive byte -/
def k8 : Class := { plain "byte" none with kind := .primitive 'B', accessFlags := 0x411 }
/-- [B -/
def k9 : Class := { plain "[B" (some 0) with kind := .array 8 .byte, interfaces := #[7, 4], accessFlags := 1041 }

/-- the primitive int -/
def k10 : Class := { plain "int" none with kind := .primitive 'I', accessFlags := 0x411 }
/-- [I -/
def k11 : Class := { plain "[I" (some 0) with kind := .array 10 .int, interfaces := #[7, 4], accessFlags := 1041 }

/-- [Lcom/example/leadlight/leadlight/model/Colour; -/
def k12 : Class := { plain "[Lcom/example/leadlight/leadlight/model/Colour;" (some 0) with kind := .array 6 (.object "com/example/leadlight/leadlight/model/Colour"), interfaces := #[7, 4], accessFlags := 1041 }

def heap : Heap := #[{ cls := 6, slots := #[.ref 2, .ref 3, .ref 4, .ref 5, .ref 6, .ref 1], vm := .statics 6 },
  { cls := 12, slots := #[.ref 2, .ref 3, .ref 4, .ref 5, .ref 6], vm := .none },
  { cls := 6, slots := #[.null, .int 0, .int 0, .int 89], vm := .none },
  { cls := 6, slots := #[.null, .int 1, .int 0, .int 82], vm := .none },
  { cls := 6, slots := #[.null, .int 2, .int 0, .int 66], vm := .none },
  { cls := 6, slots := #[.null, .int 3, .int 0, .int 71], vm := .none },
  { cls := 6, slots := #[.null, .int 4, .int 0, .int 80], vm := .none }]
def classes : Array Class := #[k0, k1, k2, k3, k4, k5, k6, k7, k8, k9, k10, k11, k12]
def interned : List (Array UInt16 × Addr) := []
def slotsUsed : Nat := 31
def theMethod : MethodId := ⟨1, 3⟩
def args0 : Array Value := #[.int 5]
def aboutOver (below : List Frame) : State where
  vm := { classes := classes, interned := interned.toArray }
  heap := heap
  slotsUsed := slotsUsed
  threads := #[{ frames := .invoking theMethod args0 :: below }]
def below0 : List Frame := [.native { method := ⟨0, 0⟩, args := #[] }]
def about1 : State := aboutOver below0
def p0 : Program := .bare "" "" ""
def e0 : Env := launch0.env 0 0 0
theorem w_frames : about1.frames = Frame.invoking theMethod args0 :: below0 := rfl
set_option maxRecDepth 65536 in
theorem w_args : argsFit about1.vm theMethod args0 = true := by decide +kernel
set_option maxRecDepth 65536 in
theorem w_heap : heapFits about1 = true := by decide +kernel
set_option maxRecDepth 65536 in
theorem w_runnable : about1.curStatus? = some .runnable := by decide +kernel
set_option maxRecDepth 65536 in
theorem w_alone : about1.alone = true := by decide +kernel
set_option maxRecDepth 65536 in
theorem w_named : about1.methodNamed? x = some theMethod := by decide +kernel
set_option maxRecDepth 65536 in
theorem w_hears : about1.hears theMethod below0 = true := by decide +kernel
set_option maxRecDepth 65536 in
theorem w_ripe : about1.ripe theMethod args0 below0 = true := by decide +kernel
theorem w_running : about1.status = .running := rfl
set_option maxRecDepth 65536 in
theorem w_room : about1.hasRoom e0.platform room_1 = true :=
  launch0.hasRoom_least _ room_1 (by decide +kernel) (by decide +kernel) (by decide +kernel) (by decide +kernel) (by decide +kernel) (by decide +kernel)
theorem allAtoms_all (ts : List Jvm.Cond) (a : Array Jvm.Value) (st : Jvm.State) : (allAtoms ts).before a st = ts.all (fun c => c.before a st) := by
  induction ts with
  | nil => rfl
  | cons c t ih =>
    show (Jvm.Cond.and c (allAtoms t)).before a st = _
    rw [Jvm.Cond.before_and, ih, List.all_cons]
def words1 : List Jvm.Cond := Jvm.Cond.code x code maxLocals ret :: tables_1
/-- a 'code' word, met by the world's own term for the bytes: nothing is compared byte by byte -/
theorem code_word {y : MethodName} {bytes : ByteArray} {mx : Nat} {rt : Option FieldType} {a : Array Value} {s : State} {m : MethodId} {meth : Method} {c : Code} (h1 : s.methodNamed? y = some m) (h2 : s.vm.method? m = some meth) (h3 : meth.code = some c) (h4 : c.code = bytes)
    (h5 : (c.maxLocals == mx && c.exceptionTable.isEmpty && decide (c.maxStack ≤ mostOperands) && decide (meth.sig.returnType = rt) && !meth.locks && decide (parseMethodDescriptor y.desc = some meth.sig)) = true) : (Jvm.Cond.code y bytes mx rt).before a s = true := by
  simp only [Bool.and_eq_true, beq_iff_eq, Bool.not_eq_true', decide_eq_true_eq] at h5
  obtain ⟨⟨⟨⟨⟨g1, g2⟩, g3⟩, g4⟩, g5⟩, g6⟩ := h5
  simp [Cond.before, Cond.holds, Cond.value, h1, h2, h3, h4, g1, g2, g3, g4, g5, g6]
def isCode : Jvm.Cond → Bool
  | .code _ _ _ _ => true
  | _ => false
theorem all_split {L : List Jvm.Cond} {P : Jvm.Cond → Bool} (h1 : L.all (fun c => isCode c || P c) = true) (h2 : ∀ c ∈ L.filter isCode, P c = true) : L.all P = true := by
  refine List.all_eq_true.mpr fun c hc => ?_
  have h := List.all_eq_true.mp h1 c hc
  rcases Bool.eq_false_or_eq_true (isCode c) with hi | hi
  · exact h2 c (List.mem_filter.mpr ⟨hc, hi⟩)
  · simpa [hi] using h
set_option maxRecDepth 65536 in
theorem w_c0 : (Jvm.Cond.code x code maxLocals ret).before args0 about1 = true := code_word (m := ⟨1, 3⟩) (meth := k1m3) (c := k1c3) (by decide +kernel) rfl rfl rfl (by decide +kernel)
set_option maxRecDepth 65536 in
theorem w_c1 : (Jvm.Cond.code ({ cls := "com/example/leadlight/leadlight/model/ColourOfLetterPinLaw", name := "letterAt", desc := "(I)C" } : Jvm.MethodName) method_2_code (1 : Nat) (Option.some Jvm.ClassFile.FieldType.char)).before args0 about1 = true := code_word (m := ⟨1, 1⟩) (meth := k1m1) (c := k1c1) (by decide +kernel) rfl rfl rfl (by decide +kernel)
set_option maxRecDepth 65536 in
theorem w_c2 : (Jvm.Cond.code ({ cls := "com/example/leadlight/leadlight/model/ColourOfLetterPinLaw", name := "colourAt", desc := "(I)Lcom/example/leadlight/leadlight/model/Colour;" } : Jvm.MethodName) method_3_code (1 : Nat) (Option.some (Jvm.ClassFile.FieldType.object "com/example/leadlight/leadlight/model/Colour"))).before args0 about1 = true := code_word (m := ⟨1, 2⟩) (meth := k1m2) (c := k1c2) (by decide +kernel) rfl rfl rfl (by decide +kernel)
set_option maxRecDepth 65536 in
theorem w_c3 : (Jvm.Cond.code ({ cls := "com/example/leadlight/leadlight/model/Colour", name := "ofLetter", desc := "(C)Lcom/example/leadlight/leadlight/model/Colour;" } : Jvm.MethodName) prog_14_method_5_code (5 : Nat) (Option.some (Jvm.ClassFile.FieldType.object "com/example/leadlight/leadlight/model/Colour"))).before args0 about1 = true := code_word (m := ⟨6, 2⟩) (meth := k6m2) (c := k6c2) (by decide +kernel) rfl rfl rfl (by decide +kernel)
set_option maxRecDepth 65536 in
theorem w_c4 : (Jvm.Cond.code ({ cls := "com/example/leadlight/leadlight/model/Colour", name := "values", desc := "()[Lcom/example/leadlight/leadlight/model/Colour;" } : Jvm.MethodName) prog_14_method_1_code (0 : Nat) (Option.some (Jvm.ClassFile.FieldType.array (Jvm.ClassFile.FieldType.object "com/example/leadlight/leadlight/model/Colour")))).before args0 about1 = true := code_word (m := ⟨6, 0⟩) (meth := k6m0) (c := k6c0) (by decide +kernel) rfl rfl rfl (by decide +kernel)
set_option maxRecDepth 65536 in
theorem w_c5 : (Jvm.Cond.code ({ cls := "com/example/leadlight/leadlight/model/Colour", name := "letter", desc := "()C" } : Jvm.MethodName) prog_14_method_4_code (1 : Nat) (Option.some Jvm.ClassFile.FieldType.char)).before args0 about1 = true := code_word (m := ⟨6, 1⟩) (meth := k6m1) (c := k6c1) (by decide +kernel) rfl rfl rfl (by decide +kernel)
def codes1 : List Jvm.Cond := [Jvm.Cond.code x code maxLocals ret, Jvm.Cond.code ({ cls := "com/example/leadlight/leadlight/model/ColourOfLetterPinLaw", name := "letterAt", desc := "(I)C" } : Jvm.MethodName) method_2_code (1 : Nat) (Option.some Jvm.ClassFile.FieldType.char), Jvm.Cond.code ({ cls := "com/example/leadlight/leadlight/model/ColourOfLetterPinLaw", name := "colourAt", desc := "(I)Lcom/example/leadlight/leadlight/model/Colour;" } : Jvm.MethodName) method_3_code (1 : Nat) (Option.some (Jvm.ClassFile.FieldType.object "com/example/leadlight/leadlight/model/Colour")), Jvm.Cond.code ({ cls := "com/example/leadlight/leadlight/model/Colour", name := "ofLetter", desc := "(C)Lcom/example/leadlight/leadlight/model/Colour;" } : Jvm.MethodName) prog_14_method_5_code (5 : Nat) (Option.some (Jvm.ClassFile.FieldType.object "com/example/leadlight/leadlight/model/Colour")), Jvm.Cond.code ({ cls := "com/example/leadlight/leadlight/model/Colour", name := "values", desc := "()[Lcom/example/leadlight/leadlight/model/Colour;" } : Jvm.MethodName) prog_14_method_1_code (0 : Nat) (Option.some (Jvm.ClassFile.FieldType.array (Jvm.ClassFile.FieldType.object "com/example/leadlight/leadlight/model/Colour"))), Jvm.Cond.code ({ cls := "com/example/leadlight/leadlight/model/Colour", name := "letter", desc := "()C" } : Jvm.MethodName) prog_14_method_4_code (1 : Nat) (Option.some Jvm.ClassFile.FieldType.char)]
set_option maxRecDepth 65536 in
theorem codes_eq : words1.filter isCode = codes1 := rfl
theorem w_codes : ∀ c ∈ words1.filter isCode, c.before args0 about1 = true := by
  rw [codes_eq]
  intro c hc
  simp only [codes1, List.mem_cons, List.not_mem_nil, or_false] at hc
  rcases hc with rfl | rfl | rfl | rfl | rfl | rfl
  · exact w_c0
  · exact w_c1
  · exact w_c2
  · exact w_c3
  · exact w_c4
  · exact w_c5
set_option maxRecDepth 65536 in
theorem w_t1 : (words1.take 24).all (fun c => isCode c || c.before args0 about1) = true := by decide +kernel
set_option maxRecDepth 65536 in
theorem w_t2 : (words1.drop 24).all (fun c => isCode c || c.before args0 about1) = true := by decide +kernel
theorem w_tables : (allAtoms (Jvm.Cond.code x code maxLocals ret :: tables_1)).before args0 about1 = true := by
  rw [allAtoms_all]
  show words1.all (fun c => c.before args0 about1) = true
  refine all_split ?_ w_codes
  rw [← List.take_append_drop 24 words1, List.all_append, w_t1, w_t2]
  rfl
set_option maxRecDepth 65536 in
theorem w_case : (Jvm.Cond.and given_1 narrow_1).before args0 about1 = true := by decide +kernel
theorem w_applies : (headSpec (Jvm.Cond.code x code maxLocals ret :: tables_1) room_1).applies x e0.platform about1 = true :=
  (Spec.applies_iff w_frames).mpr ⟨w_running, w_runnable, w_alone, w_named, w_hears, w_ripe, w_room, w_tables⟩
theorem atStart : AtStart classFile x code maxLocals ret World_1 tables_1 room_1 Calls_1 rest_1 Pre_1 launch0 p0 e0 about1 theMethod args0 below0 :=
  ⟨lists_1, trivial, launch0.admits_env _ _ _, launch0.least_env, fairChoices_fair.cas, fairChoices_fair.clock, w_frames, w_args, w_heap, w_applies, trivial, trivial, w_case⟩
end start1
theorem witness_1 : WitnessClaimed_1 := ⟨start1.p0, start1.e0, start1.about1, start1.theMethod, start1.args0, start1.below0, start1.atStart⟩
end Jvm.Pilot.@@N@@
