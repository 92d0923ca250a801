import JvmDerived
import JvmDerived.Pilot.@@N@@Statement
import JvmDerived.Pilot.@@N@@Code
set_option linter.unusedVariables false
set_option linter.unusedSimpArgs false
namespace Jvm.RoadKit
open Sem ClassFile Op Lib Jvm.Stand Jvm.Free Jvm.LawKit
/-- what a walk knows of the method that it walks -/
def Own (Z : State) (y : MethodName) (bytes : ByteArray) (maxL : Nat) (ret : Option FieldType) (p : Program) (s : State) (m : MethodId) (meth : Method) (c : Code) : Prop :=
  p.tables.exec = Jvm.exec ∧ c.code = bytes ∧ c.maxLocals = maxL ∧ s.vm.findClass y.cls = some m.cls ∧ meth.name = y.name ∧ Z.Warmed39 s.vm ∧ meth.sig.returnType = ret ∧ meth.locks = false
/-- how the start s over which the walk stands belongs to the true start s0 (wd: strings may have been interned since) -/
def GoRel (wd : Bool) (s0 s : State) (k : Nat) : Prop := match wd with
  | false => s0 = s
  | true => ∃ (vm0 : Vm) (k0 : Nat), s = s0.setVm vm0 ∧ s0.Since vm0 k0 ∧ k0 ≤ k
/-- the frame of the end -/
def GoEnd (wd : Bool) (s0 : State) (o : Outcome) (t : State) (L : List Loc) (K N : Nat) : Prop := match wd with
  | false => FrameEnd s0 o t L K N
  | true => ReturnedEndW s0 o t L K N
theorem GoRel.mono {wd : Bool} {s0 s : State} {k k' : Nat} (h : GoRel wd s0 s k) (q : k ≤ k') : GoRel wd s0 s k' := by
  cases wd
  · exact h
  · obtain ⟨vm0, k0, h1, h2, h3⟩ := h; exact ⟨vm0, k0, h1, h2, Nat.le_trans h3 q⟩
theorem GoRel.refl (wd : Bool) (s : State) (k : Nat) : GoRel wd s s k := by
  cases wd
  · rfl
  · exact ⟨s.vm, 0, rfl, (State.WarmedH.refl s).since 0, Nat.zero_le _⟩
theorem GoEnd.grow {wd : Bool} {s0 t : State} {o : Outcome} {L : List Loc} {K N : Nat} (h : GoEnd wd s0 o t L K N) : s0.heap.size ≤ t.heap.size := by
  cases wd
  · exact h.2.2.2.1
  · exact h.2.2.2.2.1
theorem GoRel.ended {wd : Bool} {s0 s : State} {v : Option Value} {U : State} {locs : List Loc} {c k c' k' : Nat} (h : GoRel wd s0 s U.heap.size) (hW : s.WarmedH U.vm) (hs : s.sameButNew ({ U with vm := s.vm } : State) locs c k) (hc : c ≤ c') (hk : k ≤ k') : GoEnd wd s0 (.returned v) U locs c' k' := by
  cases wd
  · obtain rfl : s0 = s := h
    exact ⟨⟨_, rfl⟩, hW, hs.mono hc hk⟩
  · obtain ⟨vm0, k0, rfl, h2, h3⟩ := h
    obtain ⟨q1, q2, q3⟩ := h2.ended hW h3 hs
    exact ⟨⟨_, rfl⟩, q1, q2, q3.mono hc hk⟩
/-- from pc, Ls, st over the heap h (so many cells and slots made so far) the walk comes to its end, and Q holds of what it returns and of the heap there; what it wrote lies at or above n0 -/
def Go (wd : Bool) (l : Launch) (R : Room) (Z : State) (y : MethodName) (bytes : ByteArray) (maxL : Nat) (ret : Option FieldType) (n0 K N : Nat) (Q : Option Value → Heap → Prop) (h : Heap) (cells slots pc : Nat) (Ls : Array Slot) (st : List Value) : Prop :=
  ∀ (p : Program) (e : Env) (s0 s : State) (m : MethodId) (args : Array Value) (below : List Frame) (meth : Method) (c : Code) (T : State) (locs : List Loc),
    GoRel wd s0 s h.size → Own Z y bytes maxL ret p s m meth c → Stand p l e R s m args below meth c T locs cells slots → T.heap = h → Fr n0 locs →
    ∃ s₂ o, Steps p.tables e below (T.setTop (mkF m pc Ls st)) s₂ ∧ s₂.status = .running ∧ Ended s₂ below o ∧ ∃ v L, o = .returned v ∧ (Q v s₂.heap ∧ Fr n0 L) ∧ GoEnd wd s0 o s₂ L K N
section GoLaws
variable {wd : Bool} {l : Launch} {R : Room} {Z : State} {y : MethodName} {bytes : ByteArray} {maxL : Nat} {ret : Option FieldType} {n0 K N : Nat} {Q : Option Value → Heap → Prop} {h : Heap} {cells slots pc pc' : Nat} {Ls Ls' : Array Slot} {st st' : List Value} {a0 : Array Value}
theorem Go.of (k : Go wd l R Z y bytes maxL ret n0 K N Q h cells slots pc' Ls' st')
    (q : ∀ (p : Program) (e : Env) (s : State) (m : MethodId) (args : Array Value) (below : List Frame) (meth : Method) (c : Code) (T : State) (locs : List Loc), Own Z y bytes maxL ret p s m meth c → Stand p l e R s m args below meth c T locs cells slots → T.heap = h →
      ∀ target, Steps p.tables e below (T.setTop (mkF m pc' Ls' st')) target → Steps p.tables e below (T.setTop (mkF m pc Ls st)) target) : Go wd l R Z y bytes maxL ret n0 K N Q h cells slots pc Ls st := by
  intro p e s0 s m args below meth c T locs hR O X eT F
  obtain ⟨s₂, o, h1, r⟩ := k p e s0 s m args below meth c T locs hR O X eT F
  exact ⟨s₂, o, q p e s m args below meth c T locs O X eT _ h1, r⟩
theorem Go.weaken {Q' : Option Value → Heap → Prop} (hQ : ∀ v h, Q' v h → Q v h) (k : Go wd l R Z y bytes maxL ret n0 K N Q' h cells slots pc Ls st) : Go wd l R Z y bytes maxL ret n0 K N Q h cells slots pc Ls st := by
  intro p e s0 s m args below meth c T locs hR O X eT F
  obtain ⟨s₂, o, h1, h2, h3, v, L, h4, h5, h6⟩ := k p e s0 s m args below meth c T locs hR O X eT F
  exact ⟨s₂, o, h1, h2, h3, v, L, h4, ⟨hQ _ _ h5.1, h5.2⟩, h6⟩
/-! plain steps -/
theorem Go.iload {k : Nat} {v : Int32} (hd : decode bytes pc = .ok (.iload k, 2)) (hl : Ls[k]? = some (.val (.int v))) (hp : pc + 2 = pc') (q : Go wd l R Z y bytes maxL ret n0 K N Q h cells slots pc' Ls (.int v :: st)) : Go wd l R Z y bytes maxL ret n0 K N Q h cells slots pc Ls st := by
  subst hp; exact Go.of q fun p e s m args below meth c T locs O X eT t hr => XS.iload X.here O.1 rfl (hb O.2.1 hd) hl hr
theorem Go.iloadN {k : Fin 4} {v : Int32} (hd : decode bytes pc = .ok (.iload_n k, 1)) (hl : Ls[k.val]? = some (.val (.int v))) (hp : pc + 1 = pc') (q : Go wd l R Z y bytes maxL ret n0 K N Q h cells slots pc' Ls (.int v :: st)) : Go wd l R Z y bytes maxL ret n0 K N Q h cells slots pc Ls st := by
  subst hp; exact Go.of q fun p e s m args below meth c T locs O X eT t hr => XS.iloadN X.here O.1 rfl (hb O.2.1 hd) hl hr
theorem Go.lload {k : Nat} {v : Int64} (hd : decode bytes pc = .ok (.lload k, 2)) (hl : Ls[k]? = some (.val (.long v))) (hp : pc + 2 = pc') (q : Go wd l R Z y bytes maxL ret n0 K N Q h cells slots pc' Ls (.long v :: st)) : Go wd l R Z y bytes maxL ret n0 K N Q h cells slots pc Ls st := by
  subst hp; exact Go.of q fun p e s m args below meth c T locs O X eT t hr => XS.lload X.here O.1 rfl (hb O.2.1 hd) hl hr
theorem Go.lloadN {k : Fin 4} {v : Int64} (hd : decode bytes pc = .ok (.lload_n k, 1)) (hl : Ls[k.val]? = some (.val (.long v))) (hp : pc + 1 = pc') (q : Go wd l R Z y bytes maxL ret n0 K N Q h cells slots pc' Ls (.long v :: st)) : Go wd l R Z y bytes maxL ret n0 K N Q h cells slots pc Ls st := by
  subst hp; exact Go.of q fun p e s m args below meth c T locs O X eT t hr => XS.lloadN X.here O.1 rfl (hb O.2.1 hd) hl hr
theorem Go.aload {k : Nat} {v : Value} (hd : decode bytes pc = .ok (.aload k, 2)) (hl : Ls[k]? = some (.val v)) (hv : v.isRef = true) (hp : pc + 2 = pc') (q : Go wd l R Z y bytes maxL ret n0 K N Q h cells slots pc' Ls (v :: st)) : Go wd l R Z y bytes maxL ret n0 K N Q h cells slots pc Ls st := by
  subst hp; exact Go.of q fun p e s m args below meth c T locs O X eT t hr => XS.aload X.here O.1 rfl (hb O.2.1 hd) hl hv hr
theorem Go.aloadN {k : Fin 4} {v : Value} (hd : decode bytes pc = .ok (.aload_n k, 1)) (hl : Ls[k.val]? = some (.val v)) (hv : v.isRef = true) (hp : pc + 1 = pc') (q : Go wd l R Z y bytes maxL ret n0 K N Q h cells slots pc' Ls (v :: st)) : Go wd l R Z y bytes maxL ret n0 K N Q h cells slots pc Ls st := by
  subst hp; exact Go.of q fun p e s m args below meth c T locs O X eT t hr => XS.aloadN X.here O.1 rfl (hb O.2.1 hd) hl hv hr
theorem Go.istore {k : Nat} {v : Int32} (hd : decode bytes pc = .ok (.istore k, 2)) (hl : storeLocals Ls k (.int v) = some Ls') (hp : pc + 2 = pc') (q : Go wd l R Z y bytes maxL ret n0 K N Q h cells slots pc' Ls' st) : Go wd l R Z y bytes maxL ret n0 K N Q h cells slots pc Ls (.int v :: st) := by
  subst hp; exact Go.of q fun p e s m args below meth c T locs O X eT t hr => XS.istore X.here O.1 rfl (hb O.2.1 hd) rfl hl hr
theorem Go.istoreN {k : Fin 4} {v : Int32} (hd : decode bytes pc = .ok (.istore_n k, 1)) (hl : storeLocals Ls k.val (.int v) = some Ls') (hp : pc + 1 = pc') (q : Go wd l R Z y bytes maxL ret n0 K N Q h cells slots pc' Ls' st) : Go wd l R Z y bytes maxL ret n0 K N Q h cells slots pc Ls (.int v :: st) := by
  subst hp; exact Go.of q fun p e s m args below meth c T locs O X eT t hr => XS.istoreN X.here O.1 rfl (hb O.2.1 hd) rfl hl hr
theorem Go.lstore {k : Nat} {v : Int64} (hd : decode bytes pc = .ok (.lstore k, 2)) (hl : storeLocals Ls k (.long v) = some Ls') (hp : pc + 2 = pc') (q : Go wd l R Z y bytes maxL ret n0 K N Q h cells slots pc' Ls' st) : Go wd l R Z y bytes maxL ret n0 K N Q h cells slots pc Ls (.long v :: st) := by
  subst hp; exact Go.of q fun p e s m args below meth c T locs O X eT t hr => XS.lstore X.here O.1 rfl (hb O.2.1 hd) rfl hl hr
theorem Go.lstoreN {k : Fin 4} {v : Int64} (hd : decode bytes pc = .ok (.lstore_n k, 1)) (hl : storeLocals Ls k.val (.long v) = some Ls') (hp : pc + 1 = pc') (q : Go wd l R Z y bytes maxL ret n0 K N Q h cells slots pc' Ls' st) : Go wd l R Z y bytes maxL ret n0 K N Q h cells slots pc Ls (.long v :: st) := by
  subst hp; exact Go.of q fun p e s m args below meth c T locs O X eT t hr => XS.lstoreN X.here O.1 rfl (hb O.2.1 hd) rfl hl hr
theorem Go.astore {k : Nat} {v : Value} (hd : decode bytes pc = .ok (.astore k, 2)) (hv : v.isRef = true) (hl : storeLocals Ls k v = some Ls') (hp : pc + 2 = pc') (q : Go wd l R Z y bytes maxL ret n0 K N Q h cells slots pc' Ls' st) : Go wd l R Z y bytes maxL ret n0 K N Q h cells slots pc Ls (v :: st) := by
  subst hp; exact Go.of q fun p e s m args below meth c T locs O X eT t hr => XS.astore X.here O.1 rfl (hb O.2.1 hd) rfl hv hl hr
theorem Go.astoreN {k : Fin 4} {v : Value} (hd : decode bytes pc = .ok (.astore_n k, 1)) (hv : v.isRef = true) (hl : storeLocals Ls k.val v = some Ls') (hp : pc + 1 = pc') (q : Go wd l R Z y bytes maxL ret n0 K N Q h cells slots pc' Ls' st) : Go wd l R Z y bytes maxL ret n0 K N Q h cells slots pc Ls (v :: st) := by
  subst hp; exact Go.of q fun p e s m args below meth c T locs O X eT t hr => XS.astoreN X.here O.1 rfl (hb O.2.1 hd) rfl hv hl hr
theorem Go.iinc {k : Nat} {cst : Int} {v w : Int32} (hd : decode bytes pc = .ok (.iinc k cst, 3)) (hl : Ls[k]? = some (.val (.int v))) (hw : v + Int32.ofInt cst = w) (hl' : storeLocals Ls k (.int w) = some Ls') (hp : pc + 3 = pc') (q : Go wd l R Z y bytes maxL ret n0 K N Q h cells slots pc' Ls' st) : Go wd l R Z y bytes maxL ret n0 K N Q h cells slots pc Ls st := by
  subst hp hw; exact Go.of q fun p e s m args below meth c T locs O X eT t hr => XS.iinc X.here O.1 rfl (hb O.2.1 hd) hl hl' hr
theorem Go.iconst {i : Int} {v : Int32} (hd : decode bytes pc = .ok (.iconst i, 1)) (hv : Int32.ofInt i = v) (hp : pc + 1 = pc') (q : Go wd l R Z y bytes maxL ret n0 K N Q h cells slots pc' Ls (.int v :: st)) : Go wd l R Z y bytes maxL ret n0 K N Q h cells slots pc Ls st := by
  subst hp hv; exact Go.of q fun p e s m args below meth c T locs O X eT t hr => XS.iconst X.here O.1 rfl (hb O.2.1 hd) hr
theorem Go.bipush {i : Int} {v : Int32} (hd : decode bytes pc = .ok (.bipush i, 2)) (hv : (Int8.ofInt i).toInt32 = v) (hp : pc + 2 = pc') (q : Go wd l R Z y bytes maxL ret n0 K N Q h cells slots pc' Ls (.int v :: st)) : Go wd l R Z y bytes maxL ret n0 K N Q h cells slots pc Ls st := by
  subst hp hv; exact Go.of q fun p e s m args below meth c T locs O X eT t hr => XS.bipush X.here O.1 rfl (hb O.2.1 hd) hr
theorem Go.sipush {i : Int} {v : Int32} (hd : decode bytes pc = .ok (.sipush i, 3)) (hv : (Int16.ofInt i).toInt32 = v) (hp : pc + 3 = pc') (q : Go wd l R Z y bytes maxL ret n0 K N Q h cells slots pc' Ls (.int v :: st)) : Go wd l R Z y bytes maxL ret n0 K N Q h cells slots pc Ls st := by
  subst hp hv; exact Go.of q fun p e s m args below meth c T locs O X eT t hr => XS.sipush X.here O.1 rfl (hb O.2.1 hd) hr
theorem Go.lconst {k : Fin 2} {v : Int64} (hd : decode bytes pc = .ok (.lconst k, 1)) (hv : Int64.ofNat k = v) (hp : pc + 1 = pc') (q : Go wd l R Z y bytes maxL ret n0 K N Q h cells slots pc' Ls (.long v :: st)) : Go wd l R Z y bytes maxL ret n0 K N Q h cells slots pc Ls st := by
  subst hp hv; exact Go.of q fun p e s m args below meth c T locs O X eT t hr => XS.lconst X.here O.1 rfl (hb O.2.1 hd) hr
theorem Go.aconstNull (hd : decode bytes pc = .ok (.aconst_null, 1)) (hp : pc + 1 = pc') (q : Go wd l R Z y bytes maxL ret n0 K N Q h cells slots pc' Ls (.null :: st)) : Go wd l R Z y bytes maxL ret n0 K N Q h cells slots pc Ls st := by
  subst hp; exact Go.of q fun p e s m args below meth c T locs O X eT t hr => XS.aconstNull X.here O.1 rfl (hb O.2.1 hd) hr
theorem Go.dup {v : Value} (hd : decode bytes pc = .ok (.dup, 1)) (hv : v.category = 1) (hp : pc + 1 = pc') (q : Go wd l R Z y bytes maxL ret n0 K N Q h cells slots pc' Ls (v :: v :: st)) : Go wd l R Z y bytes maxL ret n0 K N Q h cells slots pc Ls (v :: st) := by
  subst hp; exact Go.of q fun p e s m args below meth c T locs O X eT t hr => XS.dup X.here O.1 rfl (hb O.2.1 hd) rfl hv hr
theorem Go.dupX1 {v w : Value} (hd : decode bytes pc = .ok (.dup_x1, 1)) (hv : v.category = 1) (hw : w.category = 1) (hp : pc + 1 = pc') (q : Go wd l R Z y bytes maxL ret n0 K N Q h cells slots pc' Ls (v :: w :: v :: st)) : Go wd l R Z y bytes maxL ret n0 K N Q h cells slots pc Ls (v :: w :: st) := by
  subst hp; exact Go.of q fun p e s m args below meth c T locs O X eT t hr => XS.dupX1 X.here O.1 rfl (hb O.2.1 hd) rfl hv hw hr
theorem Go.dup2 {v w : Value} (hd : decode bytes pc = .ok (.dup2, 1)) (hv : v.category = 1) (hw : w.category = 1) (hp : pc + 1 = pc') (q : Go wd l R Z y bytes maxL ret n0 K N Q h cells slots pc' Ls (v :: w :: v :: w :: st)) : Go wd l R Z y bytes maxL ret n0 K N Q h cells slots pc Ls (v :: w :: st) := by
  subst hp; exact Go.of q fun p e s m args below meth c T locs O X eT t hr => XT.dup2 X.here O.1 rfl (hb O.2.1 hd) rfl hv hw hr
theorem Go.pop {v : Value} (hd : decode bytes pc = .ok (.pop, 1)) (hv : v.category = 1) (hp : pc + 1 = pc') (q : Go wd l R Z y bytes maxL ret n0 K N Q h cells slots pc' Ls st) : Go wd l R Z y bytes maxL ret n0 K N Q h cells slots pc Ls (v :: st) := by
  subst hp; exact Go.of q fun p e s m args below meth c T locs O X eT t hr => XS.pop X.here O.1 rfl (hb O.2.1 hd) rfl hv hr
theorem Go.goto {o : Int} (hd : decode bytes pc = .ok (.goto o, 3)) (ho : 0 ≤ (pc : Int) + o) (hp : ((pc : Int) + o).toNat = pc') (q : Go wd l R Z y bytes maxL ret n0 K N Q h cells slots pc' Ls st) : Go wd l R Z y bytes maxL ret n0 K N Q h cells slots pc Ls st :=
  Go.of q fun p e s m args below meth c T locs O X eT t hr => XS.goto X.here O.1 rfl (pc0 := pc) rfl (hb O.2.1 hd) ho hp hr
theorem Go.iadd {a : Int32} {b : Int32} (hd : decode bytes pc = .ok (.iadd, 1)) (hp : pc + 1 = pc') (q : Go wd l R Z y bytes maxL ret n0 K N Q h cells slots pc' Ls (.int (a + b) :: st)) : Go wd l R Z y bytes maxL ret n0 K N Q h cells slots pc Ls (.int b :: .int a :: st) := by
  subst hp; exact Go.of q fun p e s m args below meth c T locs O X eT t hr => XS.iadd X.here O.1 rfl (hb O.2.1 hd) rfl hr
theorem Go.isub {a : Int32} {b : Int32} (hd : decode bytes pc = .ok (.isub, 1)) (hp : pc + 1 = pc') (q : Go wd l R Z y bytes maxL ret n0 K N Q h cells slots pc' Ls (.int (a - b) :: st)) : Go wd l R Z y bytes maxL ret n0 K N Q h cells slots pc Ls (.int b :: .int a :: st) := by
  subst hp; exact Go.of q fun p e s m args below meth c T locs O X eT t hr => XS.isub X.here O.1 rfl (hb O.2.1 hd) rfl hr
theorem Go.imul {a : Int32} {b : Int32} (hd : decode bytes pc = .ok (.imul, 1)) (hp : pc + 1 = pc') (q : Go wd l R Z y bytes maxL ret n0 K N Q h cells slots pc' Ls (.int (a * b) :: st)) : Go wd l R Z y bytes maxL ret n0 K N Q h cells slots pc Ls (.int b :: .int a :: st) := by
  subst hp; exact Go.of q fun p e s m args below meth c T locs O X eT t hr => XS.imul X.here O.1 rfl (hb O.2.1 hd) rfl hr
theorem Go.iand {a : Int32} {b : Int32} (hd : decode bytes pc = .ok (.iand, 1)) (hp : pc + 1 = pc') (q : Go wd l R Z y bytes maxL ret n0 K N Q h cells slots pc' Ls (.int (a &&& b) :: st)) : Go wd l R Z y bytes maxL ret n0 K N Q h cells slots pc Ls (.int b :: .int a :: st) := by
  subst hp; exact Go.of q fun p e s m args below meth c T locs O X eT t hr => XS.iand X.here O.1 rfl (hb O.2.1 hd) rfl hr
theorem Go.ior {a : Int32} {b : Int32} (hd : decode bytes pc = .ok (.ior, 1)) (hp : pc + 1 = pc') (q : Go wd l R Z y bytes maxL ret n0 K N Q h cells slots pc' Ls (.int (a ||| b) :: st)) : Go wd l R Z y bytes maxL ret n0 K N Q h cells slots pc Ls (.int b :: .int a :: st) := by
  subst hp; exact Go.of q fun p e s m args below meth c T locs O X eT t hr => XS.ior X.here O.1 rfl (hb O.2.1 hd) rfl hr
theorem Go.ixor {a : Int32} {b : Int32} (hd : decode bytes pc = .ok (.ixor, 1)) (hp : pc + 1 = pc') (q : Go wd l R Z y bytes maxL ret n0 K N Q h cells slots pc' Ls (.int (a ^^^ b) :: st)) : Go wd l R Z y bytes maxL ret n0 K N Q h cells slots pc Ls (.int b :: .int a :: st) := by
  subst hp; exact Go.of q fun p e s m args below meth c T locs O X eT t hr => XS.ixor X.here O.1 rfl (hb O.2.1 hd) rfl hr
theorem Go.ishl {a : Int32} {b : Int32} (hd : decode bytes pc = .ok (.ishl, 1)) (hp : pc + 1 = pc') (q : Go wd l R Z y bytes maxL ret n0 K N Q h cells slots pc' Ls (.int (a <<< (b &&& 31)) :: st)) : Go wd l R Z y bytes maxL ret n0 K N Q h cells slots pc Ls (.int b :: .int a :: st) := by
  subst hp; exact Go.of q fun p e s m args below meth c T locs O X eT t hr => XS.ishl X.here O.1 rfl (hb O.2.1 hd) rfl hr
theorem Go.ishr {a : Int32} {b : Int32} (hd : decode bytes pc = .ok (.ishr, 1)) (hp : pc + 1 = pc') (q : Go wd l R Z y bytes maxL ret n0 K N Q h cells slots pc' Ls (.int (a >>> (b &&& 31)) :: st)) : Go wd l R Z y bytes maxL ret n0 K N Q h cells slots pc Ls (.int b :: .int a :: st) := by
  subst hp; exact Go.of q fun p e s m args below meth c T locs O X eT t hr => XS.ishr X.here O.1 rfl (hb O.2.1 hd) rfl hr
theorem Go.iushr {a : Int32} {b : Int32} (hd : decode bytes pc = .ok (.iushr, 1)) (hp : pc + 1 = pc') (q : Go wd l R Z y bytes maxL ret n0 K N Q h cells slots pc' Ls (.int ((a.toUInt32 >>> (b &&& 31).toUInt32).toInt32) :: st)) : Go wd l R Z y bytes maxL ret n0 K N Q h cells slots pc Ls (.int b :: .int a :: st) := by
  subst hp; exact Go.of q fun p e s m args below meth c T locs O X eT t hr => XS.iushr X.here O.1 rfl (hb O.2.1 hd) rfl hr
theorem Go.idiv {a : Int32} {b : Int32} (hd : decode bytes pc = .ok (.idiv, 1)) (hy : b ≠ 0) (hp : pc + 1 = pc') (q : Go wd l R Z y bytes maxL ret n0 K N Q h cells slots pc' Ls (.int (a / b) :: st)) : Go wd l R Z y bytes maxL ret n0 K N Q h cells slots pc Ls (.int b :: .int a :: st) := by
  subst hp; exact Go.of q fun p e s m args below meth c T locs O X eT t hr => XS.idiv X.here O.1 rfl (hb O.2.1 hd) rfl hy hr
theorem Go.ladd {a : Int64} {b : Int64} (hd : decode bytes pc = .ok (.ladd, 1)) (hp : pc + 1 = pc') (q : Go wd l R Z y bytes maxL ret n0 K N Q h cells slots pc' Ls (.long (a + b) :: st)) : Go wd l R Z y bytes maxL ret n0 K N Q h cells slots pc Ls (.long b :: .long a :: st) := by
  subst hp; exact Go.of q fun p e s m args below meth c T locs O X eT t hr => XS.ladd X.here O.1 rfl (hb O.2.1 hd) rfl hr
theorem Go.lsub {a : Int64} {b : Int64} (hd : decode bytes pc = .ok (.lsub, 1)) (hp : pc + 1 = pc') (q : Go wd l R Z y bytes maxL ret n0 K N Q h cells slots pc' Ls (.long (a - b) :: st)) : Go wd l R Z y bytes maxL ret n0 K N Q h cells slots pc Ls (.long b :: .long a :: st) := by
  subst hp; exact Go.of q fun p e s m args below meth c T locs O X eT t hr => XS.lsub X.here O.1 rfl (hb O.2.1 hd) rfl hr
theorem Go.lmul {a : Int64} {b : Int64} (hd : decode bytes pc = .ok (.lmul, 1)) (hp : pc + 1 = pc') (q : Go wd l R Z y bytes maxL ret n0 K N Q h cells slots pc' Ls (.long (a * b) :: st)) : Go wd l R Z y bytes maxL ret n0 K N Q h cells slots pc Ls (.long b :: .long a :: st) := by
  subst hp; exact Go.of q fun p e s m args below meth c T locs O X eT t hr => XS.lmul X.here O.1 rfl (hb O.2.1 hd) rfl hr
theorem Go.land {a : Int64} {b : Int64} (hd : decode bytes pc = .ok (.land, 1)) (hp : pc + 1 = pc') (q : Go wd l R Z y bytes maxL ret n0 K N Q h cells slots pc' Ls (.long (a &&& b) :: st)) : Go wd l R Z y bytes maxL ret n0 K N Q h cells slots pc Ls (.long b :: .long a :: st) := by
  subst hp; exact Go.of q fun p e s m args below meth c T locs O X eT t hr => XS.land X.here O.1 rfl (hb O.2.1 hd) rfl hr
theorem Go.lor {a : Int64} {b : Int64} (hd : decode bytes pc = .ok (.lor, 1)) (hp : pc + 1 = pc') (q : Go wd l R Z y bytes maxL ret n0 K N Q h cells slots pc' Ls (.long (a ||| b) :: st)) : Go wd l R Z y bytes maxL ret n0 K N Q h cells slots pc Ls (.long b :: .long a :: st) := by
  subst hp; exact Go.of q fun p e s m args below meth c T locs O X eT t hr => XS.lor X.here O.1 rfl (hb O.2.1 hd) rfl hr
theorem Go.lxor {a : Int64} {b : Int64} (hd : decode bytes pc = .ok (.lxor, 1)) (hp : pc + 1 = pc') (q : Go wd l R Z y bytes maxL ret n0 K N Q h cells slots pc' Ls (.long (a ^^^ b) :: st)) : Go wd l R Z y bytes maxL ret n0 K N Q h cells slots pc Ls (.long b :: .long a :: st) := by
  subst hp; exact Go.of q fun p e s m args below meth c T locs O X eT t hr => XS.lxor X.here O.1 rfl (hb O.2.1 hd) rfl hr
theorem Go.lshl {a : Int64} {b : Int32} (hd : decode bytes pc = .ok (.lshl, 1)) (hp : pc + 1 = pc') (q : Go wd l R Z y bytes maxL ret n0 K N Q h cells slots pc' Ls (.long (a <<< (b &&& 0x3f).toInt64) :: st)) : Go wd l R Z y bytes maxL ret n0 K N Q h cells slots pc Ls (.int b :: .long a :: st) := by
  subst hp; exact Go.of q fun p e s m args below meth c T locs O X eT t hr => XS.lshl X.here O.1 rfl (hb O.2.1 hd) rfl hr
theorem Go.lshr {a : Int64} {b : Int32} (hd : decode bytes pc = .ok (.lshr, 1)) (hp : pc + 1 = pc') (q : Go wd l R Z y bytes maxL ret n0 K N Q h cells slots pc' Ls (.long (a >>> (b &&& 0x3f).toInt64) :: st)) : Go wd l R Z y bytes maxL ret n0 K N Q h cells slots pc Ls (.int b :: .long a :: st) := by
  subst hp; exact Go.of q fun p e s m args below meth c T locs O X eT t hr => XS.lshr X.here O.1 rfl (hb O.2.1 hd) rfl hr
theorem Go.lushr {a : Int64} {b : Int32} (hd : decode bytes pc = .ok (.lushr, 1)) (hp : pc + 1 = pc') (q : Go wd l R Z y bytes maxL ret n0 K N Q h cells slots pc' Ls (.long ((a.toUInt64 >>> (b &&& 0x3f).toInt64.toUInt64).toInt64) :: st)) : Go wd l R Z y bytes maxL ret n0 K N Q h cells slots pc Ls (.int b :: .long a :: st) := by
  subst hp; exact Go.of q fun p e s m args below meth c T locs O X eT t hr => XS.lushr X.here O.1 rfl (hb O.2.1 hd) rfl hr
theorem Go.ldiv {a : Int64} {b : Int64} (hd : decode bytes pc = .ok (.ldiv, 1)) (hy : b ≠ 0) (hp : pc + 1 = pc') (q : Go wd l R Z y bytes maxL ret n0 K N Q h cells slots pc' Ls (.long (a / b) :: st)) : Go wd l R Z y bytes maxL ret n0 K N Q h cells slots pc Ls (.long b :: .long a :: st) := by
  subst hp; exact Go.of q fun p e s m args below meth c T locs O X eT t hr => XS.ldiv X.here O.1 rfl (hb O.2.1 hd) rfl hy hr
theorem Go.i2b {a : Int32} (hd : decode bytes pc = .ok (.i2b, 1)) (hp : pc + 1 = pc') (q : Go wd l R Z y bytes maxL ret n0 K N Q h cells slots pc' Ls (.int (a.toInt8.toInt32) :: st)) : Go wd l R Z y bytes maxL ret n0 K N Q h cells slots pc Ls (.int a :: st) := by
  subst hp; exact Go.of q fun p e s m args below meth c T locs O X eT t hr => XS.i2b X.here O.1 rfl (hb O.2.1 hd) rfl hr
theorem Go.i2c {a : Int32} (hd : decode bytes pc = .ok (.i2c, 1)) (hp : pc + 1 = pc') (q : Go wd l R Z y bytes maxL ret n0 K N Q h cells slots pc' Ls (.int (a.toUInt32.toUInt16.toUInt32.toInt32) :: st)) : Go wd l R Z y bytes maxL ret n0 K N Q h cells slots pc Ls (.int a :: st) := by
  subst hp; exact Go.of q fun p e s m args below meth c T locs O X eT t hr => XS.i2c X.here O.1 rfl (hb O.2.1 hd) rfl hr
theorem Go.i2s {a : Int32} (hd : decode bytes pc = .ok (.i2s, 1)) (hp : pc + 1 = pc') (q : Go wd l R Z y bytes maxL ret n0 K N Q h cells slots pc' Ls (.int (a.toInt16.toInt32) :: st)) : Go wd l R Z y bytes maxL ret n0 K N Q h cells slots pc Ls (.int a :: st) := by
  subst hp; exact Go.of q fun p e s m args below meth c T locs O X eT t hr => XS.i2s X.here O.1 rfl (hb O.2.1 hd) rfl hr
theorem Go.i2l {a : Int32} (hd : decode bytes pc = .ok (.i2l, 1)) (hp : pc + 1 = pc') (q : Go wd l R Z y bytes maxL ret n0 K N Q h cells slots pc' Ls (.long (a.toInt64) :: st)) : Go wd l R Z y bytes maxL ret n0 K N Q h cells slots pc Ls (.int a :: st) := by
  subst hp; exact Go.of q fun p e s m args below meth c T locs O X eT t hr => XS.i2l X.here O.1 rfl (hb O.2.1 hd) rfl hr
theorem Go.l2i {a : Int64} (hd : decode bytes pc = .ok (.l2i, 1)) (hp : pc + 1 = pc') (q : Go wd l R Z y bytes maxL ret n0 K N Q h cells slots pc' Ls (.int (a.toInt32) :: st)) : Go wd l R Z y bytes maxL ret n0 K N Q h cells slots pc Ls (.long a :: st) := by
  subst hp; exact Go.of q fun p e s m args below meth c T locs O X eT t hr => XS.l2i X.here O.1 rfl (hb O.2.1 hd) rfl hr
theorem Go.lneg {a : Int64} (hd : decode bytes pc = .ok (.lneg, 1)) (hp : pc + 1 = pc') (q : Go wd l R Z y bytes maxL ret n0 K N Q h cells slots pc' Ls (.long (-a) :: st)) : Go wd l R Z y bytes maxL ret n0 K N Q h cells slots pc Ls (.long a :: st) := by
  subst hp; exact Go.of q fun p e s m args below meth c T locs O X eT t hr => XS.lneg X.here O.1 rfl (hb O.2.1 hd) rfl hr
theorem Go.ineg {a : Int32} (hd : decode bytes pc = .ok (.ineg, 1)) (hp : pc + 1 = pc') (q : Go wd l R Z y bytes maxL ret n0 K N Q h cells slots pc' Ls (.int (-a) :: st)) : Go wd l R Z y bytes maxL ret n0 K N Q h cells slots pc Ls (.int a :: st) := by
  subst hp; exact Go.of q fun p e s m args below meth c T locs O X eT t hr => XS.ineg X.here O.1 rfl (hb O.2.1 hd) rfl hr
theorem Go.irem {a b : Int32} (hd : decode bytes pc = .ok (.irem, 1)) (hy : b ≠ 0) (hp : pc + 1 = pc') (q : Go wd l R Z y bytes maxL ret n0 K N Q h cells slots pc' Ls (.int (a % b) :: st)) : Go wd l R Z y bytes maxL ret n0 K N Q h cells slots pc Ls (.int b :: .int a :: st) := by
  subst hp; exact Go.of q fun p e s m args below meth c T locs O X eT t hr => iremM X O.1 rfl (hb O.2.1 hd) rfl hy hr
theorem Go.lrem {a b : Int64} (hd : decode bytes pc = .ok (.lrem, 1)) (hy : b ≠ 0) (hp : pc + 1 = pc') (q : Go wd l R Z y bytes maxL ret n0 K N Q h cells slots pc' Ls (.long (a % b) :: st)) : Go wd l R Z y bytes maxL ret n0 K N Q h cells slots pc Ls (.long b :: .long a :: st) := by
  subst hp; rw [← lrem_mod] at q; exact Go.of q fun p e s m args below meth c T locs O X eT t hr => XS.lrem X.here O.1 rfl (hb O.2.1 hd) rfl hy hr
theorem c_lremM (x y : Int64) (d : Int) (hy : y.toInt = d) : (0 ≤ x.toInt → (x % y).toInt = x.toInt % d) ∧ (x.toInt < 0 → (x % y).toInt = -((-x.toInt) % d)) := by rw [Int64.toInt_mod, hy]; exact tr _ _
/-! branches -/
def jc : ClassFile.Cond → Int32 → Int32 → Prop
  | .eq, x, y => x.toInt = y.toInt
  | .ne, x, y => x.toInt ≠ y.toInt
  | .lt, x, y => x.toInt < y.toInt
  | .ge, x, y => y.toInt ≤ x.toInt
  | .gt, x, y => y.toInt < x.toInt
  | .le, x, y => x.toInt ≤ y.toInt
def jn : ClassFile.Cond → Int32 → Int32 → Prop
  | .eq, x, y => x.toInt ≠ y.toInt
  | .ne, x, y => x.toInt = y.toInt
  | .lt, x, y => y.toInt ≤ x.toInt
  | .ge, x, y => x.toInt < y.toInt
  | .gt, x, y => x.toInt ≤ y.toInt
  | .le, x, y => y.toInt < x.toInt
def zc : ClassFile.Cond → Int32 → Prop
  | .eq, x => x.toInt = 0
  | .ne, x => x.toInt ≠ 0
  | .lt, x => x.toInt < 0
  | .ge, x => 0 ≤ x.toInt
  | .gt, x => 0 < x.toInt
  | .le, x => x.toInt ≤ 0
def zn : ClassFile.Cond → Int32 → Prop
  | .eq, x => x.toInt ≠ 0
  | .ne, x => x.toInt = 0
  | .lt, x => 0 ≤ x.toInt
  | .ge, x => x.toInt < 0
  | .gt, x => x.toInt ≤ 0
  | .le, x => 0 < x.toInt
def wc : ClassFile.Cond → Int64 → Int64 → Prop
  | .eq, x, y => x.toInt = y.toInt
  | .ne, x, y => x.toInt ≠ y.toInt
  | .lt, x, y => x.toInt < y.toInt
  | .ge, x, y => y.toInt ≤ x.toInt
  | .gt, x, y => y.toInt < x.toInt
  | .le, x, y => x.toInt ≤ y.toInt
def wn : ClassFile.Cond → Int64 → Int64 → Prop
  | .eq, x, y => x.toInt ≠ y.toInt
  | .ne, x, y => x.toInt = y.toInt
  | .lt, x, y => y.toInt ≤ x.toInt
  | .ge, x, y => x.toInt < y.toInt
  | .gt, x, y => x.toInt ≤ y.toInt
  | .le, x, y => y.toInt < x.toInt
theorem jc_or (cd : ClassFile.Cond) (x y : Int32) : (if_icmp.holds cd x y = true ∧ jc cd x y) ∨ (if_icmp.holds cd x y = false ∧ jn cd x y) := by
  have i : x = y ↔ x.toInt = y.toInt := Int32.toInt_inj.symm
  cases cd <;> simp only [if_icmp.holds, jc, jn, beq_iff_eq, bne_iff_ne, beq_eq_false_iff_ne, bne_eq_false_iff_eq, decide_eq_true_eq, decide_eq_false_iff_not, Int32.lt_iff_toInt_lt, Int32.le_iff_toInt_le, ge_iff_le, gt_iff_lt, ne_eq, i] <;> omega
theorem zc_or (cd : ClassFile.Cond) (x : Int32) : (ifCond.holds cd x = true ∧ zc cd x) ∨ (ifCond.holds cd x = false ∧ zn cd x) := by
  have z : (0 : Int32).toInt = 0 := rfl
  rcases jc_or cd x 0 with ⟨q, r⟩ | ⟨q, r⟩
  · left; rw [if0]; refine ⟨q, ?_⟩; cases cd <;> simp only [jc, zc, z] at r ⊢ <;> exact r
  · right; rw [if0]; refine ⟨q, ?_⟩; cases cd <;> simp only [jn, zn, z] at r ⊢ <;> exact r
theorem wc_or (cd : ClassFile.Cond) (x y : Int64) : (ifCond.holds cd (lcmpW x y) = true ∧ wc cd x y) ∨ (ifCond.holds cd (lcmpW x y) = false ∧ wn cd x y) := by
  have e := c_lcmp x y
  rcases zc_or cd (lcmpW x y) with ⟨q, r⟩ | ⟨q, r⟩
  · left; refine ⟨q, ?_⟩; cases cd <;> simp only [zc, wc, ne_eq] at r ⊢ <;> omega
  · right; refine ⟨q, ?_⟩; cases cd <;> simp only [zn, wn, ne_eq] at r ⊢ <;> omega
theorem Go.icmp {cd : ClassFile.Cond} {o : Int} {x z : Int32} {pc1 pc2 : Nat} (hd : decode bytes pc = .ok (.if_icmp cd o, 3)) (ho : 0 ≤ (pc : Int) + o) (hp : ((pc : Int) + o).toNat = pc1) (hp2 : pc + 3 = pc2)
    (q1 : jc cd x z → Go wd l R Z y bytes maxL ret n0 K N Q h cells slots pc1 Ls st) (q2 : jn cd x z → Go wd l R Z y bytes maxL ret n0 K N Q h cells slots pc2 Ls st) : Go wd l R Z y bytes maxL ret n0 K N Q h cells slots pc Ls (.int z :: .int x :: st) := by
  rcases jc_or cd x z with ⟨hc, r⟩ | ⟨hc, r⟩
  · exact Go.of (q1 r) fun p e s m args below meth c T locs O X eT t hr => XS.icmpYes X.here O.1 rfl (pc0 := pc) rfl (hb O.2.1 hd) rfl hc ho hp hr
  · subst hp2; exact Go.of (q2 r) fun p e s m args below meth c T locs O X eT t hr => XS.icmpNo X.here O.1 rfl (hb O.2.1 hd) rfl hc hr
theorem Go.ifc {cd : ClassFile.Cond} {o : Int} {x : Int32} {pc1 pc2 : Nat} (hd : decode bytes pc = .ok (.ifCond cd o, 3)) (ho : 0 ≤ (pc : Int) + o) (hp : ((pc : Int) + o).toNat = pc1) (hp2 : pc + 3 = pc2)
    (q1 : zc cd x → Go wd l R Z y bytes maxL ret n0 K N Q h cells slots pc1 Ls st) (q2 : zn cd x → Go wd l R Z y bytes maxL ret n0 K N Q h cells slots pc2 Ls st) : Go wd l R Z y bytes maxL ret n0 K N Q h cells slots pc Ls (.int x :: st) := by
  rcases zc_or cd x with ⟨hc, r⟩ | ⟨hc, r⟩
  · exact Go.of (q1 r) fun p e s m args below meth c T locs O X eT t hr => XS.ifYes X.here O.1 rfl (pc0 := pc) rfl (hb O.2.1 hd) rfl hc ho hp hr
  · subst hp2; exact Go.of (q2 r) fun p e s m args below meth c T locs O X eT t hr => XS.ifNo X.here O.1 rfl (hb O.2.1 hd) rfl hc hr
theorem Go.lcmp {a b : Int64} (hd : decode bytes pc = .ok (.lcmp, 1)) (hp : pc + 1 = pc') (q : Go wd l R Z y bytes maxL ret n0 K N Q h cells slots pc' Ls (.int (lcmpW a b) :: st)) : Go wd l R Z y bytes maxL ret n0 K N Q h cells slots pc Ls (.long b :: .long a :: st) := by
  subst hp; exact Go.of q fun p e s m args below meth c T locs O X eT t hr => XS.lcmp X.here O.1 rfl (hb O.2.1 hd) rfl hr
theorem Go.ifw {cd : ClassFile.Cond} {o : Int} {a b : Int64} {pc1 pc2 : Nat} (hd : decode bytes pc = .ok (.ifCond cd o, 3)) (ho : 0 ≤ (pc : Int) + o) (hp : ((pc : Int) + o).toNat = pc1) (hp2 : pc + 3 = pc2)
    (q1 : wc cd a b → Go wd l R Z y bytes maxL ret n0 K N Q h cells slots pc1 Ls st) (q2 : wn cd a b → Go wd l R Z y bytes maxL ret n0 K N Q h cells slots pc2 Ls st) : Go wd l R Z y bytes maxL ret n0 K N Q h cells slots pc Ls (.int (lcmpW a b) :: st) := by
  rcases wc_or cd a b with ⟨hc, r⟩ | ⟨hc, r⟩
  · exact Go.of (q1 r) fun p e s m args below meth c T locs O X eT t hr => XS.ifYes X.here O.1 rfl (pc0 := pc) rfl (hb O.2.1 hd) rfl hc ho hp hr
  · subst hp2; exact Go.of (q2 r) fun p e s m args below meth c T locs O X eT t hr => XS.ifNo X.here O.1 rfl (hb O.2.1 hd) rfl hc hr
theorem Go.nonnullYes {o : Int} {a : Addr} (hd : decode bytes pc = .ok (.ifnonnull o, 3)) (ho : 0 ≤ (pc : Int) + o) (hp : ((pc : Int) + o).toNat = pc') (q : Go wd l R Z y bytes maxL ret n0 K N Q h cells slots pc' Ls st) : Go wd l R Z y bytes maxL ret n0 K N Q h cells slots pc Ls (.ref a :: st) :=
  Go.of q fun p e s m args below meth c T locs O X eT t hr => XS.ifnonnullYes X.here O.1 rfl (pc0 := pc) rfl (hb O.2.1 hd) rfl ho hp hr
theorem Go.nonnullNo {o : Int} (hd : decode bytes pc = .ok (.ifnonnull o, 3)) (hp : pc + 3 = pc') (q : Go wd l R Z y bytes maxL ret n0 K N Q h cells slots pc' Ls st) : Go wd l R Z y bytes maxL ret n0 K N Q h cells slots pc Ls (.null :: st) := by
  subst hp; exact Go.of q fun p e s m args below meth c T locs O X eT t hr => XS.ifnonnullNo X.here O.1 rfl (hb O.2.1 hd) rfl hr
theorem Go.nullYes {o : Int} (hd : decode bytes pc = .ok (.ifnull o, 3)) (ho : 0 ≤ (pc : Int) + o) (hp : ((pc : Int) + o).toNat = pc') (q : Go wd l R Z y bytes maxL ret n0 K N Q h cells slots pc' Ls st) : Go wd l R Z y bytes maxL ret n0 K N Q h cells slots pc Ls (.null :: st) :=
  Go.of q fun p e s m args below meth c T locs O X eT t hr => XS.ifnullYes X.here O.1 rfl (pc0 := pc) rfl (hb O.2.1 hd) rfl ho hp hr
theorem Go.nullNo {o : Int} {a : Addr} (hd : decode bytes pc = .ok (.ifnull o, 3)) (hp : pc + 3 = pc') (q : Go wd l R Z y bytes maxL ret n0 K N Q h cells slots pc' Ls st) : Go wd l R Z y bytes maxL ret n0 K N Q h cells slots pc Ls (.ref a :: st) := by
  subst hp; exact Go.of q fun p e s m args below meth c T locs O X eT t hr => XS.ifnullNo X.here O.1 rfl (hb O.2.1 hd) rfl hr
/-- if_acmp: q1 where they are the same, q2 where they aren't -/
theorem Go.acmp {cd : ACond} {o : Int} {u w : Value} {pc1 pc2 : Nat} (hd : decode bytes pc = .ok (.if_acmp cd o, 3)) (hu : u.isRef = true) (hw : w.isRef = true) (ho : 0 ≤ (pc : Int) + o) (hp : (if acV cd true = true then ((pc : Int) + o).toNat else pc + 3) = pc1) (hp2 : (if acV cd false = true then ((pc : Int) + o).toNat else pc + 3) = pc2)
    (q1 : u = w → Go wd l R Z y bytes maxL ret n0 K N Q h cells slots pc1 Ls st) (q2 : u ≠ w → Go wd l R Z y bytes maxL ret n0 K N Q h cells slots pc2 Ls st) : Go wd l R Z y bytes maxL ret n0 K N Q h cells slots pc Ls (w :: u :: st) := by
  by_cases r : u = w
  · exact Go.of (q1 r) fun p e s m args below meth c T locs O X eT t hr => RoadKit.acmp X O.1 rfl hu hw (pc0 := pc) (same := true) rfl (hb O.2.1 hd) rfl (decide_eq_true r) ho hp.symm hr
  · exact Go.of (q2 r) fun p e s m args below meth c T locs O X eT t hr => RoadKit.acmp X O.1 rfl hu hw (pc0 := pc) (same := false) rfl (hb O.2.1 hd) rfl (decide_eq_false r) ho hp2.symm hr
/-! constants of the pool -/
theorem Go.ldcI {i : Nat} {v : Int32} (w : (Cond.constant y.cls i v).before a0 Z = true) (hd : decode bytes pc = .ok (.ldc i, 2)) (hp : pc + 2 = pc') (q : Go wd l R Z y bytes maxL ret n0 K N Q h cells slots pc' Ls (.int v :: st)) : Go wd l R Z y bytes maxL ret n0 K N Q h cells slots pc Ls st := by
  subst hp; exact Go.of q fun p e s m args below meth c T locs O X eT t hr => X.ldcInt O.1 O.2.2.2.1 (mvT O.2.2.2.2.2.1 w) (g := mkF m pc Ls st) rfl (hb O.2.1 hd) t hr
theorem Go.ldcW {i : Nat} {v : Int32} (w : (Cond.constant y.cls i v).before a0 Z = true) (hd : decode bytes pc = .ok (.ldc_w i, 3)) (hp : pc + 3 = pc') (q : Go wd l R Z y bytes maxL ret n0 K N Q h cells slots pc' Ls (.int v :: st)) : Go wd l R Z y bytes maxL ret n0 K N Q h cells slots pc Ls st := by
  subst hp; exact Go.of q fun p e s m args below meth c T locs O X eT t hr => X.ldcwInt O.1 O.2.2.2.1 (mvT O.2.2.2.2.2.1 w) (g := mkF m pc Ls st) rfl (hb O.2.1 hd) t hr
theorem Go.ldcL {i : Nat} {v : Int64} (w : (Cond.constantLong y.cls i v).before a0 Z = true) (hd : decode bytes pc = .ok (.ldc2_w i, 3)) (hp : pc + 3 = pc') (q : Go wd l R Z y bytes maxL ret n0 K N Q h cells slots pc' Ls (.long v :: st)) : Go wd l R Z y bytes maxL ret n0 K N Q h cells slots pc Ls st := by
  subst hp; exact Go.of q fun p e s m args below meth c T locs O X eT t hr => X.ldc2Long O.1 O.2.2.2.1 (mvT O.2.2.2.2.2.1 w) (g := mkF m pc Ls st) rfl (hb O.2.1 hd) t hr
/-! the ends -/
theorem Go.leave {v : Option Value} (hv : ret = none → v = none) (hQ : Q v h) (hk : cells ≤ K) (hn : slots ≤ N)
    (q : ∀ (p : Program) (e : Env) (s : State) (m : MethodId) (args : Array Value) (below : List Frame) (meth : Method) (c : Code) (T : State) (locs : List Loc) (fs : List Frame), Own Z y bytes maxL ret p s m meth c → Stand p l e R s m args below meth c T locs cells slots →
      (∀ (f : JFrame) (acts : List Action), f.method = m → f.locked = none → f.entered = [] → (doReturn e (T.setTop f) acts v).1 = T.setFrames fs) → Steps p.tables e below (T.setTop (mkF m pc Ls st)) (T.setFrames fs)) : Go wd l R Z y bytes maxL ret n0 K N Q h cells slots pc Ls st := by
  intro p e s0 s m args below meth c T locs hR O X eT F
  obtain ⟨fs, hr, hrun, hended, hW, hsame⟩ := X.leave (v := v) (fun r => hv (by rw [← O.2.2.2.2.2.2.1]; exact r)) O.2.2.2.2.2.2.2
  have hE : GoEnd wd s0 (.returned v) (T.setFrames fs) locs K N := GoRel.ended (U := T.setFrames fs) (by show GoRel wd s0 s T.heap.size; rw [eT]; exact hR) hW hsame hk hn
  refine ⟨_, _, q p e s m args below meth c T locs fs O X hr, hrun, hended, v, locs, rfl, ⟨?_, F⟩, hE⟩
  show Q v T.heap
  rw [eT]; exact hQ
theorem Go.ret0 (hd : decode bytes pc = .ok (.return_, 1)) (hr : ret = none) (hQ : Q none h) (hk : cells ≤ K) (hn : slots ≤ N) : Go wd l R Z y bytes maxL ret n0 K N Q h cells slots pc Ls [] :=
  Go.leave (v := none) (fun _ => rfl) hQ hk hn fun p e s m args below meth c T locs fs O X hl => X.returnOut O.1 (O.2.2.2.2.2.2.1.trans hr) (hb O.2.1 hd) hl
theorem Go.retI {v : Int32} (hd : decode bytes pc = .ok (.ireturn, 1)) (hr : ret = some .int) (hQ : Q (some (.int v)) h) (hk : cells ≤ K) (hn : slots ≤ N) : Go wd l R Z y bytes maxL ret n0 K N Q h cells slots pc Ls (.int v :: st) :=
  Go.leave (v := some (.int v)) (fun r => by rw [hr] at r; cases r) hQ hk hn fun p e s m args below meth c T locs fs O X hl => retOut X O.1 (O.2.2.2.2.2.2.1.trans hr) rfl (Or.inl ⟨rfl, Or.inl rfl, _, rfl⟩) (hb O.2.1 hd) hl
theorem Go.retN {v : Int32} {t : FieldType} (hd : decode bytes pc = .ok (.ireturn, 1)) (hr : ret = some t) (ht : t = .boolean ∨ t = .byte ∨ t = .char ∨ t = .short) (hv : nar t v = v) (hQ : Q (some (.int v)) h) (hk : cells ≤ K) (hn : slots ≤ N) : Go wd l R Z y bytes maxL ret n0 K N Q h cells slots pc Ls (.int v :: st) :=
  Go.leave (v := some (.int v)) (fun r => by rw [hr] at r; cases r) hQ hk hn fun p e s m args below meth c T locs fs O X hl => RoadKit.retN X O.1 (O.2.2.2.2.2.2.1.trans hr) ht (hb O.2.1 hd) (by rw [hv]; exact hl)
theorem Go.retL {v : Int64} (hd : decode bytes pc = .ok (.lreturn, 1)) (hr : ret = some .long) (hQ : Q (some (.long v)) h) (hk : cells ≤ K) (hn : slots ≤ N) : Go wd l R Z y bytes maxL ret n0 K N Q h cells slots pc Ls (.long v :: st) :=
  Go.leave (v := some (.long v)) (fun r => by rw [hr] at r; cases r) hQ hk hn fun p e s m args below meth c T locs fs O X hl => retOut X O.1 (O.2.2.2.2.2.2.1.trans hr) rfl (Or.inr (Or.inl ⟨rfl, rfl, _, rfl⟩)) (hb O.2.1 hd) hl
theorem Go.retA {v : Value} {t : FieldType} (hd : decode bytes pc = .ok (.areturn, 1)) (hr : ret = some t) (ht : t.isReference = true) (hv : v.isRef = true) (hQ : Q (some v) h) (hk : cells ≤ K) (hn : slots ≤ N) : Go wd l R Z y bytes maxL ret n0 K N Q h cells slots pc Ls (v :: st) :=
  Go.leave (v := some v) (fun r => by rw [hr] at r; cases r) hQ hk hn fun p e s m args below meth c T locs fs O X hl => retOut X O.1 (O.2.2.2.2.2.2.1.trans hr) (by cases t <;> first | rfl | (cases ht; done)) (Or.inr (Or.inr (Or.inr (Or.inr ⟨rfl, ht, hv⟩)))) (hb O.2.1 hd) hl
/-! the heap -/
theorem Go.newO {C : String} {i n : Nat} (w1 : (Cond.classLink y.cls i C).before a0 Z = true) (w2 : (Cond.instantiable C n).before a0 Z = true) (w3 : (Cond.initialized C).before a0 Z = true) (hd : decode bytes pc = .ok (.new i, 3)) (hc : cells + 1 ≤ R.cells) (hs : slots + n ≤ R.slots) (hp : pc + 3 = pc')
    (q : ∀ (h' : Heap) (a : Addr), a = h.size → Ext h h' → Exa Z h' a C → (∀ {O nm d : String} {ty : FieldType}, Laid Z a0 C O nm d → parseFieldDescriptor d = some ty → Fld Z h' a O nm d (defaultValue ty)) → Go wd l R Z y bytes maxL ret n0 K N Q h' (cells + 1) (slots + n) pc' Ls (.ref a :: st)) : Go wd l R Z y bytes maxL ret n0 K N Q h cells slots pc Ls st := by
  subst hp
  intro p e s0 s m args below meth c T locs hR O X eT F
  obtain ⟨T2, h2, X2, e2, E2, A2, D2, -, st2⟩ := RoadKit.newO X O.1 O.2.2.2.2.2.1 O.2.2.2.1 w1 w2 w3 eT (g := mkF m pc Ls st) rfl (hb O.2.1 hd) hc hs
  obtain ⟨s₂, o, h1, r⟩ := q h2 _ rfl E2 A2 D2 p e s0 s m args below meth c T2 locs (hR.mono E2.1) O X2 e2 F
  exact ⟨s₂, o, st2 _ h1, r⟩
theorem Go.initO {i W : Nat} {a : Addr} (w1 : (Cond.methodLink y.cls i Lib.objectInit).before a0 Z = true) (w2 : (Cond.instanceMethod Lib.objectInit).before a0 Z = true) (w3 : (Cond.code Lib.objectInit ⟨#[0xb1]⟩ 1 none).before a0 Z = true) (hd : decode bytes pc = .ok (.invokespecial i, 3)) (hz : Ls.size = maxL)
    (hf : 1 ≤ R.frames) (hW : (st.map fun v => v.category).sum ≤ W) (hl : W + 12 ≤ R.locals) (hp : pc + 3 = pc') (q : Go wd l R Z y bytes maxL ret n0 K N Q h cells slots pc' Ls st) : Go wd l R Z y bytes maxL ret n0 K N Q h cells slots pc Ls (.ref a :: st) := by
  subst hp
  intro p e s0 s m args below meth c T locs hR O X eT F
  obtain ⟨T2, X2, e2, st2⟩ := RoadKit.initO X O.1 O.2.2.2.2.2.1 O.2.2.2.1 w1 w2 w3 eT (g := mkF m pc Ls (.ref a :: st)) rfl (hz.trans O.2.2.1.symm) rfl (hb O.2.1 hd) hf (W := W) (by show 2 * 0 + _ ≤ _; omega) hl
  obtain ⟨s₂, o, h1, r⟩ := q p e s0 s m args below meth c T2 locs hR O X2 e2 F
  exact ⟨s₂, o, st2 _ h1, r⟩
theorem Go.getF {C n d : String} {i : Nat} {a : Addr} {v : Value} (w : (Cond.fieldLink y.cls i C n d).before a0 Z = true) (hF : Fld Z h a C n d v) (hd : decode bytes pc = .ok (.getfield i, 3)) (hp : pc + 3 = pc') (q : Go wd l R Z y bytes maxL ret n0 K N Q h cells slots pc' Ls (v :: st)) : Go wd l R Z y bytes maxL ret n0 K N Q h cells slots pc Ls (.ref a :: st) := by
  subst hp
  intro p e s0 s m args below meth c T locs hR O X eT F
  obtain ⟨T2, X2, e2, st2⟩ := RoadKit.getF X O.1 O.2.2.2.2.2.1 O.2.2.2.1 (host := "") (Or.inl w) Via.refl eT hF (g := mkF m pc Ls (.ref a :: st)) rfl rfl (hb O.2.1 hd)
  obtain ⟨s₂, o, h1, r⟩ := q p e s0 s m args below meth c T2 locs hR O X2 e2 F
  exact ⟨s₂, o, st2 _ h1, r⟩
theorem Go.getS {C n d : String} {i : Nat} {v : Value} (w : (Cond.fieldLink y.cls i C n d).before a0 Z = true) (hF : Sta Z h C n d v) (hd : decode bytes pc = .ok (.getstatic i, 3)) (hp : pc + 3 = pc') (q : Go wd l R Z y bytes maxL ret n0 K N Q h cells slots pc' Ls (v :: st)) : Go wd l R Z y bytes maxL ret n0 K N Q h cells slots pc Ls st := by
  subst hp
  intro p e s0 s m args below meth c T locs hR O X eT F
  obtain ⟨T2, X2, e2, st2⟩ := RoadKit.getS2 X O.1 O.2.2.2.2.2.1 O.2.2.2.1 (host := "") (Or.inl w) Via.refl eT hF (g := mkF m pc Ls st) rfl (hb O.2.1 hd)
  obtain ⟨s₂, o, h1, r⟩ := q p e s0 s m args below meth c T2 locs hR O X2 e2 F
  exact ⟨s₂, o, st2 _ h1, r⟩
theorem Go.putF {C n d : String} {i kk : Nat} {ty : FieldType} {a : Addr} {v old : Value} (w : (Cond.fieldLink y.cls i C n d).before a0 Z = true) (hF : Fld Z h a C n d old) (hE : Exa Z h a C) (hL : (Cond.lays C C n d).before a0 Z = true ∨ ((Cond.laysFinal C C n d).before a0 Z = true ∧ y.cls = C ∧ y.name = "<init>")) (wi : (Cond.instantiable C kk).before a0 Z = true)
    (hty : parseFieldDescriptor d = some ty) (hn : narrow ty v = v) (hf : fits ty v = true) (hd : decode bytes pc = .ok (.putfield i, 3)) (ha : n0 ≤ a) (hp : pc + 3 = pc') (q : ∀ h', Wr h h' a (slotOf Z C n d) v → Go wd l R Z y bytes maxL ret n0 K N Q h' cells slots pc' Ls st) : Go wd l R Z y bytes maxL ret n0 K N Q h cells slots pc Ls (v :: .ref a :: st) := by
  subst hp
  intro p e s0 s m args below meth c T locs hR O X eT F
  obtain ⟨T2, h2, X2, e2, W2, st2⟩ := RoadKit.putF X O.1 O.2.2.2.2.2.1 O.2.2.2.1 (host := "") (Or.inl w) Via.refl eT hF hE (hL.imp_right fun r => ⟨r.1, r.2.1, O.2.2.2.2.1.trans r.2.2⟩) wi hty hn hf (g := mkF m pc Ls (v :: .ref a :: st)) rfl rfl (hb O.2.1 hd)
  obtain ⟨s₂, o, h1, r⟩ := q h2 W2 p e s0 s m args below meth c T2 _ (hR.mono (Nat.le_of_eq W2.size.symm)) O X2 e2 (Fr.snoc X2 F ha)
  exact ⟨s₂, o, st2 _ h1, r⟩
/-! facts carried from heap to heap -/
def Sm (h h' : Heap) (a : Addr) : Prop := ∀ c : Cell, h[a]? = some c → h'[a]? = some c
theorem Sm.ext {h h' : Heap} {a : Addr} (E : Ext h h') : Sm h h' a := fun c q => E.2 a c q
theorem Sm.keep {h h' : Heap} {a : Addr} {ws : List Addr} (E : Keep h h' ws) (q : a ∉ ws) : Sm h h' a := fun c r => E.2.1 a c r q
theorem Sm.wr {h h' : Heap} {a b : Addr} {sl : Nat} {v : Value} (W : Wr h h' b sl v) (q : a ≠ b) : Sm h h' a := Sm.keep (Keep.of_wr W) (by simpa using q)
theorem Sm.trans {h h' h'' : Heap} {a : Addr} (A : Sm h h' a) (B : Sm h' h'' a) : Sm h h'' a := fun c r => B c (A c r)
theorem Fld.sm {h h' : Heap} {a : Addr} {C n d : String} {v : Value} (F : Fld Z h a C n d v) (S : Sm h h' a) : Fld Z h' a C n d v := by
  obtain ⟨cell, cf, k, i, f, h1, r⟩ := F; exact ⟨cell, cf, k, i, f, S _ h1, r⟩
theorem Exa.sm {h h' : Heap} {a : Addr} {C : String} (F : Exa Z h a C) (S : Sm h h' a) : Exa Z h' a C := by
  obtain ⟨cell, k, h1, r⟩ := F; exact ⟨cell, k, S _ h1, r⟩
theorem Arr.sm {h h' : Heap} {a : Addr} {c : Cell} {ty : FieldType} (F : Arr Z h a c ty) (S : Sm h h' a) : Arr Z h' a c ty := ⟨S _ F.1, F.2⟩
/-- the array at a holds just these values -/
def Ary (Z : State) (h : Heap) (a : Addr) (ty : FieldType) (vs : List Value) : Prop := ∃ c : Cell, Arr Z h a c ty ∧ c.slots = vs.toArray
theorem Ary.sm {h h' : Heap} {a : Addr} {ty : FieldType} {vs : List Value} (F : Ary Z h a ty vs) (S : Sm h h' a) : Ary Z h' a ty vs := by
  obtain ⟨c, A, r⟩ := F; exact ⟨c, A.sm S, r⟩
theorem Ary.lt {h : Heap} {a : Addr} {ty : FieldType} {vs : List Value} (F : Ary Z h a ty vs) : a < h.size := by
  obtain ⟨c, A, r⟩ := F; exact A.lt
theorem Ary.eq {h : Heap} {a : Addr} {ty : FieldType} {vs vs' : List Value} (F : Ary Z h a ty vs) (q : vs = vs') : Ary Z h a ty vs' := q ▸ F
theorem Ary.set {h h' : Heap} {a : Addr} {ty : FieldType} {vs : List Value} {k : Nat} {v : Value} (F : Ary Z h a ty vs) (W : Wr h h' a k v) : Ary Z h' a ty (vs.set k v) := by
  obtain ⟨c, A, r⟩ := F
  refine ⟨_, A.same W, ?_⟩
  show c.slots.setIfInBounds k v = _
  rw [r]; simp
theorem clamp_of {j : Int32} {k : Nat} (hj : j.toInt = (k : Int)) : j.toNatClampNeg = k := by
  show j.toInt.toNat = k; omega
theorem inb {j : Int32} {k : Nat} {c : Cell} {vs : List Value} (hj : j.toInt = (k : Int)) (hc : c.slots = vs.toArray) (hk : k < vs.length) : ¬ (j < 0 ∨ c.slots.size ≤ j.toNatClampNeg) := by
  have z : (0 : Int32).toInt = 0 := rfl
  rw [clamp_of hj, hc, Int32.lt_iff_toInt_lt, z]; simp; omega
theorem lt_of_get {vs : List Value} {k : Nat} {v : Value} (h : vs[k]? = some v) : k < vs.length := (List.getElem?_eq_some_iff.mp h).1
theorem Go.newA {aty : ArrayType} {n : Int32} {k : Nat} {ty : FieldType} (w : (Cond.arrayClass ty).before a0 Z = true) (hty : newarray.typeOf aty = ty) (hn : n.toInt = (k : Int)) {cap : Nat} (hcap : k ≤ cap) (hb8 : cap * 8 ≤ 536870912) (hd : decode bytes pc = .ok (.newarray aty, 2)) (hc : cells + 1 ≤ R.cells) (hs : slots + cap ≤ R.slots) (hp : pc + 2 = pc')
    (q : ∀ (h' : Heap) (a : Addr), a = h.size → Ext h h' → Ary Z h' a ty (List.replicate k (defaultValue ty)) → Go wd l R Z y bytes maxL ret n0 K N Q h' (cells + 1) (slots + cap) pc' Ls (.ref a :: st)) : Go wd l R Z y bytes maxL ret n0 K N Q h cells slots pc Ls (.int n :: st) := by
  subst hp hty
  intro p e s0 s m args below meth c T locs hR O X eT F
  have z : (0 : Int32).toInt = 0 := rfl
  have hn0 : ¬ n < 0 := by rw [Int32.lt_iff_toInt_lt, z]; omega
  obtain ⟨T2, h2, cA, X2, e2, E2, A2, st2⟩ := RoadKit.newP X O.1 O.2.2.2.2.2.1 w eT (g := mkF m pc Ls (.int n :: st)) rfl (hb O.2.1 hd) rfl hn0 (cap := cap) (by rw [clamp_of hn]; exact hcap) hb8 hc hs
  obtain ⟨s₂, o, h1, r⟩ := q h2 _ rfl E2 ⟨_, A2, by simp [RoadKit.newA, clamp_of hn]⟩ p e s0 s m args below meth c T2 locs (hR.mono E2.1) O X2 e2 F
  exact ⟨s₂, o, st2 _ h1, r⟩
theorem Go.alen {a : Addr} {ty : FieldType} {vs : List Value} {z : Int32} (hA : Ary Z h a ty vs) (hz : z.toInt = (vs.length : Int)) (hd : decode bytes pc = .ok (.arraylength, 1)) (hp : pc + 1 = pc') (q : Go wd l R Z y bytes maxL ret n0 K N Q h cells slots pc' Ls (.int z :: st)) : Go wd l R Z y bytes maxL ret n0 K N Q h cells slots pc Ls (.ref a :: st) := by
  subst hp
  obtain ⟨cl, A, r⟩ := hA
  have e1 : cl.slots.size.toInt32 = z := by
    have := z.toInt_lt
    rw [r]; apply Int32.toInt_inj.mp
    rw [hz]
    have q1 : vs.toArray.size = vs.length := by simp
    rw [q1]; exact len_toInt (by omega)
  exact Go.of q fun p e s m args below meth c T locs O X eT t hr => X.arraylength O.1 (cell := cl) (by rw [eT]; exact A.1) (State.isArrayOf_alike O.2.2.2.2.2.1.alike A.2.1) (g := mkF m pc Ls (.ref a :: st)) rfl (rest := st) rfl (hb O.2.1 hd) _ (by rw [e1]; exact hr)
theorem Go.ldI {a : Addr} {vs : List Value} {j : Int32} {k : Nat} {v : Value} (hA : Ary Z h a .int vs) (hj : j.toInt = (k : Int)) (hv : vs[k]? = some v) (hd : decode bytes pc = .ok (.iaload, 1)) (hp : pc + 1 = pc') (q : Go wd l R Z y bytes maxL ret n0 K N Q h cells slots pc' Ls (v :: st)) : Go wd l R Z y bytes maxL ret n0 K N Q h cells slots pc Ls (.int j :: .ref a :: st) := by
  subst hp
  obtain ⟨cl, A, r⟩ := hA
  exact Go.of q fun p e s m args below meth c T locs O X eT t hr => X.iaload O.1 (j := j) (v := v) (by rw [eT]; exact A.1) (State.isArrayOf_alike O.2.2.2.2.2.1.alike A.2.1) A.2.2 (inb hj r (lt_of_get hv)) (by rw [clamp_of hj, r]; simpa using hv) (g := mkF m pc Ls (.int j :: .ref a :: st)) rfl rfl (hb O.2.1 hd) _ hr
theorem Go.ldJ {a : Addr} {vs : List Value} {j : Int32} {k : Nat} {v : Value} (hA : Ary Z h a .long vs) (hj : j.toInt = (k : Int)) (hv : vs[k]? = some v) (hd : decode bytes pc = .ok (.laload, 1)) (hp : pc + 1 = pc') (q : Go wd l R Z y bytes maxL ret n0 K N Q h cells slots pc' Ls (v :: st)) : Go wd l R Z y bytes maxL ret n0 K N Q h cells slots pc Ls (.int j :: .ref a :: st) := by
  subst hp
  obtain ⟨cl, A, r⟩ := hA
  exact Go.of q fun p e s m args below meth c T locs O X eT t hr => X.laload O.1 (j := j) (v := v) (by rw [eT]; exact A.1) (State.isArrayOf_alike O.2.2.2.2.2.1.alike A.2.1) A.2.2 (inb hj r (lt_of_get hv)) (by rw [clamp_of hj, r]; simpa using hv) (g := mkF m pc Ls (.int j :: .ref a :: st)) rfl rfl (hb O.2.1 hd) _ hr
theorem Go.ldC {a : Addr} {vs : List Value} {j : Int32} {k : Nat} {v : Value} (hA : Ary Z h a .char vs) (hj : j.toInt = (k : Int)) (hv : vs[k]? = some v) (hd : decode bytes pc = .ok (.caload, 1)) (hp : pc + 1 = pc') (q : Go wd l R Z y bytes maxL ret n0 K N Q h cells slots pc' Ls (v :: st)) : Go wd l R Z y bytes maxL ret n0 K N Q h cells slots pc Ls (.int j :: .ref a :: st) := by
  subst hp
  obtain ⟨cl, A, r⟩ := hA
  exact Go.of q fun p e s m args below meth c T locs O X eT t hr => X.caload O.1 (j := j) (v := v) (by rw [eT]; exact A.1) (State.isArrayOf_alike O.2.2.2.2.2.1.alike A.2.1) A.2.2 (inb hj r (lt_of_get hv)) (by rw [clamp_of hj, r]; simpa using hv) (g := mkF m pc Ls (.int j :: .ref a :: st)) rfl rfl (hb O.2.1 hd) _ hr
theorem Go.ldA {a : Addr} {ty : FieldType} {vs : List Value} {j : Int32} {k : Nat} {v : Value} (hA : Ary Z h a ty vs) (hty : ty.isReference = true) (hj : j.toInt = (k : Int)) (hv : vs[k]? = some v) (hd : decode bytes pc = .ok (.aaload, 1)) (hp : pc + 1 = pc') (q : Go wd l R Z y bytes maxL ret n0 K N Q h cells slots pc' Ls (v :: st)) : Go wd l R Z y bytes maxL ret n0 K N Q h cells slots pc Ls (.int j :: .ref a :: st) := by
  subst hp
  obtain ⟨cl, A, r⟩ := hA
  exact Go.of q fun p e s m args below meth c T locs O X eT t hr => X.aaload O.1 (j := j) (v := v) (by rw [eT]; exact A.1) (State.isArrayOf_alike O.2.2.2.2.2.1.alike A.2.1) hty A.2.2 (inb hj r (lt_of_get hv)) (by rw [clamp_of hj, r]; simpa using hv) (g := mkF m pc Ls (.int j :: .ref a :: st)) rfl rfl (hb O.2.1 hd) _ hr
theorem Go.stI {a : Addr} {vs : List Value} {j v : Int32} {k : Nat} (hA : Ary Z h a .int vs) (hj : j.toInt = (k : Int)) (hk : k < vs.length) (hd : decode bytes pc = .ok (.iastore, 1)) (ha : n0 ≤ a) (hp : pc + 1 = pc')
    (q : ∀ h', Wr h h' a k (.int v) → Ary Z h' a .int (vs.set k (.int v)) → Go wd l R Z y bytes maxL ret n0 K N Q h' cells slots pc' Ls st) : Go wd l R Z y bytes maxL ret n0 K N Q h cells slots pc Ls (.int v :: .int j :: .ref a :: st) := by
  subst hp
  have hA' := hA
  obtain ⟨cl, A, r⟩ := hA
  intro p e s0 s m args below meth c T locs hR O X eT F
  obtain ⟨T2, h2, X2, e2, W2, st2⟩ := RoadKit.stI X O.1 O.2.2.2.2.2.1 eT A (j := j) (x := v) (inb hj r hk) (g := mkF m pc Ls (.int v :: .int j :: .ref a :: st)) rfl rfl (hb O.2.1 hd)
  rw [clamp_of hj] at X2 W2
  obtain ⟨s₂, o, h1, r⟩ := q h2 W2 (hA'.set W2) p e s0 s m args below meth c T2 _ (hR.mono (Nat.le_of_eq W2.size.symm)) O X2 e2 (Fr.snoc X2 F ha)
  exact ⟨s₂, o, st2 _ h1, r⟩
theorem Go.stJ {a : Addr} {vs : List Value} {j : Int32} {v : Int64} {k : Nat} (hA : Ary Z h a .long vs) (hj : j.toInt = (k : Int)) (hk : k < vs.length) (hd : decode bytes pc = .ok (.lastore, 1)) (ha : n0 ≤ a) (hp : pc + 1 = pc')
    (q : ∀ h', Wr h h' a k (.long v) → Ary Z h' a .long (vs.set k (.long v)) → Go wd l R Z y bytes maxL ret n0 K N Q h' cells slots pc' Ls st) : Go wd l R Z y bytes maxL ret n0 K N Q h cells slots pc Ls (.long v :: .int j :: .ref a :: st) := by
  subst hp
  have hA' := hA
  obtain ⟨cl, A, r⟩ := hA
  intro p e s0 s m args below meth c T locs hR O X eT F
  obtain ⟨T2, h2, X2, e2, W2, st2⟩ := RoadKit.stJ X O.1 O.2.2.2.2.2.1 eT A (j := j) (x := v) (inb hj r hk) (g := mkF m pc Ls (.long v :: .int j :: .ref a :: st)) rfl rfl (hb O.2.1 hd)
  rw [clamp_of hj] at X2 W2
  obtain ⟨s₂, o, h1, r⟩ := q h2 W2 (hA'.set W2) p e s0 s m args below meth c T2 _ (hR.mono (Nat.le_of_eq W2.size.symm)) O X2 e2 (Fr.snoc X2 F ha)
  exact ⟨s₂, o, st2 _ h1, r⟩
theorem Go.stC {a : Addr} {vs : List Value} {j v : Int32} {k : Nat} (hA : Ary Z h a .char vs) (hj : j.toInt = (k : Int)) (hk : k < vs.length) (hd : decode bytes pc = .ok (.castore, 1)) (ha : n0 ≤ a) (hp : pc + 1 = pc')
    (q : ∀ h', Wr h h' a k (.int (nar .char v)) → Ary Z h' a .char (vs.set k (.int (nar .char v))) → Go wd l R Z y bytes maxL ret n0 K N Q h' cells slots pc' Ls st) : Go wd l R Z y bytes maxL ret n0 K N Q h cells slots pc Ls (.int v :: .int j :: .ref a :: st) := by
  subst hp
  have hA' := hA
  obtain ⟨cl, A, r⟩ := hA
  intro p e s0 s m args below meth c T locs hR O X eT F
  obtain ⟨T2, h2, X2, e2, W2, st2⟩ := RoadKit.stC X O.1 O.2.2.2.2.2.1 eT A (j := j) (x := v) (inb hj r hk) (g := mkF m pc Ls (.int v :: .int j :: .ref a :: st)) rfl rfl (hb O.2.1 hd)
  rw [clamp_of hj] at X2 W2
  obtain ⟨s₂, o, h1, r⟩ := q h2 W2 (hA'.set W2) p e s0 s m args below meth c T2 _ (hR.mono (Nat.le_of_eq W2.size.symm)) O X2 e2 (Fr.snoc X2 F ha)
  exact ⟨s₂, o, st2 _ h1, r⟩
/-! a method by its contract -/
def Mt (wd : Bool) (l : Launch) (Z : State) (y : MethodName) (bytes : ByteArray) (maxL : Nat) (ret : Option FieldType) (rm : Room) (n0 : Nat) (Q : Option Value → Heap → Prop) (h : Heap) (as' : Array Value) : Prop :=
  MetFree l y (head1 [Cond.code y bytes maxL ret] rm) (fun a U => a = as' ∧ Z.Warmed39 U.vm ∧ U.heap = h) (fun _ _ _ _ _ => True) (fun _ U o U' => ∃ v L, o = .returned v ∧ ((Q v U'.heap ∧ h.size ≤ U'.heap.size) ∧ Fr n0 L) ∧ GoEnd wd U o U' L rm.cells rm.slots)
theorem met_go {rm : Room} {ws : List Jvm.Cond} {as' : Array Value} (hp : plainFor y = true) (hef : ∀ m, entryFrame m as' maxL = mkF m 0 Ls []) (g : Go wd l rm Z y bytes maxL ret n0 K N Q h 0 0 0 Ls []) :
    MetFree l y (head1 (Jvm.Cond.code y bytes maxL ret :: ws) rm) (fun a U => a = as' ∧ Z.Warmed39 U.vm ∧ U.heap = h) (fun _ _ _ _ _ => True) (fun _ U o U' => ∃ v L, o = .returned v ∧ ((Q v U'.heap ∧ h.size ≤ U'.heap.size) ∧ Fr n0 L) ∧ GoEnd wd U o U' L K N) := by
  refine MetFree.of_bodySF hp hisR ?_
  intro p e s m args below meth c s₁ Bd hml0 hP hK
  obtain ⟨rfl, hZ, hh⟩ := hP
  have O : Own Z y bytes maxL ret p s m meth c := ⟨Bd.exec, Bd.bytes, hml0, findClass_of_methodNamed Bd.named, (name_of_methodNamed Bd.named Bd.method).1, hZ, Bd.returns, Bd.notSynchronized⟩
  have X0 : Stand p l e rm s m args below meth c s₁ [] 0 0 := Stand.of_body Bd
  have e0 : s₁.heap = h := by rw [← hh, Bd.state]; rfl
  obtain ⟨s₂, o, h1, h2, h3, v, L, h4, h5, h6⟩ := g p e s s m args below meth c s₁ [] (GoRel.refl _ _ _) O X0 e0 (Fr.nil n0)
  exact ⟨s₂, o, castTop (hef m) h1, h2, h3, v, L, h4, ⟨⟨h5.1, hh ▸ h6.grow⟩, h5.2⟩, h6⟩
theorem Mt.go {rm : Room} {as' : Array Value} (hp : plainFor y = true) (hef : ∀ m, entryFrame m as' maxL = mkF m 0 Ls []) (g : Go wd l rm Z y bytes maxL ret n0 rm.cells rm.slots Q h 0 0 0 Ls []) : Mt wd l Z y bytes maxL ret rm n0 Q h as' := met_go (ws := []) hp hef g
variable {y2 : MethodName} {bytes2 : ByteArray} {maxL2 : Nat} {ret2 : Option FieldType} {rm : Room} {i W : Nat} {as' : Array Value} {argsL rest : List Value} {Q2 : Option Value → Heap → Prop} {ps : List FieldType} {r2 : Option FieldType}
theorem Go.callS (w1 : (Cond.methodLink y.cls i y2).before a0 Z = true) (w2 : (Cond.static y2).before a0 Z = true) (w3 : (Cond.initialized y2.cls).before a0 Z = true) (w4 : (Cond.code y2 bytes2 maxL2 ret2).before a0 Z = true) (hy : y2.cls ≠ "java/lang/invoke/MethodHandle" ∧ y2.cls ≠ "java/lang/invoke/VarHandle")
    (hM : Mt false l Z y2 bytes2 maxL2 ret2 rm n0 Q2 h argsL.toArray) (hd : decode bytes pc = .ok (.invokestatic i, 3)) (hz : Ls.size = maxL) (hpd : parseMethodDescriptor y2.desc = some ⟨ps, r2⟩) (hlen : argsL.length = ps.length) (hst : st = argsL.reverse ++ rest)
    (hW : (rest.map fun v => v.category).sum ≤ W) (hf : rm.frames + 1 ≤ R.frames) (hl : W + (maxL2 + 11) + rm.locals ≤ R.locals) (hc : cells + rm.cells ≤ R.cells) (hs : slots + rm.slots ≤ R.slots) (hp : pc + 3 = pc')
    (q : ∀ v h', Q2 v h' → Go wd l R Z y bytes maxL ret n0 K N Q h' (cells + rm.cells) (slots + rm.slots) pc' Ls (v.toList ++ rest)) : Go wd l R Z y bytes maxL ret n0 K N Q h cells slots pc Ls st := by
  subst hp hst
  intro p e s0 s m args below meth c T locs hR O X eT F
  obtain ⟨v, vm₁, ⟨T2, L2, k2, n2⟩, -, X2, ⟨Lc, hQ, l2, y2, z2⟩, st2⟩ := Jvm.LawKit.callS X O.1 (y := y2) O.2.2.2.1 (mvT O.2.2.2.2.2.1 w1) (mvT O.2.2.2.2.2.1 w2) (mvT O.2.2.2.2.2.1 w3) (mvT O.2.2.2.2.2.1 w4) hy
    (backOf (W := W) (Q := fun v h' L => (Q2 v h' ∧ h.size ≤ h'.size) ∧ Fr n0 L) hM O.2.2.2.2.2.1 w4 w3 hf hl) (g := mkF m pc Ls (argsL.reverse ++ rest)) rfl (hz.trans O.2.2.1.symm) (argsL := argsL) (rest := rest) (lenOf hpd hlen) rfl (by show 2 * 0 + _ ≤ _; omega) (hb O.2.1 hd) (fun _ _ => ⟨rfl, eT, hc, hs⟩)
  dsimp only [Pt.U, Pt.locs, Pt.cells, Pt.slots] at X2 l2 y2 z2 st2 hQ
  subst l2 y2 z2
  obtain ⟨s₂, o, h1, r⟩ := q v T2.heap hQ.1.1 p e s0 s m args below meth c T2 _ (hR.mono hQ.1.2) O X2 rfl (Fr.app F hQ.2)
  exact ⟨s₂, o, st2 _ h1, r⟩
theorem Go.callN {a : Addr} (hy1 : y2.name = "<init>") (w1 : (Cond.methodLink y.cls i y2).before a0 Z = true) (w2 : (Cond.instanceMethod y2).before a0 Z = true) (w3 : (Cond.initialized y2.cls).before a0 Z = true) (w4 : (Cond.code y2 bytes2 maxL2 none).before a0 Z = true) (hy : y2.cls ≠ "java/lang/invoke/MethodHandle" ∧ y2.cls ≠ "java/lang/invoke/VarHandle")
    (hM : Mt false l Z y2 bytes2 maxL2 none rm n0 Q2 h (.ref a :: argsL).toArray) (hd : decode bytes pc = .ok (.invokespecial i, 3)) (hz : Ls.size = maxL) (hpd : parseMethodDescriptor y2.desc = some ⟨ps, r2⟩) (hlen : argsL.length = ps.length) (hst : st = argsL.reverse ++ .ref a :: rest)
    (hW : (rest.map fun v => v.category).sum ≤ W) (hf : rm.frames + 1 ≤ R.frames) (hl : W + (maxL2 + 11) + rm.locals ≤ R.locals) (hc : cells + rm.cells ≤ R.cells) (hs : slots + rm.slots ≤ R.slots) (hp : pc + 3 = pc')
    (q : ∀ v h', Q2 v h' → Go wd l R Z y bytes maxL ret n0 K N Q h' (cells + rm.cells) (slots + rm.slots) pc' Ls (v.toList ++ rest)) : Go wd l R Z y bytes maxL ret n0 K N Q h cells slots pc Ls st := by
  subst hp hst
  intro p e s0 s m args below meth c T locs hR O X eT F
  obtain ⟨v, vm₁, ⟨T2, L2, k2, n2⟩, -, X2, ⟨Lc, hQ, l2, y2, z2⟩, st2⟩ := X.specialBack O.1 (y := y2) hy1 O.2.2.2.1 (mvT O.2.2.2.2.2.1 w1) (mvT O.2.2.2.2.2.1 w2) (mvT O.2.2.2.2.2.1 w4) hy
    (backOf (W := W) (Q := fun v h' L => (Q2 v h' ∧ h.size ≤ h'.size) ∧ Fr n0 L) hM O.2.2.2.2.2.1 w4 w3 hf hl) (g := mkF m pc Ls (argsL.reverse ++ .ref a :: rest)) rfl (hz.trans O.2.2.1.symm) (Steps.refl _) (a := a) (argsL := argsL) (rest := rest) (lenOf hpd hlen) rfl (by show 2 * 0 + _ ≤ _; omega) (hb O.2.1 hd) (fun _ _ => ⟨rfl, eT, hc, hs⟩)
  dsimp only [Pt.U, Pt.locs, Pt.cells, Pt.slots] at X2 l2 y2 z2 st2 hQ
  subst l2 y2 z2
  obtain ⟨s₂, o, h1, r⟩ := q v T2.heap hQ.1.1 p e s0 s m args below meth c T2 _ (hR.mono hQ.1.2) O X2 rfl (Fr.app F hQ.2)
  exact ⟨s₂, o, st2.trans h1, r⟩
theorem Go.callV {a : Addr} {C : String} (w1 : (Cond.methodLink y.cls i y2).before a0 Z = true) (w2 : (Cond.declares y2).before a0 Z = true) (w5 : (Cond.selects C y2 y2).before a0 Z = true) (w6 : (Cond.instanceMethod y2).before a0 Z = true) (w3 : (Cond.initialized y2.cls).before a0 Z = true) (w4 : (Cond.code y2 bytes2 maxL2 ret2).before a0 Z = true)
    (hy : y2.cls ≠ "java/lang/invoke/MethodHandle" ∧ y2.cls ≠ "java/lang/invoke/VarHandle") (hE : Exa Z h a C)
    (hM : Mt false l Z y2 bytes2 maxL2 ret2 rm n0 Q2 h (.ref a :: argsL).toArray) (hd : decode bytes pc = .ok (.invokevirtual i, 3)) (hz : Ls.size = maxL) (hpd : parseMethodDescriptor y2.desc = some ⟨ps, r2⟩) (hlen : argsL.length = ps.length) (hst : st = argsL.reverse ++ .ref a :: rest)
    (hW : (rest.map fun v => v.category).sum ≤ W) (hf : rm.frames + 1 ≤ R.frames) (hl : W + (maxL2 + 11) + rm.locals ≤ R.locals) (hc : cells + rm.cells ≤ R.cells) (hs : slots + rm.slots ≤ R.slots) (hp : pc + 3 = pc')
    (q : ∀ v h', Q2 v h' → Go wd l R Z y bytes maxL ret n0 K N Q h' (cells + rm.cells) (slots + rm.slots) pc' Ls (v.toList ++ rest)) : Go wd l R Z y bytes maxL ret n0 K N Q h cells slots pc Ls st := by
  subst hp hst
  intro p e s0 s m args below meth c T locs hR O X eT F
  obtain ⟨cq, kq, qa, qb, qc⟩ := isOf (T := T) O.2.2.2.2.2.1 eT hE
  obtain ⟨v, vm₁, ⟨T2, L2, k2, n2⟩, -, X2, ⟨Lc, hQ, l2, y2, z2⟩, st2⟩ := X.virtualBack O.1 (y := y2) (z := y2) O.2.2.2.1 (mvT O.2.2.2.2.2.1 w1) (mvT O.2.2.2.2.2.1 w2) (notFace_of_selects (args := #[]) (mvT O.2.2.2.2.2.1 w5)) (mvT O.2.2.2.2.2.1 w5) (mvT O.2.2.2.2.2.1 w6) hy
    (backOf (W := W) (Q := fun v h' L => (Q2 v h' ∧ h.size ≤ h'.size) ∧ Fr n0 L) hM O.2.2.2.2.2.1 w4 w3 hf hl) qa qc (g := mkF m pc Ls (argsL.reverse ++ .ref a :: rest)) rfl (hz.trans O.2.2.1.symm) (Steps.refl _) (argsL := argsL) (rest := rest) (lenOf hpd hlen) rfl (by show 2 * 0 + _ ≤ _; omega) (hb O.2.1 hd) (fun _ _ => ⟨rfl, eT, hc, hs⟩)
  dsimp only [Pt.U, Pt.locs, Pt.cells, Pt.slots] at X2 l2 y2 z2 st2 hQ
  subst l2 y2 z2
  obtain ⟨s₂, o, h1, r⟩ := q v T2.heap hQ.1.1 p e s0 s m args below meth c T2 _ (hR.mono hQ.1.2) O X2 rfl (Fr.app F hQ.2)
  exact ⟨s₂, o, st2.trans h1, r⟩
end GoLaws
end Jvm.RoadKit
namespace Jvm.RoadKit
open Sem ClassFile Op Lib Jvm.Stand Jvm.Free Jvm.LawKit
section GoPriv
variable {wd : Bool} {l : Launch} {R : Room} {Z : State} {y : MethodName} {bytes : ByteArray} {maxL : Nat} {ret : Option FieldType} {n0 K N : Nat} {Q : Option Value → Heap → Prop} {h : Heap} {cells slots pc pc' : Nat} {Ls Ls' : Array Slot} {st st' : List Value} {a0 : Array Value}
variable {y2 : MethodName} {bytes2 : ByteArray} {maxL2 : Nat} {ret2 : Option FieldType} {rm : Room} {i W : Nat} {as' : Array Value} {argsL rest : List Value} {Q2 : Option Value → Heap → Prop} {ps : List FieldType} {r2 : Option FieldType}
/-- invokevirtual of a private method; that its class is no interface comes out of another word on that class -/
theorem Go.callP {a : Addr} {C C3 : String} {y4 y5 : MethodName} (w1 : (Cond.methodLink y.cls i y2).before a0 Z = true) (w6 : (Cond.instanceMethod y2).before a0 Z = true) (w7 : (Cond.privateMethod y2).before a0 Z = true) (w3 : (Cond.initialized y2.cls).before a0 Z = true) (w4 : (Cond.code y2 bytes2 maxL2 ret2).before a0 Z = true) (w8 : (Cond.selects C3 y4 y5).before a0 Z = true) (h5 : y5.cls = y2.cls)
    (hy : y2.cls ≠ "java/lang/invoke/MethodHandle" ∧ y2.cls ≠ "java/lang/invoke/VarHandle") (hE : Exa Z h a C)
    (hM : Mt false l Z y2 bytes2 maxL2 ret2 rm n0 Q2 h (.ref a :: argsL).toArray) (hd : decode bytes pc = .ok (.invokevirtual i, 3)) (hz : Ls.size = maxL) (hpd : parseMethodDescriptor y2.desc = some ⟨ps, r2⟩) (hlen : argsL.length = ps.length) (hst : st = argsL.reverse ++ .ref a :: rest)
    (hW : (rest.map fun v => v.category).sum ≤ W) (hf : rm.frames + 1 ≤ R.frames) (hl : W + (maxL2 + 11) + rm.locals ≤ R.locals) (hc : cells + rm.cells ≤ R.cells) (hs : slots + rm.slots ≤ R.slots) (hp : pc + 3 = pc')
    (q : ∀ v h', Q2 v h' → Go wd l R Z y bytes maxL ret n0 K N Q h' (cells + rm.cells) (slots + rm.slots) pc' Ls (v.toList ++ rest)) : Go wd l R Z y bytes maxL ret n0 K N Q h cells slots pc Ls st := by
  subst hp hst
  intro p e s0 s m args below meth c T locs hR O X eT F
  obtain ⟨cq, q1, q2⟩ := hE.cell
  have hsel0 : (Cond.selects C3 y4 y5).before args s = true := mvT O.2.2.2.2.2.1 w8
  obtain ⟨c2, rr, m2, -, -, q3, -, kP, hkP, hkPi⟩ := Cond.selects_spec hsel0
  have hcc := findClass_of_methodNamed q3
  rw [h5] at hcc
  have hpriv := Cond.privateMethod_at (mvP (args := #[]) O.2.2.2.2.2.1 w7)
  have hinst : (Cond.instanceMethod y2).before args s = true := mvT O.2.2.2.2.2.1 w6
  have hsel : (Cond.selects y2.cls y2 y2).before args s = true := selects_self_of_private hcc hkP hkPi hpriv hinst hy
  obtain ⟨v, vm₁, ⟨T2, L2, k2, n2⟩, -, X2, ⟨Lc, hQ, l2, y2, z2⟩, st2⟩ := X.privateBack O.1 (y := y2) O.2.2.2.1 (mvT O.2.2.2.2.2.1 w1) hinst hsel hpriv (mvT O.2.2.2.2.2.1 w4) hy
    (backOf (W := W) (Q := fun v h' L => (Q2 v h' ∧ h.size ≤ h'.size) ∧ Fr n0 L) hM O.2.2.2.2.2.1 w4 w3 hf hl) (g := mkF m pc Ls (argsL.reverse ++ .ref a :: rest)) rfl (hz.trans O.2.2.1.symm) (Steps.refl _) (a := a) (by rw [eT]; exact q1) q2 (argsL := argsL) (rest := rest) (lenOf hpd hlen) rfl (by show 2 * 0 + _ ≤ _; omega) (hb O.2.1 hd) (fun _ _ => ⟨rfl, eT, hc, hs⟩)
  dsimp only [Pt.U, Pt.locs, Pt.cells, Pt.slots] at X2 l2 y2 z2 st2 hQ
  subst l2 y2 z2
  obtain ⟨s₂, o, h1, r⟩ := q v T2.heap hQ.1.1 p e s0 s m args below meth c T2 _ (hR.mono hQ.1.2) O X2 rfl (Fr.app F hQ.2)
  exact ⟨s₂, o, st2.trans h1, r⟩
end GoPriv
end Jvm.RoadKit
namespace Jvm.RoadKit
open Sem ClassFile Op Lib Jvm.Stand Jvm.Free Jvm.LawKit
section GoCopy
variable {wd : Bool} {l : Launch} {R : Room} {Z : State} {y : MethodName} {bytes : ByteArray} {maxL : Nat} {ret : Option FieldType} {n0 K N : Nat} {Q : Option Value → Heap → Prop} {h : Heap} {cells slots pc pc' : Nat} {Ls Ls' : Array Slot} {st st' : List Value} {a0 : Array Value}
theorem Ary.arv {h : Heap} {a : Addr} {ty : FieldType} {vs : List Value} {z : Int32} (F : Ary Z h a ty vs) (hz : z.toInt = (vs.length : Int)) (hf : ∀ v ∈ vs, fits ty v = true) (dv : Value) : ∃ k, Arv Z h a k ty z vs dv := by
  obtain ⟨c, A, r⟩ := F
  have z0 : (0 : Int32).toInt = 0 := rfl
  have sz : c.slots.size = vs.length := by rw [r]; simp
  refine ⟨c.cls, c, A, rfl, by rw [sz, clamp_of hz], by rw [Int32.lt_iff_toInt_lt, z0]; omega, fun k hk => ?_, fun i hi => ?_⟩
  · rw [sz] at hk
    rw [r, List.getD_eq_getElem?_getD, List.getElem?_eq_getElem hk]; simp [hk]
  · rw [sz] at hi
    rw [List.getD_eq_getElem?_getD, List.getElem?_eq_getElem hi]
    exact hf _ (List.getElem_mem hi)
theorem Arv.ary {h : Heap} {a : Addr} {k : ClassId} {ty : FieldType} {vs : List Value} {z : Int32} {dv : Value} (F : Arv Z h a k ty z vs dv) (hz : z.toInt = (vs.length : Int)) : Ary Z h a ty vs := by
  obtain ⟨c, A, -, S, -, H, -⟩ := F
  rw [clamp_of hz] at S
  refine ⟨c, A, ?_⟩
  apply Array.ext_getElem?
  intro i
  by_cases hi : i < vs.length
  · rw [H i (by omega), List.getD_eq_getElem?_getD, List.getElem?_eq_getElem hi]; simp [hi]
  · rw [Array.getElem?_eq_none (by omega), Array.getElem?_eq_none (by simp; omega)]
theorem Go.acopy {i W i1 i2 k : Nat} {a b : Addr} {ty : FieldType} {vs vd res : List Value} {sp dp nn za zb : Int32}
    (w1 : (Cond.methodLink y.cls i Jvm.Stand.acN).before a0 Z = true) (w2 : (Cond.native Jvm.Stand.acN).before a0 Z = true) (w3 : (Cond.static Jvm.Stand.acN).before a0 Z = true) (w4 : (Cond.initialized "java/lang/System").before a0 Z = true)
    (hA : Ary Z h a ty vs) (hB : Ary Z h b ty vd) (hk : refKind ty = false) (fA : ∀ v ∈ vs, fits ty v = true) (fB : ∀ v ∈ vd, fits ty v = true) (za1 : za.toInt = (vs.length : Int)) (zb1 : zb.toInt = (vd.length : Int))
    (e1 : sp.toInt = (i1 : Int)) (e2 : dp.toInt = (i2 : Int)) (e3 : nn.toInt = (k : Int)) (b1 : i1 + k ≤ vs.length) (b2 : i2 + k ≤ vd.length) (hr : vd.take i2 ++ (vs.drop i1).take k ++ vd.drop (i2 + k) = res) (ge : n0 ≤ b)
    (hd : decode bytes pc = .ok (.invokestatic i, 3)) (hz : Ls.size = maxL) (hf : 1 ≤ R.frames) (hW : (st.map fun v => v.category).sum ≤ W) (hlo : W + (nativeFrameWords "java/lang/System" "arraycopy" 5 + 11) ≤ R.locals) (hp : pc + 3 = pc')
    (q : ∀ h', Keep h h' [b] → Ary Z h' b ty res → Go wd l R Z y bytes maxL ret n0 K N Q h' cells slots pc' Ls st) : Go wd l R Z y bytes maxL ret n0 K N Q h cells slots pc Ls (.int nn :: .int dp :: .ref b :: .int sp :: .ref a :: st) := by
  subst hp hr
  have z0 : (0 : Int32).toInt = 0 := rfl
  obtain ⟨ka, A⟩ := hA.arv za1 fA .null
  obtain ⟨kb, B⟩ := hB.arv zb1 fB .null
  intro p e s0 s m args below meth c T locs hR O X eT F
  have hus : (vs.drop i1).take k = (List.range nn.toNatClampNeg).map fun j => vs.getD (sp.toNatClampNeg + j) .null := by
    rw [clamp_of e1, clamp_of e3]
    apply List.ext_getElem
    · simp; omega
    · intro j hj1 hj2
      simp at hj1 hj2
      simp [List.getElem?_eq_getElem (show i1 + j < vs.length by omega)]
  obtain ⟨T2, h2, L2, X2, e2', N2, K2, B2, st2⟩ := cpA (us := (vs.drop i1).take k) X O.1 O.2.2.2.2.2.1 O.2.2.2.1 w1 w2 w3 w4 eT A B (Or.inl ⟨rfl, hk⟩) (sp := sp) (dp := dp) (nn := nn) (by rw [Int32.lt_iff_toInt_lt, z0]; omega) (by rw [Int32.lt_iff_toInt_lt, z0]; omega) (by rw [Int32.lt_iff_toInt_lt, z0]; omega)
    (by rw [clamp_of e1, clamp_of e3, clamp_of za1]; exact b1) (by rw [clamp_of e2, clamp_of e3, clamp_of zb1]; exact b2) hus (by rw [clamp_of e2, clamp_of e3]; exact b2) F ge (g := mkF m pc Ls (.int nn :: .int dp :: .ref b :: .int sp :: .ref a :: st)) rfl (hz.trans O.2.2.1.symm) rfl (hb O.2.1 hd) hf (W := W) (by show 2 * 0 + _ ≤ _; omega) hlo
  rw [clamp_of e2, clamp_of e3] at B2
  obtain ⟨s₂, o, h1, r⟩ := q h2 K2 (B2.ary (by rw [zb1]; simp; omega)) p e s0 s m args below meth c T2 L2 (hR.mono K2.1) O X2 e2' N2
  exact ⟨s₂, o, st2 _ h1, r⟩
end GoCopy
end Jvm.RoadKit
namespace Jvm.RoadKit
open Sem ClassFile Op Lib Jvm.Stand Jvm.Free Jvm.LawKit
section GoWide
variable {l : Launch} {R : Room} {Z : State} {y : MethodName} {bytes : ByteArray} {maxL : Nat} {ret : Option FieldType} {n0 K N : Nat} {Q : Option Value → Heap → Prop} {h : Heap} {cells slots pc pc' : Nat} {Ls Ls' : Array Slot} {st st' : List Value} {a0 : Array Value}
variable {y2 : MethodName} {bytes2 : ByteArray} {maxL2 : Nat} {ret2 : Option FieldType} {rm : Room} {i W : Nat} {as' : Array Value} {argsL rest : List Value} {Q2 : Option Value → Heap → Prop} {ps : List FieldType} {r2 : Option FieldType}
/-- ldc of a String constant that may be loaded here for the first time; of the String nothing is said -/
theorem Go.ldcS {text : String} {n : Nat} (w : (Cond.stringLink y.cls i text).before a0 Z = true) (wS : ∀ a ∈ Bundle.stringAtoms, a.before a0 Z = true) (hd : decode bytes pc = .ok (.ldc i, 2)) (hn : 4 * text.toList.length ≤ n) (hbig : n ≤ 536870912) (hc : cells + 2 ≤ R.cells) (hl : slots + (n + 4) ≤ R.slots) (hp : pc + 2 = pc')
    (q : ∀ (h' : Heap) (a : Addr), Ext h h' → Go true l R Z y bytes maxL ret n0 K N Q h' (cells + 2) (slots + (n + 4)) pc' Ls (.ref a :: st)) : Go true l R Z y bytes maxL ret n0 K N Q h cells slots pc Ls st := by
  subst hp
  intro p e s0 s m args below meth c T locs hR O X eT F
  obtain ⟨vm0, k0, rfl, hS, hk⟩ := hR
  obtain ⟨a, T2, h2, k1, X2, e2, E2, S2, hk1, hZ2, hown2, st2⟩ := RoadKit.ldcS X O.1 O.2.2.2.2.2.1 O.2.2.2.1 w wS eT hS hk (g := mkF m pc Ls st) rfl (hb O.2.1 hd) hn hbig hc hl
  obtain ⟨s₂, o, h1, r⟩ := q h2 a E2 p e s0 (s0.setVm T2.vm) m args below meth c T2 locs ⟨T2.vm, k1, rfl, S2, hk1⟩ ⟨O.1, O.2.1, O.2.2.1, hown2, O.2.2.2.2.1, hZ2, O.2.2.2.2.2.2.1, O.2.2.2.2.2.2.2⟩ X2 e2 F
  exact ⟨s₂, o, st2 _ h1, r⟩
theorem Go.callSW (w1 : (Cond.methodLink y.cls i y2).before a0 Z = true) (w2 : (Cond.static y2).before a0 Z = true) (w3 : (Cond.initialized y2.cls).before a0 Z = true) (w4 : (Cond.code y2 bytes2 maxL2 ret2).before a0 Z = true) (hy : y2.cls ≠ "java/lang/invoke/MethodHandle" ∧ y2.cls ≠ "java/lang/invoke/VarHandle")
    (hM : Mt true l Z y2 bytes2 maxL2 ret2 rm n0 Q2 h argsL.toArray) (hd : decode bytes pc = .ok (.invokestatic i, 3)) (hz : Ls.size = maxL) (hpd : parseMethodDescriptor y2.desc = some ⟨ps, r2⟩) (hlen : argsL.length = ps.length) (hst : st = argsL.reverse ++ rest)
    (hW : (rest.map fun v => v.category).sum ≤ W) (hf : rm.frames + 1 ≤ R.frames) (hl : W + (maxL2 + 11) + rm.locals ≤ R.locals) (hc : cells + rm.cells ≤ R.cells) (hs : slots + rm.slots ≤ R.slots) (hp : pc + 3 = pc')
    (q : ∀ v h', Q2 v h' → Go true l R Z y bytes maxL ret n0 K N Q h' (cells + rm.cells) (slots + rm.slots) pc' Ls (v.toList ++ rest)) : Go true l R Z y bytes maxL ret n0 K N Q h cells slots pc Ls st := by
  subst hp hst
  intro p e s0 s m args below meth c T locs hR O X eT F
  obtain ⟨vm0, k0, rfl, hS, hk⟩ := hR
  obtain ⟨v, vm₁, ⟨T2, L2, k2, n2⟩, -, X2, S2, g2, ⟨Lc, hQ, l2, y2, z2⟩, st2⟩ := RoadKit.callSS X O.1 (y := y2) O.2.2.2.1 (mvT O.2.2.2.2.2.1 w1) (mvT O.2.2.2.2.2.1 w2) (mvT O.2.2.2.2.2.1 w3) (mvT O.2.2.2.2.2.1 w4) hy
    (backOfS (W := W) (Q := fun v h' L => (Q2 v h' ∧ h.size ≤ h'.size) ∧ Fr n0 L) hM O.2.2.2.2.2.1 w4 w3 hf hl) (g := mkF m pc Ls (argsL.reverse ++ rest)) rfl (hz.trans O.2.2.1.symm) (argsL := argsL) (rest := rest) (lenOf hpd hlen) rfl (by show 2 * 0 + _ ≤ _; omega) (hb O.2.1 hd) (fun _ _ => ⟨rfl, eT, hc, hs⟩)
  dsimp only [Pt.U, Pt.locs, Pt.cells, Pt.slots] at X2 l2 y2 z2 st2 hQ S2 g2
  subst l2 y2 z2
  rw [eT] at g2
  obtain ⟨X3, S3, hZ3, hown3⟩ := rebS hS hk X2 S2 g2 O.2.2.2.2.2.1 O.2.2.2.1
  obtain ⟨s₂, o, h1, r⟩ := q v T2.heap hQ.1.1 p e s0 (s0.setVm T2.vm) m args below meth c T2 _ ⟨T2.vm, _, rfl, S3, Nat.le_refl _⟩ ⟨O.1, O.2.1, O.2.2.1, hown3, O.2.2.2.2.1, hZ3, O.2.2.2.2.2.2.1, O.2.2.2.2.2.2.2⟩ X3 rfl (Fr.app F hQ.2)
  exact ⟨s₂, o, st2.trans h1, r⟩
theorem Go.callNW {a : Addr} (hy1 : y2.name = "<init>") (w1 : (Cond.methodLink y.cls i y2).before a0 Z = true) (w2 : (Cond.instanceMethod y2).before a0 Z = true) (w3 : (Cond.initialized y2.cls).before a0 Z = true) (w4 : (Cond.code y2 bytes2 maxL2 none).before a0 Z = true) (hy : y2.cls ≠ "java/lang/invoke/MethodHandle" ∧ y2.cls ≠ "java/lang/invoke/VarHandle")
    (hM : Mt true l Z y2 bytes2 maxL2 none rm n0 Q2 h (.ref a :: argsL).toArray) (hd : decode bytes pc = .ok (.invokespecial i, 3)) (hz : Ls.size = maxL) (hpd : parseMethodDescriptor y2.desc = some ⟨ps, r2⟩) (hlen : argsL.length = ps.length) (hst : st = argsL.reverse ++ .ref a :: rest)
    (hW : (rest.map fun v => v.category).sum ≤ W) (hf : rm.frames + 1 ≤ R.frames) (hl : W + (maxL2 + 11) + rm.locals ≤ R.locals) (hc : cells + rm.cells ≤ R.cells) (hs : slots + rm.slots ≤ R.slots) (hp : pc + 3 = pc')
    (q : ∀ v h', Q2 v h' → Go true l R Z y bytes maxL ret n0 K N Q h' (cells + rm.cells) (slots + rm.slots) pc' Ls (v.toList ++ rest)) : Go true l R Z y bytes maxL ret n0 K N Q h cells slots pc Ls st := by
  subst hp hst
  intro p e s0 s m args below meth c T locs hR O X eT F
  obtain ⟨vm0, k0, rfl, hS, hk⟩ := hR
  obtain ⟨v, vm₁, ⟨T2, L2, k2, n2⟩, -, X2, S2, g2, ⟨Lc, hQ, l2, y2, z2⟩, st2⟩ := X.specialBackS O.1 (y := y2) hy1 O.2.2.2.1 (mvT O.2.2.2.2.2.1 w1) (mvT O.2.2.2.2.2.1 w2) (mvT O.2.2.2.2.2.1 w4) hy
    (backOfS (W := W) (Q := fun v h' L => (Q2 v h' ∧ h.size ≤ h'.size) ∧ Fr n0 L) hM O.2.2.2.2.2.1 w4 w3 hf hl) (g := mkF m pc Ls (argsL.reverse ++ .ref a :: rest)) rfl (hz.trans O.2.2.1.symm) (Steps.refl _) (a := a) (argsL := argsL) (rest := rest) (lenOf hpd hlen) rfl (by show 2 * 0 + _ ≤ _; omega) (hb O.2.1 hd) (fun _ _ => ⟨rfl, eT, hc, hs⟩)
  dsimp only [Pt.U, Pt.locs, Pt.cells, Pt.slots] at X2 l2 y2 z2 st2 hQ S2 g2
  subst l2 y2 z2
  rw [eT] at g2
  obtain ⟨X3, S3, hZ3, hown3⟩ := rebS hS hk X2 S2 g2 O.2.2.2.2.2.1 O.2.2.2.1
  obtain ⟨s₂, o, h1, r⟩ := q v T2.heap hQ.1.1 p e s0 (s0.setVm T2.vm) m args below meth c T2 _ ⟨T2.vm, _, rfl, S3, Nat.le_refl _⟩ ⟨O.1, O.2.1, O.2.2.1, hown3, O.2.2.2.2.1, hZ3, O.2.2.2.2.2.2.1, O.2.2.2.2.2.2.2⟩ X3 rfl (Fr.app F hQ.2)
  exact ⟨s₂, o, st2.trans h1, r⟩
theorem Go.callVW {a : Addr} {C : String} (w1 : (Cond.methodLink y.cls i y2).before a0 Z = true) (w2 : (Cond.declares y2).before a0 Z = true) (w5 : (Cond.selects C y2 y2).before a0 Z = true) (w6 : (Cond.instanceMethod y2).before a0 Z = true) (w3 : (Cond.initialized y2.cls).before a0 Z = true) (w4 : (Cond.code y2 bytes2 maxL2 ret2).before a0 Z = true)
    (hy : y2.cls ≠ "java/lang/invoke/MethodHandle" ∧ y2.cls ≠ "java/lang/invoke/VarHandle") (hE : Exa Z h a C)
    (hM : Mt true l Z y2 bytes2 maxL2 ret2 rm n0 Q2 h (.ref a :: argsL).toArray) (hd : decode bytes pc = .ok (.invokevirtual i, 3)) (hz : Ls.size = maxL) (hpd : parseMethodDescriptor y2.desc = some ⟨ps, r2⟩) (hlen : argsL.length = ps.length) (hst : st = argsL.reverse ++ .ref a :: rest)
    (hW : (rest.map fun v => v.category).sum ≤ W) (hf : rm.frames + 1 ≤ R.frames) (hl : W + (maxL2 + 11) + rm.locals ≤ R.locals) (hc : cells + rm.cells ≤ R.cells) (hs : slots + rm.slots ≤ R.slots) (hp : pc + 3 = pc')
    (q : ∀ v h', Q2 v h' → Go true l R Z y bytes maxL ret n0 K N Q h' (cells + rm.cells) (slots + rm.slots) pc' Ls (v.toList ++ rest)) : Go true l R Z y bytes maxL ret n0 K N Q h cells slots pc Ls st := by
  subst hp hst
  intro p e s0 s m args below meth c T locs hR O X eT F
  obtain ⟨vm0, k0, rfl, hS, hk⟩ := hR
  obtain ⟨cq, kq, qa, qb, qc⟩ := isOf (T := T) O.2.2.2.2.2.1 eT hE
  obtain ⟨v, vm₁, ⟨T2, L2, k2, n2⟩, -, X2, S2, g2, ⟨Lc, hQ, l2, y2, z2⟩, st2⟩ := X.virtualBackS O.1 (y := y2) (z := y2) O.2.2.2.1 (mvT O.2.2.2.2.2.1 w1) (mvT O.2.2.2.2.2.1 w2) (notFace_of_selects (args := #[]) (mvT O.2.2.2.2.2.1 w5)) (mvT O.2.2.2.2.2.1 w5) (mvT O.2.2.2.2.2.1 w6) hy
    (backOfS (W := W) (Q := fun v h' L => (Q2 v h' ∧ h.size ≤ h'.size) ∧ Fr n0 L) hM O.2.2.2.2.2.1 w4 w3 hf hl) qa qc (g := mkF m pc Ls (argsL.reverse ++ .ref a :: rest)) rfl (hz.trans O.2.2.1.symm) (Steps.refl _) (argsL := argsL) (rest := rest) (lenOf hpd hlen) rfl (by show 2 * 0 + _ ≤ _; omega) (hb O.2.1 hd) (fun _ _ => ⟨rfl, eT, hc, hs⟩)
  dsimp only [Pt.U, Pt.locs, Pt.cells, Pt.slots] at X2 l2 y2 z2 st2 hQ S2 g2
  subst l2 y2 z2
  rw [eT] at g2
  obtain ⟨X3, S3, hZ3, hown3⟩ := rebS hS hk X2 S2 g2 O.2.2.2.2.2.1 O.2.2.2.1
  obtain ⟨s₂, o, h1, r⟩ := q v T2.heap hQ.1.1 p e s0 (s0.setVm T2.vm) m args below meth c T2 _ ⟨T2.vm, _, rfl, S3, Nat.le_refl _⟩ ⟨O.1, O.2.1, O.2.2.1, hown3, O.2.2.2.2.1, hZ3, O.2.2.2.2.2.2.1, O.2.2.2.2.2.2.2⟩ X3 rfl (Fr.app F hQ.2)
  exact ⟨s₂, o, st2.trans h1, r⟩
theorem Go.callPW {a : Addr} {C C3 : String} {y4 y5 : MethodName} (w1 : (Cond.methodLink y.cls i y2).before a0 Z = true) (w6 : (Cond.instanceMethod y2).before a0 Z = true) (w7 : (Cond.privateMethod y2).before a0 Z = true) (w3 : (Cond.initialized y2.cls).before a0 Z = true) (w4 : (Cond.code y2 bytes2 maxL2 ret2).before a0 Z = true) (w8 : (Cond.selects C3 y4 y5).before a0 Z = true) (h5 : y5.cls = y2.cls)
    (hy : y2.cls ≠ "java/lang/invoke/MethodHandle" ∧ y2.cls ≠ "java/lang/invoke/VarHandle") (hE : Exa Z h a C)
    (hM : Mt true l Z y2 bytes2 maxL2 ret2 rm n0 Q2 h (.ref a :: argsL).toArray) (hd : decode bytes pc = .ok (.invokevirtual i, 3)) (hz : Ls.size = maxL) (hpd : parseMethodDescriptor y2.desc = some ⟨ps, r2⟩) (hlen : argsL.length = ps.length) (hst : st = argsL.reverse ++ .ref a :: rest)
    (hW : (rest.map fun v => v.category).sum ≤ W) (hf : rm.frames + 1 ≤ R.frames) (hl : W + (maxL2 + 11) + rm.locals ≤ R.locals) (hc : cells + rm.cells ≤ R.cells) (hs : slots + rm.slots ≤ R.slots) (hp : pc + 3 = pc')
    (q : ∀ v h', Q2 v h' → Go true l R Z y bytes maxL ret n0 K N Q h' (cells + rm.cells) (slots + rm.slots) pc' Ls (v.toList ++ rest)) : Go true l R Z y bytes maxL ret n0 K N Q h cells slots pc Ls st := by
  subst hp hst
  intro p e s0 s m args below meth c T locs hR O X eT F
  obtain ⟨vm0, k0, rfl, hS, hk⟩ := hR
  obtain ⟨cq, q1, q2⟩ := hE.cell
  have hsel0 : (Cond.selects C3 y4 y5).before args (s0.setVm vm0) = true := mvT O.2.2.2.2.2.1 w8
  obtain ⟨c2, rr, m2, -, -, q3, -, kP, hkP, hkPi⟩ := Cond.selects_spec hsel0
  have hcc := findClass_of_methodNamed q3
  rw [h5] at hcc
  have hpriv := Cond.privateMethod_at (mvP (args := #[]) O.2.2.2.2.2.1 w7)
  have hinst : (Cond.instanceMethod y2).before args (s0.setVm vm0) = true := mvT O.2.2.2.2.2.1 w6
  have hsel : (Cond.selects y2.cls y2 y2).before args (s0.setVm vm0) = true := selects_self_of_private hcc hkP hkPi hpriv hinst hy
  obtain ⟨v, vm₁, ⟨T2, L2, k2, n2⟩, -, X2, S2, g2, ⟨Lc, hQ, l2, y2, z2⟩, st2⟩ := X.privateBackS O.1 (y := y2) O.2.2.2.1 (mvT O.2.2.2.2.2.1 w1) hinst hsel hpriv (mvT O.2.2.2.2.2.1 w4) hy
    (backOfS (W := W) (Q := fun v h' L => (Q2 v h' ∧ h.size ≤ h'.size) ∧ Fr n0 L) hM O.2.2.2.2.2.1 w4 w3 hf hl) (g := mkF m pc Ls (argsL.reverse ++ .ref a :: rest)) rfl (hz.trans O.2.2.1.symm) (Steps.refl _) (a := a) (by rw [eT]; exact q1) q2 (argsL := argsL) (rest := rest) (lenOf hpd hlen) rfl (by show 2 * 0 + _ ≤ _; omega) (hb O.2.1 hd) (fun _ _ => ⟨rfl, eT, hc, hs⟩)
  dsimp only [Pt.U, Pt.locs, Pt.cells, Pt.slots] at X2 l2 y2 z2 st2 hQ S2 g2
  subst l2 y2 z2
  rw [eT] at g2
  obtain ⟨X3, S3, hZ3, hown3⟩ := rebS hS hk X2 S2 g2 O.2.2.2.2.2.1 O.2.2.2.1
  obtain ⟨s₂, o, h1, r⟩ := q v T2.heap hQ.1.1 p e s0 (s0.setVm T2.vm) m args below meth c T2 _ ⟨T2.vm, _, rfl, S3, Nat.le_refl _⟩ ⟨O.1, O.2.1, O.2.2.1, hown3, O.2.2.2.2.1, hZ3, O.2.2.2.2.2.2.1, O.2.2.2.2.2.2.2⟩ X3 rfl (Fr.app F hQ.2)
  exact ⟨s₂, o, st2.trans h1, r⟩
end GoWide
end Jvm.RoadKit
namespace Jvm.Pilot.@@N@@
open Jvm Jvm.ClassFile Sem Op Lib Jvm.Free Jvm.Stand Jvm.LawKit Jvm.RoadKit Bundle Jvm.Pilot.@@N@@.Jvm.D
theorem d1_0 : decode jdk_29_method_69_code 0 = .ok (.iload_n 0, 1) := by decide +kernel
theorem d1_1 : decode jdk_29_method_69_code 1 = .ok (.iload_n 1, 1) := by decide +kernel
theorem d1_2 : decode jdk_29_method_69_code 2 = .ok (.if_icmp .gt 7, 3) := by decide +kernel
theorem d1_5 : decode jdk_29_method_69_code 5 = .ok (.iload_n 0, 1) := by decide +kernel
theorem d1_6 : decode jdk_29_method_69_code 6 = .ok (.goto 4, 3) := by decide +kernel
theorem d1_9 : decode jdk_29_method_69_code 9 = .ok (.iload_n 1, 1) := by decide +kernel
theorem d1_10 : decode jdk_29_method_69_code 10 = .ok (.ireturn, 1) := by decide +kernel
theorem d2_0 : decode method_3_code 0 = .ok (.iconst 0, 1) := by decide +kernel
theorem d2_1 : decode method_3_code 1 = .ok (.istore_n 3, 1) := by decide +kernel
theorem d2_2 : decode method_3_code 2 = .ok (.iload_n 1, 1) := by decide +kernel
theorem d2_3 : decode method_3_code 3 = .ok (.iconst 1, 1) := by decide +kernel
theorem d2_4 : decode method_3_code 4 = .ok (.iand, 1) := by decide +kernel
theorem d2_5 : decode method_3_code 5 = .ok (.ifCond .eq 12, 3) := by decide +kernel
theorem d2_8 : decode method_3_code 8 = .ok (.aload_n 2, 1) := by decide +kernel
theorem d2_9 : decode method_3_code 9 = .ok (.iload_n 3, 1) := by decide +kernel
theorem d2_10 : decode method_3_code 10 = .ok (.aload_n 0, 1) := by decide +kernel
theorem d2_11 : decode method_3_code 11 = .ok (.iconst 0, 1) := by decide +kernel
theorem d2_12 : decode method_3_code 12 = .ok (.iaload, 1) := by decide +kernel
theorem d2_13 : decode method_3_code 13 = .ok (.iastore, 1) := by decide +kernel
theorem d2_14 : decode method_3_code 14 = .ok (.iinc 3 1, 3) := by decide +kernel
theorem d2_17 : decode method_3_code 17 = .ok (.iload_n 1, 1) := by decide +kernel
theorem d2_18 : decode method_3_code 18 = .ok (.iconst 2, 1) := by decide +kernel
theorem d2_19 : decode method_3_code 19 = .ok (.iand, 1) := by decide +kernel
theorem d2_20 : decode method_3_code 20 = .ok (.ifCond .eq 12, 3) := by decide +kernel
theorem d2_23 : decode method_3_code 23 = .ok (.aload_n 2, 1) := by decide +kernel
theorem d2_24 : decode method_3_code 24 = .ok (.iload_n 3, 1) := by decide +kernel
theorem d2_25 : decode method_3_code 25 = .ok (.aload_n 0, 1) := by decide +kernel
theorem d2_26 : decode method_3_code 26 = .ok (.iconst 1, 1) := by decide +kernel
theorem d2_27 : decode method_3_code 27 = .ok (.iaload, 1) := by decide +kernel
theorem d2_28 : decode method_3_code 28 = .ok (.iastore, 1) := by decide +kernel
theorem d2_29 : decode method_3_code 29 = .ok (.iinc 3 1, 3) := by decide +kernel
theorem d2_32 : decode method_3_code 32 = .ok (.iload_n 1, 1) := by decide +kernel
theorem d2_33 : decode method_3_code 33 = .ok (.iconst 4, 1) := by decide +kernel
theorem d2_34 : decode method_3_code 34 = .ok (.iand, 1) := by decide +kernel
theorem d2_35 : decode method_3_code 35 = .ok (.ifCond .eq 12, 3) := by decide +kernel
theorem d2_38 : decode method_3_code 38 = .ok (.aload_n 2, 1) := by decide +kernel
theorem d2_39 : decode method_3_code 39 = .ok (.iload_n 3, 1) := by decide +kernel
theorem d2_40 : decode method_3_code 40 = .ok (.aload_n 0, 1) := by decide +kernel
theorem d2_41 : decode method_3_code 41 = .ok (.iconst 2, 1) := by decide +kernel
theorem d2_42 : decode method_3_code 42 = .ok (.iaload, 1) := by decide +kernel
theorem d2_43 : decode method_3_code 43 = .ok (.iastore, 1) := by decide +kernel
theorem d2_44 : decode method_3_code 44 = .ok (.iinc 3 1, 3) := by decide +kernel
theorem d2_47 : decode method_3_code 47 = .ok (.iload_n 1, 1) := by decide +kernel
theorem d2_48 : decode method_3_code 48 = .ok (.bipush 8, 2) := by decide +kernel
theorem d2_50 : decode method_3_code 50 = .ok (.iand, 1) := by decide +kernel
theorem d2_51 : decode method_3_code 51 = .ok (.ifCond .eq 12, 3) := by decide +kernel
theorem d2_54 : decode method_3_code 54 = .ok (.aload_n 2, 1) := by decide +kernel
theorem d2_55 : decode method_3_code 55 = .ok (.iload_n 3, 1) := by decide +kernel
theorem d2_56 : decode method_3_code 56 = .ok (.aload_n 0, 1) := by decide +kernel
theorem d2_57 : decode method_3_code 57 = .ok (.iconst 3, 1) := by decide +kernel
theorem d2_58 : decode method_3_code 58 = .ok (.iaload, 1) := by decide +kernel
theorem d2_59 : decode method_3_code 59 = .ok (.iastore, 1) := by decide +kernel
theorem d2_60 : decode method_3_code 60 = .ok (.iinc 3 1, 3) := by decide +kernel
theorem d2_63 : decode method_3_code 63 = .ok (.iload_n 1, 1) := by decide +kernel
theorem d2_64 : decode method_3_code 64 = .ok (.bipush 16, 2) := by decide +kernel
theorem d2_66 : decode method_3_code 66 = .ok (.iand, 1) := by decide +kernel
theorem d2_67 : decode method_3_code 67 = .ok (.ifCond .eq 12, 3) := by decide +kernel
theorem d2_70 : decode method_3_code 70 = .ok (.aload_n 2, 1) := by decide +kernel
theorem d2_71 : decode method_3_code 71 = .ok (.iload_n 3, 1) := by decide +kernel
theorem d2_72 : decode method_3_code 72 = .ok (.aload_n 0, 1) := by decide +kernel
theorem d2_73 : decode method_3_code 73 = .ok (.iconst 4, 1) := by decide +kernel
theorem d2_74 : decode method_3_code 74 = .ok (.iaload, 1) := by decide +kernel
theorem d2_75 : decode method_3_code 75 = .ok (.iastore, 1) := by decide +kernel
theorem d2_76 : decode method_3_code 76 = .ok (.iinc 3 1, 3) := by decide +kernel
theorem d2_79 : decode method_3_code 79 = .ok (.iload_n 1, 1) := by decide +kernel
theorem d2_80 : decode method_3_code 80 = .ok (.bipush 32, 2) := by decide +kernel
theorem d2_82 : decode method_3_code 82 = .ok (.iand, 1) := by decide +kernel
theorem d2_83 : decode method_3_code 83 = .ok (.ifCond .eq 12, 3) := by decide +kernel
theorem d2_86 : decode method_3_code 86 = .ok (.aload_n 2, 1) := by decide +kernel
theorem d2_87 : decode method_3_code 87 = .ok (.iload_n 3, 1) := by decide +kernel
theorem d2_88 : decode method_3_code 88 = .ok (.aload_n 0, 1) := by decide +kernel
theorem d2_89 : decode method_3_code 89 = .ok (.iconst 5, 1) := by decide +kernel
theorem d2_90 : decode method_3_code 90 = .ok (.iaload, 1) := by decide +kernel
theorem d2_91 : decode method_3_code 91 = .ok (.iastore, 1) := by decide +kernel
theorem d2_92 : decode method_3_code 92 = .ok (.iinc 3 1, 3) := by decide +kernel
theorem d2_95 : decode method_3_code 95 = .ok (.iload_n 3, 1) := by decide +kernel
theorem d2_96 : decode method_3_code 96 = .ok (.ireturn, 1) := by decide +kernel
theorem d3_0 : decode method_4_code 0 = .ok (.iload_n 1, 1) := by decide +kernel
theorem d3_1 : decode method_4_code 1 = .ok (.ifCond .ne 7, 3) := by decide +kernel
theorem d3_4 : decode method_4_code 4 = .ok (.iconst 0, 1) := by decide +kernel
theorem d3_5 : decode method_4_code 5 = .ok (.newarray .int, 2) := by decide +kernel
theorem d3_7 : decode method_4_code 7 = .ok (.areturn, 1) := by decide +kernel
theorem d3_8 : decode method_4_code 8 = .ok (.iload_n 1, 1) := by decide +kernel
theorem d3_9 : decode method_4_code 9 = .ok (.iconst 1, 1) := by decide +kernel
theorem d3_10 : decode method_4_code 10 = .ok (.if_icmp .ne 13, 3) := by decide +kernel
theorem d3_13 : decode method_4_code 13 = .ok (.iconst 1, 1) := by decide +kernel
theorem d3_14 : decode method_4_code 14 = .ok (.newarray .int, 2) := by decide +kernel
theorem d3_16 : decode method_4_code 16 = .ok (.dup, 1) := by decide +kernel
theorem d3_17 : decode method_4_code 17 = .ok (.iconst 0, 1) := by decide +kernel
theorem d3_18 : decode method_4_code 18 = .ok (.aload_n 0, 1) := by decide +kernel
theorem d3_19 : decode method_4_code 19 = .ok (.iconst 0, 1) := by decide +kernel
theorem d3_20 : decode method_4_code 20 = .ok (.iaload, 1) := by decide +kernel
theorem d3_21 : decode method_4_code 21 = .ok (.iastore, 1) := by decide +kernel
theorem d3_22 : decode method_4_code 22 = .ok (.areturn, 1) := by decide +kernel
theorem d3_23 : decode method_4_code 23 = .ok (.iload_n 1, 1) := by decide +kernel
theorem d3_24 : decode method_4_code 24 = .ok (.iconst 2, 1) := by decide +kernel
theorem d3_25 : decode method_4_code 25 = .ok (.if_icmp .ne 19, 3) := by decide +kernel
theorem d3_28 : decode method_4_code 28 = .ok (.iconst 2, 1) := by decide +kernel
theorem d3_29 : decode method_4_code 29 = .ok (.newarray .int, 2) := by decide +kernel
theorem d3_31 : decode method_4_code 31 = .ok (.dup, 1) := by decide +kernel
theorem d3_32 : decode method_4_code 32 = .ok (.iconst 0, 1) := by decide +kernel
theorem d3_33 : decode method_4_code 33 = .ok (.aload_n 0, 1) := by decide +kernel
theorem d3_34 : decode method_4_code 34 = .ok (.iconst 0, 1) := by decide +kernel
theorem d3_35 : decode method_4_code 35 = .ok (.iaload, 1) := by decide +kernel
theorem d3_36 : decode method_4_code 36 = .ok (.iastore, 1) := by decide +kernel
theorem d3_37 : decode method_4_code 37 = .ok (.dup, 1) := by decide +kernel
theorem d3_38 : decode method_4_code 38 = .ok (.iconst 1, 1) := by decide +kernel
theorem d3_39 : decode method_4_code 39 = .ok (.aload_n 0, 1) := by decide +kernel
theorem d3_40 : decode method_4_code 40 = .ok (.iconst 1, 1) := by decide +kernel
theorem d3_41 : decode method_4_code 41 = .ok (.iaload, 1) := by decide +kernel
theorem d3_42 : decode method_4_code 42 = .ok (.iastore, 1) := by decide +kernel
theorem d3_43 : decode method_4_code 43 = .ok (.areturn, 1) := by decide +kernel
theorem d3_44 : decode method_4_code 44 = .ok (.iload_n 1, 1) := by decide +kernel
theorem d3_45 : decode method_4_code 45 = .ok (.iconst 3, 1) := by decide +kernel
theorem d3_46 : decode method_4_code 46 = .ok (.if_icmp .ne 25, 3) := by decide +kernel
theorem d3_49 : decode method_4_code 49 = .ok (.iconst 3, 1) := by decide +kernel
theorem d3_50 : decode method_4_code 50 = .ok (.newarray .int, 2) := by decide +kernel
theorem d3_52 : decode method_4_code 52 = .ok (.dup, 1) := by decide +kernel
theorem d3_53 : decode method_4_code 53 = .ok (.iconst 0, 1) := by decide +kernel
theorem d3_54 : decode method_4_code 54 = .ok (.aload_n 0, 1) := by decide +kernel
theorem d3_55 : decode method_4_code 55 = .ok (.iconst 0, 1) := by decide +kernel
theorem d3_56 : decode method_4_code 56 = .ok (.iaload, 1) := by decide +kernel
theorem d3_57 : decode method_4_code 57 = .ok (.iastore, 1) := by decide +kernel
theorem d3_58 : decode method_4_code 58 = .ok (.dup, 1) := by decide +kernel
theorem d3_59 : decode method_4_code 59 = .ok (.iconst 1, 1) := by decide +kernel
theorem d3_60 : decode method_4_code 60 = .ok (.aload_n 0, 1) := by decide +kernel
theorem d3_61 : decode method_4_code 61 = .ok (.iconst 1, 1) := by decide +kernel
theorem d3_62 : decode method_4_code 62 = .ok (.iaload, 1) := by decide +kernel
theorem d3_63 : decode method_4_code 63 = .ok (.iastore, 1) := by decide +kernel
theorem d3_64 : decode method_4_code 64 = .ok (.dup, 1) := by decide +kernel
theorem d3_65 : decode method_4_code 65 = .ok (.iconst 2, 1) := by decide +kernel
theorem d3_66 : decode method_4_code 66 = .ok (.aload_n 0, 1) := by decide +kernel
theorem d3_67 : decode method_4_code 67 = .ok (.iconst 2, 1) := by decide +kernel
theorem d3_68 : decode method_4_code 68 = .ok (.iaload, 1) := by decide +kernel
theorem d3_69 : decode method_4_code 69 = .ok (.iastore, 1) := by decide +kernel
theorem d3_70 : decode method_4_code 70 = .ok (.areturn, 1) := by decide +kernel
theorem d3_71 : decode method_4_code 71 = .ok (.iload_n 1, 1) := by decide +kernel
theorem d3_72 : decode method_4_code 72 = .ok (.iconst 4, 1) := by decide +kernel
theorem d3_73 : decode method_4_code 73 = .ok (.if_icmp .ne 31, 3) := by decide +kernel
theorem d3_76 : decode method_4_code 76 = .ok (.iconst 4, 1) := by decide +kernel
theorem d3_77 : decode method_4_code 77 = .ok (.newarray .int, 2) := by decide +kernel
theorem d3_79 : decode method_4_code 79 = .ok (.dup, 1) := by decide +kernel
theorem d3_80 : decode method_4_code 80 = .ok (.iconst 0, 1) := by decide +kernel
theorem d3_81 : decode method_4_code 81 = .ok (.aload_n 0, 1) := by decide +kernel
theorem d3_82 : decode method_4_code 82 = .ok (.iconst 0, 1) := by decide +kernel
theorem d3_83 : decode method_4_code 83 = .ok (.iaload, 1) := by decide +kernel
theorem d3_84 : decode method_4_code 84 = .ok (.iastore, 1) := by decide +kernel
theorem d3_85 : decode method_4_code 85 = .ok (.dup, 1) := by decide +kernel
theorem d3_86 : decode method_4_code 86 = .ok (.iconst 1, 1) := by decide +kernel
theorem d3_87 : decode method_4_code 87 = .ok (.aload_n 0, 1) := by decide +kernel
theorem d3_88 : decode method_4_code 88 = .ok (.iconst 1, 1) := by decide +kernel
theorem d3_89 : decode method_4_code 89 = .ok (.iaload, 1) := by decide +kernel
theorem d3_90 : decode method_4_code 90 = .ok (.iastore, 1) := by decide +kernel
theorem d3_91 : decode method_4_code 91 = .ok (.dup, 1) := by decide +kernel
theorem d3_92 : decode method_4_code 92 = .ok (.iconst 2, 1) := by decide +kernel
theorem d3_93 : decode method_4_code 93 = .ok (.aload_n 0, 1) := by decide +kernel
theorem d3_94 : decode method_4_code 94 = .ok (.iconst 2, 1) := by decide +kernel
theorem d3_95 : decode method_4_code 95 = .ok (.iaload, 1) := by decide +kernel
theorem d3_96 : decode method_4_code 96 = .ok (.iastore, 1) := by decide +kernel
theorem d3_97 : decode method_4_code 97 = .ok (.dup, 1) := by decide +kernel
theorem d3_98 : decode method_4_code 98 = .ok (.iconst 3, 1) := by decide +kernel
theorem d3_99 : decode method_4_code 99 = .ok (.aload_n 0, 1) := by decide +kernel
theorem d3_100 : decode method_4_code 100 = .ok (.iconst 3, 1) := by decide +kernel
theorem d3_101 : decode method_4_code 101 = .ok (.iaload, 1) := by decide +kernel
theorem d3_102 : decode method_4_code 102 = .ok (.iastore, 1) := by decide +kernel
theorem d3_103 : decode method_4_code 103 = .ok (.areturn, 1) := by decide +kernel
theorem d3_104 : decode method_4_code 104 = .ok (.iload_n 1, 1) := by decide +kernel
theorem d3_105 : decode method_4_code 105 = .ok (.iconst 5, 1) := by decide +kernel
theorem d3_106 : decode method_4_code 106 = .ok (.if_icmp .ne 37, 3) := by decide +kernel
theorem d3_109 : decode method_4_code 109 = .ok (.iconst 5, 1) := by decide +kernel
theorem d3_110 : decode method_4_code 110 = .ok (.newarray .int, 2) := by decide +kernel
theorem d3_112 : decode method_4_code 112 = .ok (.dup, 1) := by decide +kernel
theorem d3_113 : decode method_4_code 113 = .ok (.iconst 0, 1) := by decide +kernel
theorem d3_114 : decode method_4_code 114 = .ok (.aload_n 0, 1) := by decide +kernel
theorem d3_115 : decode method_4_code 115 = .ok (.iconst 0, 1) := by decide +kernel
theorem d3_116 : decode method_4_code 116 = .ok (.iaload, 1) := by decide +kernel
theorem d3_117 : decode method_4_code 117 = .ok (.iastore, 1) := by decide +kernel
theorem d3_118 : decode method_4_code 118 = .ok (.dup, 1) := by decide +kernel
theorem d3_119 : decode method_4_code 119 = .ok (.iconst 1, 1) := by decide +kernel
theorem d3_120 : decode method_4_code 120 = .ok (.aload_n 0, 1) := by decide +kernel
theorem d3_121 : decode method_4_code 121 = .ok (.iconst 1, 1) := by decide +kernel
theorem d3_122 : decode method_4_code 122 = .ok (.iaload, 1) := by decide +kernel
theorem d3_123 : decode method_4_code 123 = .ok (.iastore, 1) := by decide +kernel
theorem d3_124 : decode method_4_code 124 = .ok (.dup, 1) := by decide +kernel
theorem d3_125 : decode method_4_code 125 = .ok (.iconst 2, 1) := by decide +kernel
theorem d3_126 : decode method_4_code 126 = .ok (.aload_n 0, 1) := by decide +kernel
theorem d3_127 : decode method_4_code 127 = .ok (.iconst 2, 1) := by decide +kernel
theorem d3_128 : decode method_4_code 128 = .ok (.iaload, 1) := by decide +kernel
theorem d3_129 : decode method_4_code 129 = .ok (.iastore, 1) := by decide +kernel
theorem d3_130 : decode method_4_code 130 = .ok (.dup, 1) := by decide +kernel
theorem d3_131 : decode method_4_code 131 = .ok (.iconst 3, 1) := by decide +kernel
theorem d3_132 : decode method_4_code 132 = .ok (.aload_n 0, 1) := by decide +kernel
theorem d3_133 : decode method_4_code 133 = .ok (.iconst 3, 1) := by decide +kernel
theorem d3_134 : decode method_4_code 134 = .ok (.iaload, 1) := by decide +kernel
theorem d3_135 : decode method_4_code 135 = .ok (.iastore, 1) := by decide +kernel
theorem d3_136 : decode method_4_code 136 = .ok (.dup, 1) := by decide +kernel
theorem d3_137 : decode method_4_code 137 = .ok (.iconst 4, 1) := by decide +kernel
theorem d3_138 : decode method_4_code 138 = .ok (.aload_n 0, 1) := by decide +kernel
theorem d3_139 : decode method_4_code 139 = .ok (.iconst 4, 1) := by decide +kernel
theorem d3_140 : decode method_4_code 140 = .ok (.iaload, 1) := by decide +kernel
theorem d3_141 : decode method_4_code 141 = .ok (.iastore, 1) := by decide +kernel
theorem d3_142 : decode method_4_code 142 = .ok (.areturn, 1) := by decide +kernel
theorem d3_143 : decode method_4_code 143 = .ok (.bipush 6, 2) := by decide +kernel
theorem d3_145 : decode method_4_code 145 = .ok (.newarray .int, 2) := by decide +kernel
theorem d3_147 : decode method_4_code 147 = .ok (.dup, 1) := by decide +kernel
theorem d3_148 : decode method_4_code 148 = .ok (.iconst 0, 1) := by decide +kernel
theorem d3_149 : decode method_4_code 149 = .ok (.aload_n 0, 1) := by decide +kernel
theorem d3_150 : decode method_4_code 150 = .ok (.iconst 0, 1) := by decide +kernel
theorem d3_151 : decode method_4_code 151 = .ok (.iaload, 1) := by decide +kernel
theorem d3_152 : decode method_4_code 152 = .ok (.iastore, 1) := by decide +kernel
theorem d3_153 : decode method_4_code 153 = .ok (.dup, 1) := by decide +kernel
theorem d3_154 : decode method_4_code 154 = .ok (.iconst 1, 1) := by decide +kernel
theorem d3_155 : decode method_4_code 155 = .ok (.aload_n 0, 1) := by decide +kernel
theorem d3_156 : decode method_4_code 156 = .ok (.iconst 1, 1) := by decide +kernel
theorem d3_157 : decode method_4_code 157 = .ok (.iaload, 1) := by decide +kernel
theorem d3_158 : decode method_4_code 158 = .ok (.iastore, 1) := by decide +kernel
theorem d3_159 : decode method_4_code 159 = .ok (.dup, 1) := by decide +kernel
theorem d3_160 : decode method_4_code 160 = .ok (.iconst 2, 1) := by decide +kernel
theorem d3_161 : decode method_4_code 161 = .ok (.aload_n 0, 1) := by decide +kernel
theorem d3_162 : decode method_4_code 162 = .ok (.iconst 2, 1) := by decide +kernel
theorem d3_163 : decode method_4_code 163 = .ok (.iaload, 1) := by decide +kernel
theorem d3_164 : decode method_4_code 164 = .ok (.iastore, 1) := by decide +kernel
theorem d3_165 : decode method_4_code 165 = .ok (.dup, 1) := by decide +kernel
theorem d3_166 : decode method_4_code 166 = .ok (.iconst 3, 1) := by decide +kernel
theorem d3_167 : decode method_4_code 167 = .ok (.aload_n 0, 1) := by decide +kernel
theorem d3_168 : decode method_4_code 168 = .ok (.iconst 3, 1) := by decide +kernel
theorem d3_169 : decode method_4_code 169 = .ok (.iaload, 1) := by decide +kernel
theorem d3_170 : decode method_4_code 170 = .ok (.iastore, 1) := by decide +kernel
theorem d3_171 : decode method_4_code 171 = .ok (.dup, 1) := by decide +kernel
theorem d3_172 : decode method_4_code 172 = .ok (.iconst 4, 1) := by decide +kernel
theorem d3_173 : decode method_4_code 173 = .ok (.aload_n 0, 1) := by decide +kernel
theorem d3_174 : decode method_4_code 174 = .ok (.iconst 4, 1) := by decide +kernel
theorem d3_175 : decode method_4_code 175 = .ok (.iaload, 1) := by decide +kernel
theorem d3_176 : decode method_4_code 176 = .ok (.iastore, 1) := by decide +kernel
theorem d3_177 : decode method_4_code 177 = .ok (.dup, 1) := by decide +kernel
theorem d3_178 : decode method_4_code 178 = .ok (.iconst 5, 1) := by decide +kernel
theorem d3_179 : decode method_4_code 179 = .ok (.aload_n 0, 1) := by decide +kernel
theorem d3_180 : decode method_4_code 180 = .ok (.iconst 5, 1) := by decide +kernel
theorem d3_181 : decode method_4_code 181 = .ok (.iaload, 1) := by decide +kernel
theorem d3_182 : decode method_4_code 182 = .ok (.iastore, 1) := by decide +kernel
theorem d3_183 : decode method_4_code 183 = .ok (.areturn, 1) := by decide +kernel
theorem d4_0 : decode prog_42_method_2_code 0 = .ok (.aload_n 0, 1) := by decide +kernel
theorem d4_1 : decode prog_42_method_2_code 1 = .ok (.invokespecial 10, 3) := by decide +kernel
theorem d4_4 : decode prog_42_method_2_code 4 = .ok (.aload_n 0, 1) := by decide +kernel
theorem d4_5 : decode prog_42_method_2_code 5 = .ok (.iconst 0, 1) := by decide +kernel
theorem d4_6 : decode prog_42_method_2_code 6 = .ok (.newarray .int, 2) := by decide +kernel
theorem d4_8 : decode prog_42_method_2_code 8 = .ok (.putfield 15, 3) := by decide +kernel
theorem d4_11 : decode prog_42_method_2_code 11 = .ok (.aload_n 0, 1) := by decide +kernel
theorem d4_12 : decode prog_42_method_2_code 12 = .ok (.iconst 0, 1) := by decide +kernel
theorem d4_13 : decode prog_42_method_2_code 13 = .ok (.newarray .int, 2) := by decide +kernel
theorem d4_15 : decode prog_42_method_2_code 15 = .ok (.putfield 19, 3) := by decide +kernel
theorem d4_18 : decode prog_42_method_2_code 18 = .ok (.aload_n 0, 1) := by decide +kernel
theorem d4_19 : decode prog_42_method_2_code 19 = .ok (.iload_n 1, 1) := by decide +kernel
theorem d4_20 : decode prog_42_method_2_code 20 = .ok (.putfield 22, 3) := by decide +kernel
theorem d4_23 : decode prog_42_method_2_code 23 = .ok (.return_, 1) := by decide +kernel
theorem d6_0 : decode prog_42_method_13_code 0 = .ok (.iload 4, 2) := by decide +kernel
theorem d6_2 : decode prog_42_method_13_code 2 = .ok (.iload_n 3, 1) := by decide +kernel
theorem d6_3 : decode prog_42_method_13_code 3 = .ok (.isub, 1) := by decide +kernel
theorem d6_4 : decode prog_42_method_13_code 4 = .ok (.iconst 1, 1) := by decide +kernel
theorem d6_5 : decode prog_42_method_13_code 5 = .ok (.if_icmp .ne 12, 3) := by decide +kernel
theorem d6_8 : decode prog_42_method_13_code 8 = .ok (.aload_n 0, 1) := by decide +kernel
theorem d6_9 : decode prog_42_method_13_code 9 = .ok (.iload_n 1, 1) := by decide +kernel
theorem d6_10 : decode prog_42_method_13_code 10 = .ok (.aload_n 2, 1) := by decide +kernel
theorem d6_11 : decode prog_42_method_13_code 11 = .ok (.iload_n 3, 1) := by decide +kernel
theorem d6_12 : decode prog_42_method_13_code 12 = .ok (.iaload, 1) := by decide +kernel
theorem d6_13 : decode prog_42_method_13_code 13 = .ok (.invokevirtual 62, 3) := by decide +kernel
theorem d6_16 : decode prog_42_method_13_code 16 = .ok (.return_, 1) := by decide +kernel
theorem d6_17 : decode prog_42_method_13_code 17 = .ok (.iload 4, 2) := by decide +kernel
theorem d6_19 : decode prog_42_method_13_code 19 = .ok (.iload_n 3, 1) := by decide +kernel
theorem d6_20 : decode prog_42_method_13_code 20 = .ok (.isub, 1) := by decide +kernel
theorem d6_21 : decode prog_42_method_13_code 21 = .ok (.istore 5, 2) := by decide +kernel
theorem d6_23 : decode prog_42_method_13_code 23 = .ok (.aload_n 0, 1) := by decide +kernel
theorem d6_24 : decode prog_42_method_13_code 24 = .ok (.iload_n 1, 1) := by decide +kernel
theorem d6_25 : decode prog_42_method_13_code 25 = .ok (.iload 5, 2) := by decide +kernel
theorem d6_27 : decode prog_42_method_13_code 27 = .ok (.invokevirtual 66, 3) := by decide +kernel
theorem d6_30 : decode prog_42_method_13_code 30 = .ok (.istore 6, 2) := by decide +kernel
theorem d6_32 : decode prog_42_method_13_code 32 = .ok (.aload_n 2, 1) := by decide +kernel
theorem d6_33 : decode prog_42_method_13_code 33 = .ok (.iload_n 3, 1) := by decide +kernel
theorem d6_34 : decode prog_42_method_13_code 34 = .ok (.aload_n 0, 1) := by decide +kernel
theorem d6_35 : decode prog_42_method_13_code 35 = .ok (.getfield 19, 3) := by decide +kernel
theorem d6_38 : decode prog_42_method_13_code 38 = .ok (.iload 6, 2) := by decide +kernel
theorem d6_40 : decode prog_42_method_13_code 40 = .ok (.iconst 1, 1) := by decide +kernel
theorem d6_41 : decode prog_42_method_13_code 41 = .ok (.iadd, 1) := by decide +kernel
theorem d6_42 : decode prog_42_method_13_code 42 = .ok (.iload 5, 2) := by decide +kernel
theorem d6_44 : decode prog_42_method_13_code 44 = .ok (.invokestatic 70, 3) := by decide +kernel
theorem d6_47 : decode prog_42_method_13_code 47 = .ok (.aload_n 0, 1) := by decide +kernel
theorem d6_48 : decode prog_42_method_13_code 48 = .ok (.invokevirtual 76, 3) := by decide +kernel
theorem d6_51 : decode prog_42_method_13_code 51 = .ok (.return_, 1) := by decide +kernel
theorem d7_0 : decode prog_42_method_17_code 0 = .ok (.aload_n 0, 1) := by decide +kernel
theorem d7_1 : decode prog_42_method_17_code 1 = .ok (.iload_n 1, 1) := by decide +kernel
theorem d7_2 : decode prog_42_method_17_code 2 = .ok (.invokevirtual 100, 3) := by decide +kernel
theorem d7_5 : decode prog_42_method_17_code 5 = .ok (.aload_n 0, 1) := by decide +kernel
theorem d7_6 : decode prog_42_method_17_code 6 = .ok (.iload_n 1, 1) := by decide +kernel
theorem d7_7 : decode prog_42_method_17_code 7 = .ok (.invokevirtual 97, 3) := by decide +kernel
theorem d7_10 : decode prog_42_method_17_code 10 = .ok (.aload_n 0, 1) := by decide +kernel
theorem d7_11 : decode prog_42_method_17_code 11 = .ok (.getfield 15, 3) := by decide +kernel
theorem d7_14 : decode prog_42_method_17_code 14 = .ok (.iload_n 1, 1) := by decide +kernel
theorem d7_15 : decode prog_42_method_17_code 15 = .ok (.bipush (-2), 2) := by decide +kernel
theorem d7_17 : decode prog_42_method_17_code 17 = .ok (.iload_n 2, 1) := by decide +kernel
theorem d7_18 : decode prog_42_method_17_code 18 = .ok (.isub, 1) := by decide +kernel
theorem d7_19 : decode prog_42_method_17_code 19 = .ok (.iastore, 1) := by decide +kernel
theorem d7_20 : decode prog_42_method_17_code 20 = .ok (.aload_n 0, 1) := by decide +kernel
theorem d7_21 : decode prog_42_method_17_code 21 = .ok (.invokevirtual 76, 3) := by decide +kernel
theorem d7_24 : decode prog_42_method_17_code 24 = .ok (.return_, 1) := by decide +kernel
theorem d8_0 : decode prog_42_method_20_code 0 = .ok (.iload_n 1, 1) := by decide +kernel
theorem d8_1 : decode prog_42_method_20_code 1 = .ok (.aload_n 0, 1) := by decide +kernel
theorem d8_2 : decode prog_42_method_20_code 2 = .ok (.getfield 15, 3) := by decide +kernel
theorem d8_5 : decode prog_42_method_20_code 5 = .ok (.arraylength, 1) := by decide +kernel
theorem d8_6 : decode prog_42_method_20_code 6 = .ok (.if_icmp .lt 19, 3) := by decide +kernel
theorem d8_9 : decode prog_42_method_20_code 9 = .ok (.aload_n 0, 1) := by decide +kernel
theorem d8_10 : decode prog_42_method_20_code 10 = .ok (.aload_n 0, 1) := by decide +kernel
theorem d8_11 : decode prog_42_method_20_code 11 = .ok (.getfield 15, 3) := by decide +kernel
theorem d8_14 : decode prog_42_method_20_code 14 = .ok (.arraylength, 1) := by decide +kernel
theorem d8_15 : decode prog_42_method_20_code 15 = .ok (.iload_n 1, 1) := by decide +kernel
theorem d8_16 : decode prog_42_method_20_code 16 = .ok (.i2l, 1) := by decide +kernel
theorem d8_17 : decode prog_42_method_20_code 17 = .ok (.lconst 1, 1) := by decide +kernel
theorem d8_18 : decode prog_42_method_20_code 18 = .ok (.ladd, 1) := by decide +kernel
theorem d8_19 : decode prog_42_method_20_code 19 = .ok (.invokestatic 103, 3) := by decide +kernel
theorem d8_22 : decode prog_42_method_20_code 22 = .ok (.invokevirtual 107, 3) := by decide +kernel
theorem d8_25 : decode prog_42_method_20_code 25 = .ok (.aload_n 0, 1) := by decide +kernel
theorem d8_26 : decode prog_42_method_20_code 26 = .ok (.aload_n 0, 1) := by decide +kernel
theorem d8_27 : decode prog_42_method_20_code 27 = .ok (.getfield 26, 3) := by decide +kernel
theorem d8_30 : decode prog_42_method_20_code 30 = .ok (.iload_n 1, 1) := by decide +kernel
theorem d8_31 : decode prog_42_method_20_code 31 = .ok (.iconst 1, 1) := by decide +kernel
theorem d8_32 : decode prog_42_method_20_code 32 = .ok (.iadd, 1) := by decide +kernel
theorem d8_33 : decode prog_42_method_20_code 33 = .ok (.invokestatic 110, 3) := by decide +kernel
theorem d8_36 : decode prog_42_method_20_code 36 = .ok (.putfield 26, 3) := by decide +kernel
theorem d8_39 : decode prog_42_method_20_code 39 = .ok (.return_, 1) := by decide +kernel
theorem d9_0 : decode prog_62_method_5_code 0 = .ok (.iload_n 0, 1) := by decide +kernel
theorem d9_1 : decode prog_62_method_5_code 1 = .ok (.lload_n 1, 1) := by decide +kernel
theorem d9_2 : decode prog_62_method_5_code 2 = .ok (.ldc 42, 2) := by decide +kernel
theorem d9_4 : decode prog_62_method_5_code 4 = .ok (.invokestatic 43, 3) := by decide +kernel
theorem d9_7 : decode prog_62_method_5_code 7 = .ok (.ireturn, 1) := by decide +kernel
theorem d10_0 : decode prog_62_method_4_code 0 = .ok (.lload_n 1, 1) := by decide +kernel
theorem d10_1 : decode prog_62_method_4_code 1 = .ok (.iload_n 3, 1) := by decide +kernel
theorem d10_2 : decode prog_62_method_4_code 2 = .ok (.i2l, 1) := by decide +kernel
theorem d10_3 : decode prog_62_method_4_code 3 = .ok (.invokestatic 26, 3) := by decide +kernel
theorem d10_6 : decode prog_62_method_4_code 6 = .ok (.lload_n 1, 1) := by decide +kernel
theorem d10_7 : decode prog_62_method_4_code 7 = .ok (.bipush 16, 2) := by decide +kernel
theorem d10_9 : decode prog_62_method_4_code 9 = .ok (.iload_n 0, 1) := by decide +kernel
theorem d10_10 : decode prog_62_method_4_code 10 = .ok (.iload_n 0, 1) := by decide +kernel
theorem d10_11 : decode prog_62_method_4_code 11 = .ok (.iconst 1, 1) := by decide +kernel
theorem d10_12 : decode prog_62_method_4_code 12 = .ok (.ishr, 1) := by decide +kernel
theorem d10_13 : decode prog_62_method_4_code 13 = .ok (.iadd, 1) := by decide +kernel
theorem d10_14 : decode prog_62_method_4_code 14 = .ok (.invokestatic 30, 3) := by decide +kernel
theorem d10_17 : decode prog_62_method_4_code 17 = .ok (.i2l, 1) := by decide +kernel
theorem d10_18 : decode prog_62_method_4_code 18 = .ok (.invokestatic 36, 3) := by decide +kernel
theorem d10_21 : decode prog_62_method_4_code 21 = .ok (.lstore 4, 2) := by decide +kernel
theorem d10_23 : decode prog_62_method_4_code 23 = .ok (.lload 4, 2) := by decide +kernel
theorem d10_25 : decode prog_62_method_4_code 25 = .ok (.iload_n 3, 1) := by decide +kernel
theorem d10_26 : decode prog_62_method_4_code 26 = .ok (.i2l, 1) := by decide +kernel
theorem d10_27 : decode prog_62_method_4_code 27 = .ok (.invokestatic 39, 3) := by decide +kernel
theorem d10_30 : decode prog_62_method_4_code 30 = .ok (.l2i, 1) := by decide +kernel
theorem d10_31 : decode prog_62_method_4_code 31 = .ok (.ireturn, 1) := by decide +kernel
theorem d11_0 : decode prog_62_method_3_code 0 = .ok (.lload_n 0, 1) := by decide +kernel
theorem d11_1 : decode prog_62_method_3_code 1 = .ok (.lload_n 2, 1) := by decide +kernel
theorem d11_2 : decode prog_62_method_3_code 2 = .ok (.ldc 18, 2) := by decide +kernel
theorem d11_4 : decode prog_62_method_3_code 4 = .ok (.invokestatic 20, 3) := by decide +kernel
theorem d11_7 : decode prog_62_method_3_code 7 = .ok (.return_, 1) := by decide +kernel
theorem d12_0 : decode prog_62_method_2_code 0 = .ok (.lload_n 0, 1) := by decide +kernel
theorem d12_1 : decode prog_62_method_2_code 1 = .ok (.lload_n 2, 1) := by decide +kernel
theorem d12_2 : decode prog_62_method_2_code 2 = .ok (.lcmp, 1) := by decide +kernel
theorem d12_3 : decode prog_62_method_2_code 3 = .ok (.ifCond .le 19, 3) := by decide +kernel
theorem d12_22 : decode prog_62_method_2_code 22 = .ok (.return_, 1) := by decide +kernel
theorem d13_0 : decode jdk_29_method_65_code 0 = .ok (.iload_n 0, 1) := by decide +kernel
theorem d13_1 : decode jdk_29_method_65_code 1 = .ok (.iload_n 1, 1) := by decide +kernel
theorem d13_2 : decode jdk_29_method_65_code 2 = .ok (.if_icmp .lt 7, 3) := by decide +kernel
theorem d13_5 : decode jdk_29_method_65_code 5 = .ok (.iload_n 0, 1) := by decide +kernel
theorem d13_6 : decode jdk_29_method_65_code 6 = .ok (.goto 4, 3) := by decide +kernel
theorem d13_9 : decode jdk_29_method_65_code 9 = .ok (.iload_n 1, 1) := by decide +kernel
theorem d13_10 : decode jdk_29_method_65_code 10 = .ok (.ireturn, 1) := by decide +kernel
theorem d14_0 : decode jdk_29_method_66_code 0 = .ok (.lload_n 0, 1) := by decide +kernel
theorem d14_1 : decode jdk_29_method_66_code 1 = .ok (.lload_n 2, 1) := by decide +kernel
theorem d14_2 : decode jdk_29_method_66_code 2 = .ok (.lcmp, 1) := by decide +kernel
theorem d14_3 : decode jdk_29_method_66_code 3 = .ok (.ifCond .lt 7, 3) := by decide +kernel
theorem d14_6 : decode jdk_29_method_66_code 6 = .ok (.lload_n 0, 1) := by decide +kernel
theorem d14_7 : decode jdk_29_method_66_code 7 = .ok (.goto 4, 3) := by decide +kernel
theorem d14_10 : decode jdk_29_method_66_code 10 = .ok (.lload_n 2, 1) := by decide +kernel
theorem d14_11 : decode jdk_29_method_66_code 11 = .ok (.lreturn, 1) := by decide +kernel
theorem d15_0 : decode jdk_29_method_70_code 0 = .ok (.lload_n 0, 1) := by decide +kernel
theorem d15_1 : decode jdk_29_method_70_code 1 = .ok (.lload_n 2, 1) := by decide +kernel
theorem d15_2 : decode jdk_29_method_70_code 2 = .ok (.lcmp, 1) := by decide +kernel
theorem d15_3 : decode jdk_29_method_70_code 3 = .ok (.ifCond .gt 7, 3) := by decide +kernel
theorem d15_6 : decode jdk_29_method_70_code 6 = .ok (.lload_n 0, 1) := by decide +kernel
theorem d15_7 : decode jdk_29_method_70_code 7 = .ok (.goto 4, 3) := by decide +kernel
theorem d15_10 : decode jdk_29_method_70_code 10 = .ok (.lload_n 2, 1) := by decide +kernel
theorem d15_11 : decode jdk_29_method_70_code 11 = .ok (.lreturn, 1) := by decide +kernel
theorem d16_0 : decode prog_42_method_23_code 0 = .ok (.aload_n 0, 1) := by decide +kernel
theorem d16_1 : decode prog_42_method_23_code 1 = .ok (.getfield 15, 3) := by decide +kernel
theorem d16_4 : decode prog_42_method_23_code 4 = .ok (.iload_n 1, 1) := by decide +kernel
theorem d16_5 : decode prog_42_method_23_code 5 = .ok (.invokestatic 128, 3) := by decide +kernel
theorem d16_8 : decode prog_42_method_23_code 8 = .ok (.astore_n 2, 1) := by decide +kernel
theorem d16_9 : decode prog_42_method_23_code 9 = .ok (.aload_n 2, 1) := by decide +kernel
theorem d16_10 : decode prog_42_method_23_code 10 = .ok (.aload_n 0, 1) := by decide +kernel
theorem d16_11 : decode prog_42_method_23_code 11 = .ok (.getfield 15, 3) := by decide +kernel
theorem d16_14 : decode prog_42_method_23_code 14 = .ok (.arraylength, 1) := by decide +kernel
theorem d16_15 : decode prog_42_method_23_code 15 = .ok (.aload_n 2, 1) := by decide +kernel
theorem d16_16 : decode prog_42_method_23_code 16 = .ok (.arraylength, 1) := by decide +kernel
theorem d16_17 : decode prog_42_method_23_code 17 = .ok (.iconst (-1), 1) := by decide +kernel
theorem d16_18 : decode prog_42_method_23_code 18 = .ok (.invokestatic 132, 3) := by decide +kernel
theorem d16_21 : decode prog_42_method_23_code 21 = .ok (.aload_n 0, 1) := by decide +kernel
theorem d16_22 : decode prog_42_method_23_code 22 = .ok (.aload_n 2, 1) := by decide +kernel
theorem d16_23 : decode prog_42_method_23_code 23 = .ok (.putfield 15, 3) := by decide +kernel
theorem d16_26 : decode prog_42_method_23_code 26 = .ok (.return_, 1) := by decide +kernel
theorem d17_0 : decode jdk_65_method_123_code 0 = .ok (.iload_n 1, 1) := by decide +kernel
theorem d17_1 : decode jdk_65_method_123_code 1 = .ok (.aload_n 0, 1) := by decide +kernel
theorem d17_2 : decode jdk_65_method_123_code 2 = .ok (.arraylength, 1) := by decide +kernel
theorem d17_3 : decode jdk_65_method_123_code 3 = .ok (.if_icmp .ne 11, 3) := by decide +kernel
theorem d17_14 : decode jdk_65_method_123_code 14 = .ok (.iload_n 1, 1) := by decide +kernel
theorem d17_15 : decode jdk_65_method_123_code 15 = .ok (.newarray .int, 2) := by decide +kernel
theorem d17_17 : decode jdk_65_method_123_code 17 = .ok (.astore_n 2, 1) := by decide +kernel
theorem d17_18 : decode jdk_65_method_123_code 18 = .ok (.aload_n 0, 1) := by decide +kernel
theorem d17_19 : decode jdk_65_method_123_code 19 = .ok (.iconst 0, 1) := by decide +kernel
theorem d17_20 : decode jdk_65_method_123_code 20 = .ok (.aload_n 2, 1) := by decide +kernel
theorem d17_21 : decode jdk_65_method_123_code 21 = .ok (.iconst 0, 1) := by decide +kernel
theorem d17_22 : decode jdk_65_method_123_code 22 = .ok (.aload_n 0, 1) := by decide +kernel
theorem d17_23 : decode jdk_65_method_123_code 23 = .ok (.arraylength, 1) := by decide +kernel
theorem d17_24 : decode jdk_65_method_123_code 24 = .ok (.iload_n 1, 1) := by decide +kernel
theorem d17_25 : decode jdk_65_method_123_code 25 = .ok (.invokestatic 304, 3) := by decide +kernel
theorem d17_28 : decode jdk_65_method_123_code 28 = .ok (.invokestatic 150, 3) := by decide +kernel
theorem d17_31 : decode jdk_65_method_123_code 31 = .ok (.aload_n 2, 1) := by decide +kernel
theorem d17_32 : decode jdk_65_method_123_code 32 = .ok (.areturn, 1) := by decide +kernel
theorem d18_0 : decode jdk_65_method_104_code 0 = .ok (.aload_n 0, 1) := by decide +kernel
theorem d18_1 : decode jdk_65_method_104_code 1 = .ok (.arraylength, 1) := by decide +kernel
theorem d18_2 : decode jdk_65_method_104_code 2 = .ok (.iload_n 1, 1) := by decide +kernel
theorem d18_3 : decode jdk_65_method_104_code 3 = .ok (.iload_n 2, 1) := by decide +kernel
theorem d18_4 : decode jdk_65_method_104_code 4 = .ok (.invokestatic 13, 3) := by decide +kernel
theorem d18_7 : decode jdk_65_method_104_code 7 = .ok (.iload_n 1, 1) := by decide +kernel
theorem d18_8 : decode jdk_65_method_104_code 8 = .ok (.istore 4, 2) := by decide +kernel
theorem d18_10 : decode jdk_65_method_104_code 10 = .ok (.iload 4, 2) := by decide +kernel
theorem d18_12 : decode jdk_65_method_104_code 12 = .ok (.iload_n 2, 1) := by decide +kernel
theorem d18_13 : decode jdk_65_method_104_code 13 = .ok (.if_icmp .ge 14, 3) := by decide +kernel
theorem d18_16 : decode jdk_65_method_104_code 16 = .ok (.aload_n 0, 1) := by decide +kernel
theorem d18_17 : decode jdk_65_method_104_code 17 = .ok (.iload 4, 2) := by decide +kernel
theorem d18_19 : decode jdk_65_method_104_code 19 = .ok (.iload_n 3, 1) := by decide +kernel
theorem d18_20 : decode jdk_65_method_104_code 20 = .ok (.iastore, 1) := by decide +kernel
theorem d18_21 : decode jdk_65_method_104_code 21 = .ok (.iinc 4 1, 3) := by decide +kernel
theorem d18_24 : decode jdk_65_method_104_code 24 = .ok (.goto (-14), 3) := by decide +kernel
theorem d18_27 : decode jdk_65_method_104_code 27 = .ok (.return_, 1) := by decide +kernel
theorem d19_0 : decode jdk_65_method_30_code 0 = .ok (.iload_n 1, 1) := by decide +kernel
theorem d19_1 : decode jdk_65_method_30_code 1 = .ok (.iload_n 2, 1) := by decide +kernel
theorem d19_2 : decode jdk_65_method_30_code 2 = .ok (.if_icmp .le 44, 3) := by decide +kernel
theorem d19_46 : decode jdk_65_method_30_code 46 = .ok (.iload_n 1, 1) := by decide +kernel
theorem d19_47 : decode jdk_65_method_30_code 47 = .ok (.ifCond .ge 12, 3) := by decide +kernel
theorem d19_59 : decode jdk_65_method_30_code 59 = .ok (.iload_n 2, 1) := by decide +kernel
theorem d19_60 : decode jdk_65_method_30_code 60 = .ok (.iload_n 0, 1) := by decide +kernel
theorem d19_61 : decode jdk_65_method_30_code 61 = .ok (.if_icmp .le 12, 3) := by decide +kernel
theorem d19_73 : decode jdk_65_method_30_code 73 = .ok (.return_, 1) := by decide +kernel
theorem d20_0 : decode prog_42_method_19_code 0 = .ok (.aload_n 0, 1) := by decide +kernel
theorem d20_1 : decode prog_42_method_19_code 1 = .ok (.getfield 15, 3) := by decide +kernel
theorem d20_4 : decode prog_42_method_19_code 4 = .ok (.iload_n 1, 1) := by decide +kernel
theorem d20_5 : decode prog_42_method_19_code 5 = .ok (.iaload, 1) := by decide +kernel
theorem d20_6 : decode prog_42_method_19_code 6 = .ok (.istore_n 2, 1) := by decide +kernel
theorem d20_7 : decode prog_42_method_19_code 7 = .ok (.iload_n 2, 1) := by decide +kernel
theorem d20_8 : decode prog_42_method_19_code 8 = .ok (.ifCond .lt 20, 3) := by decide +kernel
theorem d20_28 : decode prog_42_method_19_code 28 = .ok (.return_, 1) := by decide +kernel
theorem d21_0 : decode prog_42_method_25_code 0 = .ok (.aload_n 0, 1) := by decide +kernel
theorem d21_1 : decode prog_42_method_25_code 1 = .ok (.getfield 94, 3) := by decide +kernel
theorem d21_4 : decode prog_42_method_25_code 4 = .ok (.aload_n 0, 1) := by decide +kernel
theorem d21_5 : decode prog_42_method_25_code 5 = .ok (.getfield 55, 3) := by decide +kernel
theorem d21_8 : decode prog_42_method_25_code 8 = .ok (.iconst 2, 1) := by decide +kernel
theorem d21_9 : decode prog_42_method_25_code 9 = .ok (.idiv, 1) := by decide +kernel
theorem d21_10 : decode prog_42_method_25_code 10 = .ok (.if_icmp .le 7, 3) := by decide +kernel
theorem d21_17 : decode prog_42_method_25_code 17 = .ok (.return_, 1) := by decide +kernel
theorem d22_0 : decode prog_42_method_7_code 0 = .ok (.aload_n 0, 1) := by decide +kernel
theorem d22_1 : decode prog_42_method_7_code 1 = .ok (.getfield 15, 3) := by decide +kernel
theorem d22_4 : decode prog_42_method_7_code 4 = .ok (.iload_n 1, 1) := by decide +kernel
theorem d22_5 : decode prog_42_method_7_code 5 = .ok (.iaload, 1) := by decide +kernel
theorem d22_6 : decode prog_42_method_7_code 6 = .ok (.istore_n 3, 1) := by decide +kernel
theorem d22_7 : decode prog_42_method_7_code 7 = .ok (.iload_n 3, 1) := by decide +kernel
theorem d22_8 : decode prog_42_method_7_code 8 = .ok (.ifCond .ge 30, 3) := by decide +kernel
theorem d22_11 : decode prog_42_method_7_code 11 = .ok (.aload_n 2, 1) := by decide +kernel
theorem d22_12 : decode prog_42_method_7_code 12 = .ok (.arraylength, 1) := by decide +kernel
theorem d22_13 : decode prog_42_method_7_code 13 = .ok (.ifCond .eq 19, 3) := by decide +kernel
theorem d22_16 : decode prog_42_method_7_code 16 = .ok (.aload_n 2, 1) := by decide +kernel
theorem d22_17 : decode prog_42_method_7_code 17 = .ok (.arraylength, 1) := by decide +kernel
theorem d22_18 : decode prog_42_method_7_code 18 = .ok (.iconst 1, 1) := by decide +kernel
theorem d22_19 : decode prog_42_method_7_code 19 = .ok (.if_icmp .ne 17, 3) := by decide +kernel
theorem d22_22 : decode prog_42_method_7_code 22 = .ok (.aload_n 2, 1) := by decide +kernel
theorem d22_23 : decode prog_42_method_7_code 23 = .ok (.iconst 0, 1) := by decide +kernel
theorem d22_24 : decode prog_42_method_7_code 24 = .ok (.iaload, 1) := by decide +kernel
theorem d22_25 : decode prog_42_method_7_code 25 = .ok (.bipush (-2), 2) := by decide +kernel
theorem d22_27 : decode prog_42_method_7_code 27 = .ok (.iload_n 3, 1) := by decide +kernel
theorem d22_28 : decode prog_42_method_7_code 28 = .ok (.isub, 1) := by decide +kernel
theorem d22_29 : decode prog_42_method_7_code 29 = .ok (.if_icmp .ne 7, 3) := by decide +kernel
theorem d22_32 : decode prog_42_method_7_code 32 = .ok (.iconst 1, 1) := by decide +kernel
theorem d22_33 : decode prog_42_method_7_code 33 = .ok (.goto 4, 3) := by decide +kernel
theorem d22_36 : decode prog_42_method_7_code 36 = .ok (.iconst 0, 1) := by decide +kernel
theorem d22_37 : decode prog_42_method_7_code 37 = .ok (.ireturn, 1) := by decide +kernel
theorem d22_38 : decode prog_42_method_7_code 38 = .ok (.iload_n 3, 1) := by decide +kernel
theorem d22_39 : decode prog_42_method_7_code 39 = .ok (.iconst 1, 1) := by decide +kernel
theorem d22_40 : decode prog_42_method_7_code 40 = .ok (.iadd, 1) := by decide +kernel
theorem d22_41 : decode prog_42_method_7_code 41 = .ok (.aload_n 0, 1) := by decide +kernel
theorem d22_42 : decode prog_42_method_7_code 42 = .ok (.getfield 19, 3) := by decide +kernel
theorem d22_45 : decode prog_42_method_7_code 45 = .ok (.iload_n 3, 1) := by decide +kernel
theorem d22_46 : decode prog_42_method_7_code 46 = .ok (.iaload, 1) := by decide +kernel
theorem d22_47 : decode prog_42_method_7_code 47 = .ok (.iadd, 1) := by decide +kernel
theorem d22_48 : decode prog_42_method_7_code 48 = .ok (.istore 4, 2) := by decide +kernel
theorem d22_50 : decode prog_42_method_7_code 50 = .ok (.iload_n 3, 1) := by decide +kernel
theorem d22_51 : decode prog_42_method_7_code 51 = .ok (.iconst 1, 1) := by decide +kernel
theorem d22_52 : decode prog_42_method_7_code 52 = .ok (.iadd, 1) := by decide +kernel
theorem d22_53 : decode prog_42_method_7_code 53 = .ok (.istore 5, 2) := by decide +kernel
theorem d22_55 : decode prog_42_method_7_code 55 = .ok (.aload_n 2, 1) := by decide +kernel
theorem d22_56 : decode prog_42_method_7_code 56 = .ok (.astore 6, 2) := by decide +kernel
theorem d22_58 : decode prog_42_method_7_code 58 = .ok (.aload 6, 2) := by decide +kernel
theorem d22_60 : decode prog_42_method_7_code 60 = .ok (.arraylength, 1) := by decide +kernel
theorem d22_61 : decode prog_42_method_7_code 61 = .ok (.istore 7, 2) := by decide +kernel
theorem d22_63 : decode prog_42_method_7_code 63 = .ok (.iconst 0, 1) := by decide +kernel
theorem d22_64 : decode prog_42_method_7_code 64 = .ok (.istore 8, 2) := by decide +kernel
theorem d22_66 : decode prog_42_method_7_code 66 = .ok (.iload 8, 2) := by decide +kernel
theorem d22_68 : decode prog_42_method_7_code 68 = .ok (.iload 7, 2) := by decide +kernel
theorem d22_70 : decode prog_42_method_7_code 70 = .ok (.if_icmp .ge 65, 3) := by decide +kernel
theorem d22_73 : decode prog_42_method_7_code 73 = .ok (.aload 6, 2) := by decide +kernel
theorem d22_75 : decode prog_42_method_7_code 75 = .ok (.iload 8, 2) := by decide +kernel
theorem d22_77 : decode prog_42_method_7_code 77 = .ok (.iaload, 1) := by decide +kernel
theorem d22_78 : decode prog_42_method_7_code 78 = .ok (.istore 9, 2) := by decide +kernel
theorem d22_80 : decode prog_42_method_7_code 80 = .ok (.iload 5, 2) := by decide +kernel
theorem d22_82 : decode prog_42_method_7_code 82 = .ok (.iload 4, 2) := by decide +kernel
theorem d22_84 : decode prog_42_method_7_code 84 = .ok (.if_icmp .ge 21, 3) := by decide +kernel
theorem d22_87 : decode prog_42_method_7_code 87 = .ok (.aload_n 0, 1) := by decide +kernel
theorem d22_88 : decode prog_42_method_7_code 88 = .ok (.getfield 19, 3) := by decide +kernel
theorem d22_91 : decode prog_42_method_7_code 91 = .ok (.iload 5, 2) := by decide +kernel
theorem d22_93 : decode prog_42_method_7_code 93 = .ok (.iaload, 1) := by decide +kernel
theorem d22_94 : decode prog_42_method_7_code 94 = .ok (.iload 9, 2) := by decide +kernel
theorem d22_96 : decode prog_42_method_7_code 96 = .ok (.if_icmp .ge 9, 3) := by decide +kernel
theorem d22_99 : decode prog_42_method_7_code 99 = .ok (.iinc 5 1, 3) := by decide +kernel
theorem d22_102 : decode prog_42_method_7_code 102 = .ok (.goto (-22), 3) := by decide +kernel
theorem d22_105 : decode prog_42_method_7_code 105 = .ok (.iload 5, 2) := by decide +kernel
theorem d22_107 : decode prog_42_method_7_code 107 = .ok (.iload 4, 2) := by decide +kernel
theorem d22_109 : decode prog_42_method_7_code 109 = .ok (.if_icmp .eq 15, 3) := by decide +kernel
theorem d22_112 : decode prog_42_method_7_code 112 = .ok (.aload_n 0, 1) := by decide +kernel
theorem d22_113 : decode prog_42_method_7_code 113 = .ok (.getfield 19, 3) := by decide +kernel
theorem d22_116 : decode prog_42_method_7_code 116 = .ok (.iload 5, 2) := by decide +kernel
theorem d22_118 : decode prog_42_method_7_code 118 = .ok (.iaload, 1) := by decide +kernel
theorem d22_119 : decode prog_42_method_7_code 119 = .ok (.iload 9, 2) := by decide +kernel
theorem d22_121 : decode prog_42_method_7_code 121 = .ok (.if_icmp .eq 5, 3) := by decide +kernel
theorem d22_124 : decode prog_42_method_7_code 124 = .ok (.iconst 0, 1) := by decide +kernel
theorem d22_125 : decode prog_42_method_7_code 125 = .ok (.ireturn, 1) := by decide +kernel
theorem d22_126 : decode prog_42_method_7_code 126 = .ok (.iinc 5 1, 3) := by decide +kernel
theorem d22_129 : decode prog_42_method_7_code 129 = .ok (.iinc 8 1, 3) := by decide +kernel
theorem d22_132 : decode prog_42_method_7_code 132 = .ok (.goto (-66), 3) := by decide +kernel
theorem d22_135 : decode prog_42_method_7_code 135 = .ok (.iconst 1, 1) := by decide +kernel
theorem d22_136 : decode prog_42_method_7_code 136 = .ok (.ireturn, 1) := by decide +kernel
theorem d23_0 : decode prog_42_method_18_code 0 = .ok (.aload_n 0, 1) := by decide +kernel
theorem d23_1 : decode prog_42_method_18_code 1 = .ok (.aload_n 0, 1) := by decide +kernel
theorem d23_2 : decode prog_42_method_18_code 2 = .ok (.getfield 55, 3) := by decide +kernel
theorem d23_5 : decode prog_42_method_18_code 5 = .ok (.i2l, 1) := by decide +kernel
theorem d23_6 : decode prog_42_method_18_code 6 = .ok (.lconst 1, 1) := by decide +kernel
theorem d23_7 : decode prog_42_method_18_code 7 = .ok (.ladd, 1) := by decide +kernel
theorem d23_8 : decode prog_42_method_18_code 8 = .ok (.iload_n 2, 1) := by decide +kernel
theorem d23_9 : decode prog_42_method_18_code 9 = .ok (.i2l, 1) := by decide +kernel
theorem d23_10 : decode prog_42_method_18_code 10 = .ok (.ladd, 1) := by decide +kernel
theorem d23_11 : decode prog_42_method_18_code 11 = .ok (.invokevirtual 83, 3) := by decide +kernel
theorem d23_14 : decode prog_42_method_18_code 14 = .ok (.aload_n 0, 1) := by decide +kernel
theorem d23_15 : decode prog_42_method_18_code 15 = .ok (.iload_n 1, 1) := by decide +kernel
theorem d23_16 : decode prog_42_method_18_code 16 = .ok (.invokevirtual 100, 3) := by decide +kernel
theorem d23_19 : decode prog_42_method_18_code 19 = .ok (.aload_n 0, 1) := by decide +kernel
theorem d23_20 : decode prog_42_method_18_code 20 = .ok (.iload_n 1, 1) := by decide +kernel
theorem d23_21 : decode prog_42_method_18_code 21 = .ok (.invokevirtual 97, 3) := by decide +kernel
theorem d23_24 : decode prog_42_method_18_code 24 = .ok (.aload_n 0, 1) := by decide +kernel
theorem d23_25 : decode prog_42_method_18_code 25 = .ok (.getfield 55, 3) := by decide +kernel
theorem d23_28 : decode prog_42_method_18_code 28 = .ok (.istore_n 3, 1) := by decide +kernel
theorem d23_29 : decode prog_42_method_18_code 29 = .ok (.aload_n 0, 1) := by decide +kernel
theorem d23_30 : decode prog_42_method_18_code 30 = .ok (.getfield 19, 3) := by decide +kernel
theorem d23_33 : decode prog_42_method_18_code 33 = .ok (.iload_n 3, 1) := by decide +kernel
theorem d23_34 : decode prog_42_method_18_code 34 = .ok (.iload_n 2, 1) := by decide +kernel
theorem d23_35 : decode prog_42_method_18_code 35 = .ok (.iastore, 1) := by decide +kernel
theorem d23_36 : decode prog_42_method_18_code 36 = .ok (.aload_n 0, 1) := by decide +kernel
theorem d23_37 : decode prog_42_method_18_code 37 = .ok (.dup, 1) := by decide +kernel
theorem d23_38 : decode prog_42_method_18_code 38 = .ok (.getfield 55, 3) := by decide +kernel
theorem d23_41 : decode prog_42_method_18_code 41 = .ok (.iconst 1, 1) := by decide +kernel
theorem d23_42 : decode prog_42_method_18_code 42 = .ok (.iload_n 2, 1) := by decide +kernel
theorem d23_43 : decode prog_42_method_18_code 43 = .ok (.iadd, 1) := by decide +kernel
theorem d23_44 : decode prog_42_method_18_code 44 = .ok (.iadd, 1) := by decide +kernel
theorem d23_45 : decode prog_42_method_18_code 45 = .ok (.putfield 55, 3) := by decide +kernel
theorem d23_48 : decode prog_42_method_18_code 48 = .ok (.aload_n 0, 1) := by decide +kernel
theorem d23_49 : decode prog_42_method_18_code 49 = .ok (.getfield 15, 3) := by decide +kernel
theorem d23_52 : decode prog_42_method_18_code 52 = .ok (.iload_n 1, 1) := by decide +kernel
theorem d23_53 : decode prog_42_method_18_code 53 = .ok (.iload_n 3, 1) := by decide +kernel
theorem d23_54 : decode prog_42_method_18_code 54 = .ok (.iastore, 1) := by decide +kernel
theorem d23_55 : decode prog_42_method_18_code 55 = .ok (.iload_n 3, 1) := by decide +kernel
theorem d23_56 : decode prog_42_method_18_code 56 = .ok (.ireturn, 1) := by decide +kernel
theorem d24_0 : decode prog_42_method_24_code 0 = .ok (.lload_n 1, 1) := by decide +kernel
theorem d24_1 : decode prog_42_method_24_code 1 = .ok (.aload_n 0, 1) := by decide +kernel
theorem d24_2 : decode prog_42_method_24_code 2 = .ok (.getfield 19, 3) := by decide +kernel
theorem d24_5 : decode prog_42_method_24_code 5 = .ok (.arraylength, 1) := by decide +kernel
theorem d24_6 : decode prog_42_method_24_code 6 = .ok (.i2l, 1) := by decide +kernel
theorem d24_7 : decode prog_42_method_24_code 7 = .ok (.lcmp, 1) := by decide +kernel
theorem d24_8 : decode prog_42_method_24_code 8 = .ok (.ifCond .le 106, 3) := by decide +kernel
theorem d24_11 : decode prog_42_method_24_code 11 = .ok (.lload_n 1, 1) := by decide +kernel
theorem d24_12 : decode prog_42_method_24_code 12 = .ok (.lstore_n 3, 1) := by decide +kernel
theorem d24_13 : decode prog_42_method_24_code 13 = .ok (.aload_n 0, 1) := by decide +kernel
theorem d24_14 : decode prog_42_method_24_code 14 = .ok (.getfield 26, 3) := by decide +kernel
theorem d24_17 : decode prog_42_method_24_code 17 = .ok (.aload_n 0, 1) := by decide +kernel
theorem d24_18 : decode prog_42_method_24_code 18 = .ok (.getfield 115, 3) := by decide +kernel
theorem d24_21 : decode prog_42_method_24_code 21 = .ok (.if_icmp .ge 69, 3) := by decide +kernel
theorem d24_90 : decode prog_42_method_24_code 90 = .ok (.aload_n 0, 1) := by decide +kernel
theorem d24_91 : decode prog_42_method_24_code 91 = .ok (.aload_n 0, 1) := by decide +kernel
theorem d24_92 : decode prog_42_method_24_code 92 = .ok (.getfield 19, 3) := by decide +kernel
theorem d24_95 : decode prog_42_method_24_code 95 = .ok (.aload_n 0, 1) := by decide +kernel
theorem d24_96 : decode prog_42_method_24_code 96 = .ok (.getfield 19, 3) := by decide +kernel
theorem d24_99 : decode prog_42_method_24_code 99 = .ok (.arraylength, 1) := by decide +kernel
theorem d24_100 : decode prog_42_method_24_code 100 = .ok (.lload_n 3, 1) := by decide +kernel
theorem d24_101 : decode prog_42_method_24_code 101 = .ok (.aload_n 0, 1) := by decide +kernel
theorem d24_102 : decode prog_42_method_24_code 102 = .ok (.getfield 22, 3) := by decide +kernel
theorem d24_105 : decode prog_42_method_24_code 105 = .ok (.invokestatic 140, 3) := by decide +kernel
theorem d24_108 : decode prog_42_method_24_code 108 = .ok (.invokestatic 128, 3) := by decide +kernel
theorem d24_111 : decode prog_42_method_24_code 111 = .ok (.putfield 19, 3) := by decide +kernel
theorem d24_114 : decode prog_42_method_24_code 114 = .ok (.return_, 1) := by decide +kernel
theorem pd0 : parseMethodDescriptor "(JJLjava/lang/String;)V" = some ⟨[.long, .long, (.object "java/lang/String")], none⟩ := by decide +kernel
theorem pd1 : parseMethodDescriptor "(JJ)V" = some ⟨[.long, .long], none⟩ := by decide +kernel
theorem pd2 : parseMethodDescriptor "(II)I" = some ⟨[.int, .int], (some .int)⟩ := by decide +kernel
theorem pd3 : parseMethodDescriptor "(JJ)J" = some ⟨[.long, .long], (some .long)⟩ := by decide +kernel
theorem pd4 : parseMethodDescriptor "(IJI)I" = some ⟨[.int, .long, .int], (some .int)⟩ := by decide +kernel
theorem pd5 : parseMethodDescriptor "(III)V" = some ⟨[.int, .int, .int], none⟩ := by decide +kernel
theorem pd6 : parseMethodDescriptor "([II)[I" = some ⟨[(.array .int), .int], (some (.array .int))⟩ := by decide +kernel
theorem pd7 : parseMethodDescriptor "([IIII)V" = some ⟨[(.array .int), .int, .int, .int], none⟩ := by decide +kernel
theorem pd8 : parseMethodDescriptor "(IJ)I" = some ⟨[.int, .long], (some .int)⟩ := by decide +kernel
theorem pd9 : parseMethodDescriptor "(I)V" = some ⟨[.int], none⟩ := by decide +kernel
theorem pd10 : parseMethodDescriptor "()V" = some ⟨[], none⟩ := by decide +kernel
theorem pd11 : parseMethodDescriptor "(J)V" = some ⟨[.long], none⟩ := by decide +kernel
theorem pd12 : parseMethodDescriptor "(II)V" = some ⟨[.int, .int], none⟩ := by decide +kernel
theorem pd13 : parseMethodDescriptor "([II[I)I" = some ⟨[(.array .int), .int, (.array .int)], (some .int)⟩ := by decide +kernel
theorem pd14 : parseMethodDescriptor "(I[III)V" = some ⟨[.int, (.array .int), .int, .int], none⟩ := by decide +kernel
theorem pd15 : parseMethodDescriptor "(I[I)Z" = some ⟨[.int, (.array .int)], (some .boolean)⟩ := by decide +kernel
theorem pn0 : plainName "com/example/nearword/nearword/internal/index/Room" = true := by first | (simp [plainName, overriddenIn]; done) | decide +kernel
theorem pn1 : plainName "com/example/nearword/nearword/internal/index/IntRuns" = true := by first | (simp [plainName, overriddenIn]; done) | decide +kernel
theorem pn2 : plainName "com/example/nearword/nearword/internal/index/IntRunsContainsAllPinLaw" = true := by first | (simp [plainName, overriddenIn]; done) | decide +kernel
theorem own_w {a0 : Array Value} {Z : State} (hw : ∀ d ∈ tables_1, d.before a0 Z = true) (i : Nat) {d : Jvm.Cond} (h : tables_1[i]? = some d) : d.before a0 Z = true := hw _ (List.mem_of_getElem? h)

def own_ap (b : Bool) (L : List Int32) (x : Int32) : List Int32 := if b then L ++ [x] else L
def own_bit (m k : Int32) : Bool := decide ((m &&& k).toInt ≠ 0)
def own_pad (L : List Int32) : List Value := L.map Value.int ++ List.replicate (6 - L.length) (.int 0)
theorem own_ap_t {m k : Int32} (h : (m &&& k).toInt ≠ 0) (L : List Int32) (x : Int32) : own_ap (own_bit m k) L x = L ++ [x] := by
  have e : own_bit m k = true := decide_eq_true h
  rw [e]; rfl
theorem own_ap_f {m k : Int32} (h : (m &&& k).toInt = 0) (L : List Int32) (x : Int32) : own_ap (own_bit m k) L x = L := by
  have e : own_bit m k = false := decide_eq_false (fun q => q h)
  rw [e]; rfl
theorem own_ap_len (b : Bool) (L : List Int32) (x : Int32) : (own_ap b L x).length ≤ L.length + 1 := by
  unfold own_ap; split <;> simp
theorem own_pad_set (L : List Int32) (x : Int32) (h : L.length < 6) : (own_pad L).set L.length (.int x) = own_pad (L ++ [x]) := by
  obtain ⟨k, hk⟩ : ∃ k, 6 - L.length = k + 1 := ⟨6 - L.length - 1, by omega⟩
  have h2 : 6 - (L ++ [x]).length = k := by simp; omega
  unfold own_pad
  rw [hk, h2, List.set_append_right _ _ (by simp)]
  simp [List.replicate_succ]
theorem own_pad_len (L : List Int32) (h : L.length ≤ 6) : (own_pad L).length = 6 := by unfold own_pad; simp; omega
/-- is every one of the second list in the first (both in ascending order): as the code goes -/
def own_ca : List Int32 → List Int32 → Bool
  | _, [] => true
  | R, v :: Q => match R.dropWhile (fun r => decide (r.toInt < v.toInt)) with
    | [] => false
    | r :: R' => decide (r.toInt = v.toInt) && own_ca R' Q
theorem own_ca_nil (R : List Int32) : own_ca R [] = true := by cases R <;> rfl
theorem own_ca_e (v : Int32) (Q : List Int32) : own_ca [] (v :: Q) = false := rfl
theorem own_ca_lt {r v : Int32} (R Q : List Int32) (h : r.toInt < v.toInt) : own_ca (r :: R) (v :: Q) = own_ca R (v :: Q) := by
  simp only [own_ca, List.dropWhile, decide_eq_true h]
theorem own_ca_eq {r v : Int32} (R Q : List Int32) (h : r.toInt = v.toInt) : own_ca (r :: R) (v :: Q) = own_ca R Q := by
  have h1 : ¬ r.toInt < v.toInt := by omega
  simp only [own_ca, List.dropWhile, decide_eq_false h1, decide_eq_true h, Bool.true_and]
theorem own_ca_gt {r v : Int32} (R Q : List Int32) (h : v.toInt < r.toInt) : own_ca (r :: R) (v :: Q) = false := by
  have h1 : ¬ r.toInt < v.toInt := by omega
  have h2 : ¬ r.toInt = v.toInt := by omega
  simp only [own_ca, List.dropWhile, decide_eq_false h1, decide_eq_false h2, Bool.false_and]
/-- all above x -/
def own_ab (x : Int32) (L : List Int32) : Prop := ∀ y ∈ L, x.toInt < y.toInt
theorem own_ca_step (a b : Bool) (x : Int32) (R Q : List Int32) (hR : own_ab x R) (hQ : own_ab x Q) : own_ca (if a then x :: R else R) (if b then x :: Q else Q) = ((!b || a) && own_ca R Q) := by
  cases a <;> cases b
  · simp
  · simp only [if_true, Bool.false_eq_true, if_false, Bool.not_true, Bool.or_false, Bool.false_and]
    cases R with
    | nil => rfl
    | cons r R' => exact own_ca_gt _ _ (hR r (by simp))
  · simp only [if_true, Bool.false_eq_true, if_false, Bool.not_false, Bool.true_or, Bool.true_and]
    cases Q with
    | nil => rw [own_ca_nil, own_ca_nil]
    | cons v Q' => exact own_ca_lt _ _ (hQ v (by simp))
  · simp only [if_true, Bool.not_true, Bool.false_or, Bool.true_and]
    exact own_ca_eq _ _ rfl

theorem own_i32 (n : Nat) (h : n < 2147483648) : ∃ z : Int32, z.toInt = (n : Int) := ⟨n.toInt32, len_toInt h⟩
theorem own_subM (g : Int32) (h : 0 ≤ g.toInt) : ((2147483646 : Int32) - g).toInt = 2147483646 - g.toInt := by
  have a := c_isub (2147483646 : Int32) g
  have b := rng32 ((2147483646 : Int32) - g)
  have c := rng32 g
  have d : (2147483646 : Int32).toInt = 2147483646 := by decide
  rw [d] at a
  generalize ((2147483646 : Int32) - g).toInt = s at *
  clear d
  omega
theorem own_subN (x : Int32) (h : 0 ≤ x.toInt ∧ x.toInt ≤ 2147483646) : ((-2 : Int32) - x).toInt = -2 - x.toInt := by
  have a := c_isub (-2 : Int32) x
  have b := rng32 ((-2 : Int32) - x)
  have d : (-2 : Int32).toInt = -2 := by decide
  rw [d] at a
  generalize ((-2 : Int32) - x).toInt = s at *
  clear d
  omega
theorem strAtoms (l : Launch) (Z : State) (a0 : Array Value) (hw : ∀ d ∈ tables_1, d.before a0 Z = true) : ∀ a ∈ Bundle.stringAtoms, a.before a0 Z = true := by
  intro a ha
  simp only [Bundle.stringAtoms, List.mem_cons, List.not_mem_nil, or_false] at ha
  rcases ha with rfl | rfl | rfl | rfl | rfl | rfl | rfl
  · exact own_w hw 56 rfl
  · exact own_w hw 57 rfl
  · exact own_w hw 58 rfl
  · exact own_w hw 59 rfl
  · exact own_w hw 60 rfl
  · exact own_w hw 61 rfl
  · exact own_w hw 62 rfl
def own_m1 : List Value := List.replicate 16 (.int (-1 : Int32))
theorem own_m1_len : own_m1.length = 16 := rfl
theorem own_m1_at (k : Nat) (h : k < 16) : own_m1[k]? = some (.int (-1 : Int32)) := by unfold own_m1; rw [List.getElem?_replicate, if_pos h]
theorem own_set_at (A : List Value) (k : Nat) (v : Value) (h : k < A.length) : (A.set k v)[k]? = some v := by rw [List.getElem?_set_self h]
theorem own_set_ne (k o : Nat) (v : Value) (h : k < 16) (ho : o ≠ k) : (own_m1.set o v)[k]? = some (.int (-1 : Int32)) := by rw [List.getElem?_set_ne ho]; exact own_m1_at k h
theorem own_pre (B : List Value) (R : List Int32) (b : Nat) (h : (B.drop b).take R.length = R.map Value.int) : ∀ (t : Nat) (x : Int32), R[t]? = some x → B[b + t]? = some (.int x) := by
  intro t x hx
  have hlt : t < R.length := (List.getElem?_eq_some_iff.mp hx).1
  have q := congrArg (fun l : List Value => l[t]?) h
  simp only [List.getElem?_map, hx, Option.map_some, List.getElem?_take, if_pos hlt, List.getElem?_drop] at q
  exact q
theorem own_len6 (R : List Int32) (h : R.length ≤ 6) : R = [] ∨ (∃ x0, R = [x0]) ∨ (∃ x0 x1, R = [x0, x1]) ∨ (∃ x0 x1 x2, R = [x0, x1, x2]) ∨ (∃ x0 x1 x2 x3, R = [x0, x1, x2, x3]) ∨ (∃ x0 x1 x2 x3 x4, R = [x0, x1, x2, x3, x4]) ∨ (∃ x0 x1 x2 x3 x4 x5, R = [x0, x1, x2, x3, x4, x5]) := by
  match R, h with
  | [], _ => exact Or.inl rfl
  | [x0], _ => exact Or.inr (Or.inl ⟨x0, rfl⟩)
  | [x0, x1], _ => exact Or.inr (Or.inr (Or.inl ⟨x0, x1, rfl⟩))
  | [x0, x1, x2], _ => exact Or.inr (Or.inr (Or.inr (Or.inl ⟨x0, x1, x2, rfl⟩)))
  | [x0, x1, x2, x3], _ => exact Or.inr (Or.inr (Or.inr (Or.inr (Or.inl ⟨x0, x1, x2, x3, rfl⟩))))
  | [x0, x1, x2, x3, x4], _ => exact Or.inr (Or.inr (Or.inr (Or.inr (Or.inr (Or.inl ⟨x0, x1, x2, x3, x4, rfl⟩)))))
  | [x0, x1, x2, x3, x4, x5], _ => exact Or.inr (Or.inr (Or.inr (Or.inr (Or.inr (Or.inr (⟨x0, x1, x2, x3, x4, x5, rfl⟩))))))
  | _ :: _ :: _ :: _ :: _ :: _ :: _ :: _, h => simp only [List.length_cons] at h; omega
theorem own_ca_1m (x : Int32) (Q : List Int32) (h : 2 ≤ Q.length) : own_ca [x] Q = false := by
  match Q, h with
  | v :: w :: Q, _ =>
    rcases (by omega : x.toInt < v.toInt ∨ x.toInt = v.toInt ∨ v.toInt < x.toInt) with q | q | q
    · rw [own_ca_lt _ _ q, own_ca_e]
    · rw [own_ca_eq _ _ q, own_ca_e]
    · exact own_ca_gt _ _ q
theorem own_ca_11t {x v : Int32} (h : x.toInt = v.toInt) : own_ca [x] [v] = true := by rw [own_ca_eq _ _ h]; rfl
theorem own_ca_11f {x v : Int32} (h : x.toInt ≠ v.toInt) : own_ca [x] [v] = false := by
  rcases (by omega : x.toInt < v.toInt ∨ v.toInt < x.toInt) with q | q
  · rw [own_ca_lt _ _ q, own_ca_e]
  · exact own_ca_gt _ _ q
def own_pk (m v0 v1 v2 v3 v4 v5 : Int32) : List Int32 := own_ap (own_bit m (32 : Int32)) (own_ap (own_bit m (16 : Int32)) (own_ap (own_bit m (8 : Int32)) (own_ap (own_bit m (4 : Int32)) (own_ap (own_bit m (2 : Int32)) (own_ap (own_bit m (1 : Int32)) ([]) v0) v1) v2) v3) v4) v5
def own_cn (b : Bool) (x : Int32) (L : List Int32) : List Int32 := if b then x :: L else L
theorem own_pk_cn (m v0 v1 v2 v3 v4 v5 : Int32) : own_pk m v0 v1 v2 v3 v4 v5 = own_cn (own_bit m (1 : Int32)) v0 (own_cn (own_bit m (2 : Int32)) v1 (own_cn (own_bit m (4 : Int32)) v2 (own_cn (own_bit m (8 : Int32)) v3 (own_cn (own_bit m (16 : Int32)) v4 (own_cn (own_bit m (32 : Int32)) v5 ([])))))) := by
  unfold own_pk
  generalize own_bit m (1 : Int32) = b0
  generalize own_bit m (2 : Int32) = b1
  generalize own_bit m (4 : Int32) = b2
  generalize own_bit m (8 : Int32) = b3
  generalize own_bit m (16 : Int32) = b4
  generalize own_bit m (32 : Int32) = b5
  cases b0 <;> cases b1 <;> cases b2 <;> cases b3 <;> cases b4 <;> cases b5 <;> rfl
theorem own_pk_mem {m v0 v1 v2 v3 v4 v5 x : Int32} (h : x ∈ own_pk m v0 v1 v2 v3 v4 v5) : x = v0 ∨ x = v1 ∨ x = v2 ∨ x = v3 ∨ x = v4 ∨ x = v5 := by
  unfold own_pk at h
  generalize own_bit m (1 : Int32) = b0 at h
  generalize own_bit m (2 : Int32) = b1 at h
  generalize own_bit m (4 : Int32) = b2 at h
  generalize own_bit m (8 : Int32) = b3 at h
  generalize own_bit m (16 : Int32) = b4 at h
  generalize own_bit m (32 : Int32) = b5 at h
  have ap : ∀ (b : Bool) (L : List Int32) (y : Int32), x ∈ own_ap b L y → x ∈ L ∨ x = y := by
    intro b L y hx; unfold own_ap at hx; split at hx
    · rcases List.mem_append.mp hx with q | q
      · exact Or.inl q
      · exact Or.inr (List.mem_singleton.mp q)
    · exact Or.inl hx
  rcases ap _ _ _ h with h | h
  rotate_left
  · subst h; simp
  rcases ap _ _ _ h with h | h
  rotate_left
  · subst h; simp
  rcases ap _ _ _ h with h | h
  rotate_left
  · subst h; simp
  rcases ap _ _ _ h with h | h
  rotate_left
  · subst h; simp
  rcases ap _ _ _ h with h | h
  rotate_left
  · subst h; simp
  rcases ap _ _ _ h with h | h
  rotate_left
  · subst h; simp
  cases h
theorem own_pk_in {m v0 v1 v2 v3 v4 v5 x : Int32} (hb : (0 ≤ v0.toInt ∧ v0.toInt < v1.toInt ∧ v1.toInt < v2.toInt ∧ v2.toInt < v3.toInt ∧ v3.toInt < v4.toInt ∧ v4.toInt < v5.toInt) ∧ v5.toInt ≤ 2147483646) (h : x ∈ own_pk m v0 v1 v2 v3 v4 v5) : 0 ≤ x.toInt ∧ x.toInt ≤ 2147483646 := by
  rcases own_pk_mem h with rfl | rfl | rfl | rfl | rfl | rfl <;> omega
theorem own_cn_ab {b : Bool} {x y : Int32} {L : List Int32} (h : x.toInt < y.toInt) (hL : own_ab x L) : own_ab x (own_cn b y L) := by
  unfold own_cn; split
  · intro z hz; rcases List.mem_cons.mp hz with rfl | hz
    · exact h
    · exact hL z hz
  · exact hL
theorem own_ab_nil (x : Int32) : own_ab x [] := fun _ h => by cases h
theorem own_ca_stepN (a b : Bool) (x : Int32) (R Q : List Int32) (hR : own_ab x R) (hQ : own_ab x Q) : own_ca (own_cn a x R) (own_cn b x Q) = ((!b || a) && own_ca R Q) := own_ca_step a b x R Q hR hQ
def own_chk (r q : Int32) : Bool := ((!own_bit q (1 : Int32) || own_bit r (1 : Int32)) && (!own_bit q (2 : Int32) || own_bit r (2 : Int32)) && (!own_bit q (4 : Int32) || own_bit r (4 : Int32)) && (!own_bit q (8 : Int32) || own_bit r (8 : Int32)) && (!own_bit q (16 : Int32) || own_bit r (16 : Int32)) && (!own_bit q (32 : Int32) || own_bit r (32 : Int32)))
theorem own_bit_at (m k : Int32) (j : Nat) (hk : k.toBitVec = BitVec.twoPow 32 j) (hj : j < 32) : own_bit m k = m.toBitVec.getLsbD j := by
  have e : (m &&& k).toBitVec = if m.toBitVec.getLsbD j then BitVec.twoPow 32 j else 0#32 := by
    show m.toBitVec &&& k.toBitVec = _
    rw [hk, BitVec.and_twoPow]
  have z : (m &&& k).toInt = (m &&& k).toBitVec.toInt := rfl
  unfold own_bit
  rw [z, e]
  cases m.toBitVec.getLsbD j
  · simp
  · simp only [if_true]
    apply decide_eq_true
    intro q
    have q2 : BitVec.twoPow 32 j = 0#32 := BitVec.eq_of_toInt_eq (q.trans rfl)
    have q3 := congrArg (fun x : BitVec 32 => x.getLsbD j) q2
    simp [hj] at q3
theorem own_hi (q : Int32) (hq : 0 ≤ q.toInt ∧ q.toInt ≤ 63) (i : Nat) (hi : 6 ≤ i) : q.toBitVec.getLsbD i = false := by
  have hb : q.toBitVec.toInt = q.toInt := rfl
  have hn : q.toBitVec.toNat < 64 := by
    have := q.toBitVec.isLt
    rw [BitVec.toInt_eq_toNat_cond] at hb
    split at hb <;> omega
  show q.toBitVec.toNat.testBit i = false
  exact Nat.testBit_lt_two_pow (Nat.lt_of_lt_of_le hn (Nat.pow_le_pow_right (n := 2) (by decide) hi))
theorem own_mask (r q : Int32) (hr : 0 ≤ r.toInt ∧ r.toInt ≤ 63) (hq : 0 ≤ q.toInt ∧ q.toInt ≤ 63) : (own_chk r q = true ↔ (q &&& (r ^^^ (-1 : Int32))).toInt = 0) := by
  have e : (q &&& (r ^^^ (-1 : Int32))).toBitVec = q.toBitVec &&& (r.toBitVec ^^^ BitVec.allOnes 32) := rfl
  have z : (q &&& (r ^^^ (-1 : Int32))).toInt = 0 ↔ q.toBitVec &&& (r.toBitVec ^^^ BitVec.allOnes 32) = 0#32 := by
    rw [← e]
    constructor
    · intro h; exact BitVec.eq_of_toInt_eq (h.trans rfl)
    · intro h; show (q &&& (r ^^^ (-1 : Int32))).toBitVec.toInt = 0; rw [h]; rfl
  rw [z]
  unfold own_chk
  rw [own_bit_at q _ 0 (by decide) (by decide), own_bit_at q _ 1 (by decide) (by decide), own_bit_at q _ 2 (by decide) (by decide), own_bit_at q _ 3 (by decide) (by decide), own_bit_at q _ 4 (by decide) (by decide), own_bit_at q _ 5 (by decide) (by decide), own_bit_at r _ 0 (by decide) (by decide), own_bit_at r _ 1 (by decide) (by decide), own_bit_at r _ 2 (by decide) (by decide), own_bit_at r _ 3 (by decide) (by decide), own_bit_at r _ 4 (by decide) (by decide), own_bit_at r _ 5 (by decide) (by decide)]
  constructor
  · intro h
    simp only [Bool.and_eq_true, Bool.or_eq_true, Bool.not_eq_true'] at h
    obtain ⟨⟨⟨⟨⟨b0, b1⟩, b2⟩, b3⟩, b4⟩, b5⟩ := h
    apply BitVec.eq_of_getLsbD_eq
    intro i hi
    rw [BitVec.getLsbD_and, BitVec.getLsbD_xor, BitVec.getLsbD_allOnes]
    rcases (by omega : i = 0 ∨ i = 1 ∨ i = 2 ∨ i = 3 ∨ i = 4 ∨ i = 5 ∨ 6 ≤ i) with rfl | rfl | rfl | rfl | rfl | rfl | h6
    · rcases b0 with b | b <;> rw [b] <;> first | rfl | (cases q.toBitVec.getLsbD 0 <;> rfl)
    · rcases b1 with b | b <;> rw [b] <;> first | rfl | (cases q.toBitVec.getLsbD 1 <;> rfl)
    · rcases b2 with b | b <;> rw [b] <;> first | rfl | (cases q.toBitVec.getLsbD 2 <;> rfl)
    · rcases b3 with b | b <;> rw [b] <;> first | rfl | (cases q.toBitVec.getLsbD 3 <;> rfl)
    · rcases b4 with b | b <;> rw [b] <;> first | rfl | (cases q.toBitVec.getLsbD 4 <;> rfl)
    · rcases b5 with b | b <;> rw [b] <;> first | rfl | (cases q.toBitVec.getLsbD 5 <;> rfl)
    · rw [own_hi q hq i h6]; simp
  · intro h
    have key : ∀ i : Nat, i < 32 → (!q.toBitVec.getLsbD i || r.toBitVec.getLsbD i) = true := fun i hi => by
      have k := congrArg (fun x : BitVec 32 => x.getLsbD i) h
      simp only [BitVec.getLsbD_and, BitVec.getLsbD_xor, BitVec.getLsbD_allOnes, BitVec.getLsbD_zero] at k
      revert k
      cases q.toBitVec.getLsbD i <;> cases r.toBitVec.getLsbD i <;> simp [hi]
    rw [key 0 (by decide), key 1 (by decide), key 2 (by decide), key 3 (by decide), key 4 (by decide), key 5 (by decide)]
    rfl
theorem own_law (r q v0 v1 v2 v3 v4 v5 : Int32) (hb : 0 ≤ v0.toInt ∧ v0.toInt < v1.toInt ∧ v1.toInt < v2.toInt ∧ v2.toInt < v3.toInt ∧ v3.toInt < v4.toInt ∧ v4.toInt < v5.toInt) (hr : 0 ≤ r.toInt ∧ r.toInt ≤ 63) (hq : 0 ≤ q.toInt ∧ q.toInt ≤ 63) : (own_ca (own_pk r v0 v1 v2 v3 v4 v5) (own_pk q v0 v1 v2 v3 v4 v5) = true ↔ (q &&& (r ^^^ (-1 : Int32))).toInt = 0) := by
  rw [← own_mask r q hr hq, own_pk_cn, own_pk_cn]
  rw [own_ca_stepN _ _ v0 _ _ (own_cn_ab (by omega) (own_cn_ab (by omega) (own_cn_ab (by omega) (own_cn_ab (by omega) (own_cn_ab (by omega) (own_ab_nil _)))))) (own_cn_ab (by omega) (own_cn_ab (by omega) (own_cn_ab (by omega) (own_cn_ab (by omega) (own_cn_ab (by omega) (own_ab_nil _))))))]
  rw [own_ca_stepN _ _ v1 _ _ (own_cn_ab (by omega) (own_cn_ab (by omega) (own_cn_ab (by omega) (own_cn_ab (by omega) (own_ab_nil _))))) (own_cn_ab (by omega) (own_cn_ab (by omega) (own_cn_ab (by omega) (own_cn_ab (by omega) (own_ab_nil _)))))]
  rw [own_ca_stepN _ _ v2 _ _ (own_cn_ab (by omega) (own_cn_ab (by omega) (own_cn_ab (by omega) (own_ab_nil _)))) (own_cn_ab (by omega) (own_cn_ab (by omega) (own_cn_ab (by omega) (own_ab_nil _))))]
  rw [own_ca_stepN _ _ v3 _ _ (own_cn_ab (by omega) (own_cn_ab (by omega) (own_ab_nil _))) (own_cn_ab (by omega) (own_cn_ab (by omega) (own_ab_nil _)))]
  rw [own_ca_stepN _ _ v4 _ _ (own_cn_ab (by omega) (own_ab_nil _)) (own_cn_ab (by omega) (own_ab_nil _))]
  rw [own_ca_stepN _ _ v5 _ _ (own_ab_nil _) (own_ab_nil _)]
  rw [own_ca_nil, Bool.and_true]
  unfold own_chk
  simp only [Bool.and_assoc]

set_option maxRecDepth 65536 in
set_option maxHeartbeats 40000000 in
theorem m_min (l : Launch) (Z : State) (a0 : Array Value) (hw : ∀ d ∈ tables_1, d.before a0 Z = true) (p q : Int32) (h0 : Heap) (n0 : Nat) (z0 : n0 ≤ h0.size)  : Mt false l Z (⟨"java/lang/Math", "min", "(II)I"⟩ : MethodName) jdk_29_method_69_code 2 (some .int) ({ frames := 0, cells := 0, slots := 0, locals := 0 } : Room) n0 (fun v h => ∃ r : Int32, v = some (.int r) ∧ h0 = h ∧ ((p.toInt ≤ q.toInt ∧ r.toInt = p.toInt) ∨ (q.toInt < p.toInt ∧ r.toInt = q.toInt))) h0 #[(.int p), (.int q)] := by
  refine Mt.go (Ls := #[.val (.int p), .val (.int q)]) (by first | exact plainFor_of_name (by decide +kernel) | decide +kernel | (simp [plainFor]; done)) (fun m => by first | (simp [entryFrame, mkF, argsToLocals, Value.category]; done) | rfl) ?_
  show Go _ _ _ _ _ _ _ _ _ _ _ _ h0 0 0 0 #[.val (.int p), .val (.int q)] []
  refine Go.iloadN (pc' := 1) d1_0 rfl rfl ?_
  refine Go.iloadN (pc' := 2) d1_1 rfl rfl ?_
  refine Go.icmp (pc1 := 9) (pc2 := 5) d1_2 (by decide) (by decide) rfl (fun (c_1 : q.toInt < p.toInt) => ?_) (fun (c_1 : p.toInt ≤ q.toInt) => ?_)
  · refine Go.iloadN (pc' := 10) d1_9 rfl rfl ?_
    exact Go.retI d1_10 rfl ⟨_, rfl, rfl, by omega⟩ (by decide) (by decide)
  · refine Go.iloadN (pc' := 6) d1_5 rfl rfl ?_
    refine Go.goto (pc' := 10) d1_6 (by decide) (by decide) ?_
    exact Go.retI d1_10 rfl ⟨_, rfl, rfl, by omega⟩ (by decide) (by decide)
set_option maxRecDepth 65536 in
set_option maxHeartbeats 40000000 in
theorem m_max (l : Launch) (Z : State) (a0 : Array Value) (hw : ∀ d ∈ tables_1, d.before a0 Z = true) (p q : Int32) (h0 : Heap) (n0 : Nat) (z0 : n0 ≤ h0.size)  : Mt false l Z (⟨"java/lang/Math", "max", "(II)I"⟩ : MethodName) jdk_29_method_65_code 2 (some .int) ({ frames := 0, cells := 0, slots := 0, locals := 0 } : Room) n0 (fun v h => ∃ r : Int32, v = some (.int r) ∧ h0 = h ∧ ((q.toInt ≤ p.toInt ∧ r.toInt = p.toInt) ∨ (p.toInt < q.toInt ∧ r.toInt = q.toInt))) h0 #[(.int p), (.int q)] := by
  refine Mt.go (Ls := #[.val (.int p), .val (.int q)]) (by first | exact plainFor_of_name (by decide +kernel) | decide +kernel | (simp [plainFor]; done)) (fun m => by first | (simp [entryFrame, mkF, argsToLocals, Value.category]; done) | rfl) ?_
  show Go _ _ _ _ _ _ _ _ _ _ _ _ h0 0 0 0 #[.val (.int p), .val (.int q)] []
  refine Go.iloadN (pc' := 1) d13_0 rfl rfl ?_
  refine Go.iloadN (pc' := 2) d13_1 rfl rfl ?_
  refine Go.icmp (pc1 := 9) (pc2 := 5) d13_2 (by decide) (by decide) rfl (fun (c_2 : p.toInt < q.toInt) => ?_) (fun (c_2 : q.toInt ≤ p.toInt) => ?_)
  · refine Go.iloadN (pc' := 10) d13_9 rfl rfl ?_
    exact Go.retI d13_10 rfl ⟨_, rfl, rfl, by omega⟩ (by decide) (by decide)
  · refine Go.iloadN (pc' := 6) d13_5 rfl rfl ?_
    refine Go.goto (pc' := 10) d13_6 (by decide) (by decide) ?_
    exact Go.retI d13_10 rfl ⟨_, rfl, rfl, by omega⟩ (by decide) (by decide)
set_option maxRecDepth 65536 in
set_option maxHeartbeats 40000000 in
theorem m_maxJ (l : Launch) (Z : State) (a0 : Array Value) (hw : ∀ d ∈ tables_1, d.before a0 Z = true) (p q : Int64) (h0 : Heap) (n0 : Nat) (z0 : n0 ≤ h0.size)  : Mt false l Z (⟨"java/lang/Math", "max", "(JJ)J"⟩ : MethodName) jdk_29_method_66_code 4 (some .long) ({ frames := 0, cells := 0, slots := 0, locals := 0 } : Room) n0 (fun v h => ∃ r : Int64, v = some (.long r) ∧ h0 = h ∧ ((q.toInt ≤ p.toInt ∧ r.toInt = p.toInt) ∨ (p.toInt < q.toInt ∧ r.toInt = q.toInt))) h0 #[(.long p), (.long q)] := by
  refine Mt.go (Ls := #[.val (.long p), .second, .val (.long q), .second]) (by first | exact plainFor_of_name (by decide +kernel) | decide +kernel | (simp [plainFor]; done)) (fun m => by first | (simp [entryFrame, mkF, argsToLocals, Value.category]; done) | rfl) ?_
  show Go _ _ _ _ _ _ _ _ _ _ _ _ h0 0 0 0 #[.val (.long p), .second, .val (.long q), .second] []
  refine Go.lloadN (pc' := 1) d14_0 rfl rfl ?_
  refine Go.lloadN (pc' := 2) d14_1 rfl rfl ?_
  refine Go.lcmp (pc' := 3) d14_2 rfl ?_
  refine Go.ifw (pc1 := 10) (pc2 := 6) d14_3 (by decide) (by decide) rfl (fun (c_3 : p.toInt < q.toInt) => ?_) (fun (c_3 : q.toInt ≤ p.toInt) => ?_)
  · refine Go.lloadN (pc' := 11) d14_10 rfl rfl ?_
    exact Go.retL d14_11 rfl ⟨_, rfl, rfl, by omega⟩ (by decide) (by decide)
  · refine Go.lloadN (pc' := 7) d14_6 rfl rfl ?_
    refine Go.goto (pc' := 11) d14_7 (by decide) (by decide) ?_
    exact Go.retL d14_11 rfl ⟨_, rfl, rfl, by omega⟩ (by decide) (by decide)
set_option maxRecDepth 65536 in
set_option maxHeartbeats 40000000 in
theorem m_minJ (l : Launch) (Z : State) (a0 : Array Value) (hw : ∀ d ∈ tables_1, d.before a0 Z = true) (p q : Int64) (h0 : Heap) (n0 : Nat) (z0 : n0 ≤ h0.size)  : Mt false l Z (⟨"java/lang/Math", "min", "(JJ)J"⟩ : MethodName) jdk_29_method_70_code 4 (some .long) ({ frames := 0, cells := 0, slots := 0, locals := 0 } : Room) n0 (fun v h => ∃ r : Int64, v = some (.long r) ∧ h0 = h ∧ ((p.toInt ≤ q.toInt ∧ r.toInt = p.toInt) ∨ (q.toInt < p.toInt ∧ r.toInt = q.toInt))) h0 #[(.long p), (.long q)] := by
  refine Mt.go (Ls := #[.val (.long p), .second, .val (.long q), .second]) (by first | exact plainFor_of_name (by decide +kernel) | decide +kernel | (simp [plainFor]; done)) (fun m => by first | (simp [entryFrame, mkF, argsToLocals, Value.category]; done) | rfl) ?_
  show Go _ _ _ _ _ _ _ _ _ _ _ _ h0 0 0 0 #[.val (.long p), .second, .val (.long q), .second] []
  refine Go.lloadN (pc' := 1) d15_0 rfl rfl ?_
  refine Go.lloadN (pc' := 2) d15_1 rfl rfl ?_
  refine Go.lcmp (pc' := 3) d15_2 rfl ?_
  refine Go.ifw (pc1 := 10) (pc2 := 6) d15_3 (by decide) (by decide) rfl (fun (c_4 : q.toInt < p.toInt) => ?_) (fun (c_4 : p.toInt ≤ q.toInt) => ?_)
  · refine Go.lloadN (pc' := 11) d15_10 rfl rfl ?_
    exact Go.retL d15_11 rfl ⟨_, rfl, rfl, by omega⟩ (by decide) (by decide)
  · refine Go.lloadN (pc' := 7) d15_6 rfl rfl ?_
    refine Go.goto (pc' := 11) d15_7 (by decide) (by decide) ?_
    exact Go.retL d15_11 rfl ⟨_, rfl, rfl, by omega⟩ (by decide) (by decide)
set_option maxRecDepth 65536 in
set_option maxHeartbeats 40000000 in
theorem m_req (l : Launch) (Z : State) (a0 : Array Value) (hw : ∀ d ∈ tables_1, d.before a0 Z = true) (x y : Int64) (b : Addr) (h0 : Heap) (n0 : Nat) (z0 : n0 ≤ h0.size) (hxy : x.toInt ≤ y.toInt) : Mt false l Z (⟨"com/example/nearword/nearword/internal/index/Room", "require", "(JJLjava/lang/String;)V"⟩ : MethodName) prog_62_method_2_code 5 none ({ frames := 0, cells := 0, slots := 0, locals := 0 } : Room) n0 (fun v h => v = none ∧ h0 = h) h0 #[(.long x), (.long y), (.ref b)] := by
  refine Mt.go (Ls := #[.val (.long x), .second, .val (.long y), .second, .val (.ref b)]) (plainFor_of_name pn0) (fun m => by first | (simp [entryFrame, mkF, argsToLocals, Value.category]; done) | rfl) ?_
  show Go _ _ _ _ _ _ _ _ _ _ _ _ h0 0 0 0 #[.val (.long x), .second, .val (.long y), .second, .val (.ref b)] []
  refine Go.lloadN (pc' := 1) d12_0 rfl rfl ?_
  refine Go.lloadN (pc' := 2) d12_1 rfl rfl ?_
  refine Go.lcmp (pc' := 3) d12_2 rfl ?_
  refine Go.ifw (pc1 := 22) (pc2 := 6) d12_3 (by decide) (by decide) rfl (fun (c_5 : x.toInt ≤ y.toInt) => ?_) (fun (c_5 : y.toInt < x.toInt) => ?_)
  rotate_left
  · exfalso; omega
  exact Go.ret0 d12_22 rfl ⟨rfl, rfl⟩ (by decide) (by decide)
set_option maxRecDepth 65536 in
set_option maxHeartbeats 40000000 in
theorem m_reqE (l : Launch) (Z : State) (a0 : Array Value) (hw : ∀ d ∈ tables_1, d.before a0 Z = true) (x y : Int64) (h0 : Heap) (n0 : Nat) (z0 : n0 ≤ h0.size) (hxy : x.toInt ≤ y.toInt) : Mt true l Z (⟨"com/example/nearword/nearword/internal/index/Room", "requireElements", "(JJ)V"⟩ : MethodName) prog_62_method_3_code 4 none ({ frames := 1, cells := 2, slots := 88, locals := 16 } : Room) n0 (fun v h => v = none ∧ Keep h0 h []) h0 #[(.long x), (.long y)] := by
  refine Mt.go (Ls := #[.val (.long x), .second, .val (.long y), .second]) (plainFor_of_name pn0) (fun m => by first | (simp [entryFrame, mkF, argsToLocals, Value.category]; done) | rfl) ?_
  show Go _ _ _ _ _ _ _ _ _ _ _ _ h0 0 0 0 #[.val (.long x), .second, .val (.long y), .second] []
  refine Go.lloadN (pc' := 1) d11_0 rfl rfl ?_
  refine Go.lloadN (pc' := 2) d11_1 rfl rfl ?_
  refine Go.ldcS (pc' := 4) (text := "elements in one array") (n := 84) (own_w hw 55 rfl) (strAtoms l Z a0 hw) d11_2 (by decide) (by decide) (by decide) (by decide) rfl ?_
  intro h_6 a_7 E_8
  have z_9 : n0 ≤ h_6.size := Nat.le_trans z0 E_8.1
  have b_10 : h0.size ≤ h_6.size := Nat.le_trans (Nat.le_refl _) E_8.1
  have K_11 : Keep h0 h_6 [] := (Keep.refl _ _).ext E_8
  refine Go.callS (pc' := 7) (argsL := [(.long x), (.long y), (.ref a_7)]) (rest := []) (W := 0) (own_w hw 63 rfl) (own_w hw 64 rfl) (own_w hw 46 rfl) (own_w hw 65 rfl) (by decide) (m_req l Z a0 hw x y a_7 h_6 n0 z_9 hxy) d11_4 rfl pd0 rfl rfl (Nat.le_of_eq rfl) (by decide) (by decide) (by decide) (by decide) rfl ?_
  rintro _ _ ⟨rfl, rfl⟩
  show Go _ _ _ _ _ _ _ _ _ _ _ _ h_6 (0 + 2 + 0) (0 + (84 + 4) + 0) 7 #[.val (.long x), .second, .val (.long y), .second] []
  exact Go.ret0 d11_7 rfl ⟨rfl, K_11⟩ (by decide) (by decide)
set_option maxRecDepth 65536 in
set_option maxHeartbeats 40000000 in
theorem m_g3 (l : Launch) (Z : State) (a0 : Array Value) (hw : ∀ d ∈ tables_1, d.before a0 Z = true) (x : Int64) (m : Int32) (h0 : Heap) (n0 : Nat) (z0 : n0 ≤ h0.size) (h0x : 0 ≤ x.toInt) (hx : x.toInt ≤ 16) (hm : 16 ≤ m.toInt) : Mt true l Z (⟨"com/example/nearword/nearword/internal/index/Room", "grown", "(IJI)I"⟩ : MethodName) prog_62_method_4_code 6 (some .int) ({ frames := 2, cells := 2, slots := 88, locals := 32 } : Room) n0 (fun v h => v = some (.int 16) ∧ Keep h0 h []) h0 #[(.int 0), (.long x), (.int m)] := by
  refine Mt.go (Ls := #[.val (.int 0), .val (.long x), .second, .val (.int m), .unset, .unset]) (plainFor_of_name pn0) (fun m => by first | (simp [entryFrame, mkF, argsToLocals, Value.category]; done) | rfl) ?_
  show Go _ _ _ _ _ _ _ _ _ _ _ _ h0 0 0 0 #[.val (.int 0), .val (.long x), .second, .val (.int m), .unset, .unset] []
  refine Go.lloadN (pc' := 1) d10_0 rfl rfl ?_
  refine Go.iloadN (pc' := 2) d10_1 rfl rfl ?_
  refine Go.i2l (pc' := 3) d10_2 rfl ?_
  generalize ey_12 : m.toInt64 = y_12
  have k_13 : y_12.toInt = m.toInt := by
    rw [← ey_12]
    have := c_i2l m
    have := rng64 m.toInt64
    have := rng32 m
    omega
  refine Go.callSW (pc' := 6) (argsL := [(.long x), (.long y_12)]) (rest := []) (W := 0) (own_w hw 52 rfl) (own_w hw 53 rfl) (own_w hw 46 rfl) (own_w hw 54 rfl) (by decide) (m_reqE l Z a0 hw x y_12 h0 n0 z0 (by omega)) d10_3 rfl pd1 rfl rfl (Nat.le_of_eq rfl) (by decide) (by decide) (by decide) (by decide) rfl ?_
  rintro _ h_14 ⟨rfl, K_15⟩
  have z_16 : n0 ≤ h_14.size := Nat.le_trans z0 K_15.1
  have b_17 : h0.size ≤ h_14.size := Nat.le_trans (Nat.le_refl _) K_15.1
  have K_18 : Keep h0 h_14 [] := (Keep.refl _ _).trans K_15 all0
  show Go _ _ _ _ _ _ _ _ _ _ _ _ h_14 (0 + 2) (0 + 88) 6 #[.val (.int 0), .val (.long x), .second, .val (.int m), .unset, .unset] []
  refine Go.lloadN (pc' := 7) d10_6 rfl rfl ?_
  refine Go.bipush (pc' := 9) (v := (16 : Int32)) d10_7 rfl rfl ?_
  refine Go.iloadN (pc' := 10) d10_9 rfl rfl ?_
  refine Go.iloadN (pc' := 11) d10_10 rfl rfl ?_
  refine Go.iconst (pc' := 12) (v := (1 : Int32)) d10_11 rfl rfl ?_
  refine Go.ishr (pc' := 13) d10_12 rfl ?_
  refine Go.iadd (pc' := 14) d10_13 rfl ?_
  generalize es_19 : (0 : Int32) + ((0 : Int32) >>> ((1 : Int32) &&& 31)) = s_19
  have k_20 : s_19.toInt = 0 := by
    rw [← es_19]
    have : (0 : Int32).toInt = 0 := by decide
    have : (1 : Int32).toInt = 1 := by decide
    have := c_ishr (0 : Int32) (1 : Int32) 1 (by decide)
    have := rng32 ((0 : Int32) >>> ((1 : Int32) &&& 31))
    have := c_iadd (0 : Int32) ((0 : Int32) >>> ((1 : Int32) &&& 31))
    have := rng32 ((0 : Int32) + ((0 : Int32) >>> ((1 : Int32) &&& 31)))
    omega
  have z16 : (16 : Int32).toInt = 16 := rfl
  refine Go.callS (pc' := 17) (argsL := [(.int 16), (.int s_19)]) (rest := [(.long x)]) (W := 2) (own_w hw 66 rfl) (own_w hw 67 rfl) (own_w hw 4 rfl) (own_w hw 68 rfl) (by decide) (m_max l Z a0 hw (16 : Int32) s_19 h_14 n0 z_16) d10_14 rfl pd2 rfl rfl (Nat.le_of_eq rfl) (by decide) (by decide) (by decide) (by decide) rfl ?_
  rintro _ _ ⟨r1, rfl, rfl, hr1⟩
  show Go _ _ _ _ _ _ _ _ _ _ _ _ h_14 (0 + 2 + 0) (0 + 88 + 0) 17 #[.val (.int 0), .val (.long x), .second, .val (.int m), .unset, .unset] [(.int r1), (.long x)]
  refine Go.i2l (pc' := 18) d10_17 rfl ?_
  generalize et_21 : r1.toInt64 = t_21
  have k_22 : t_21.toInt = 16 := by
    rw [← et_21]
    have := c_i2l r1
    have := rng64 r1.toInt64
    have := rng32 r1
    omega
  refine Go.callS (pc' := 21) (argsL := [(.long x), (.long t_21)]) (rest := []) (W := 0) (own_w hw 69 rfl) (own_w hw 70 rfl) (own_w hw 4 rfl) (own_w hw 71 rfl) (by decide) (m_maxJ l Z a0 hw x t_21 h_14 n0 z_16) d10_18 rfl pd3 rfl rfl (Nat.le_of_eq rfl) (by decide) (by decide) (by decide) (by decide) rfl ?_
  rintro _ _ ⟨r2, rfl, rfl, hr2⟩
  show Go _ _ _ _ _ _ _ _ _ _ _ _ h_14 (0 + 2 + 0 + 0) (0 + 88 + 0 + 0) 21 #[.val (.int 0), .val (.long x), .second, .val (.int m), .unset, .unset] [(.long r2)]
  refine Go.lstore (pc' := 23) (Ls' := #[.val (.int 0), .val (.long x), .second, .val (.int m), .val (.long r2), .second]) d10_21 rfl rfl ?_
  refine Go.lload (pc' := 25) d10_23 rfl rfl ?_
  refine Go.iloadN (pc' := 26) d10_25 rfl rfl ?_
  refine Go.i2l (pc' := 27) d10_26 rfl ?_
  generalize eu_23 : m.toInt64 = u_23
  have k_24 : u_23.toInt = m.toInt := by
    rw [← eu_23]
    have := c_i2l m
    have := rng64 m.toInt64
    have := rng32 m
    omega
  refine Go.callS (pc' := 30) (argsL := [(.long r2), (.long u_23)]) (rest := []) (W := 0) (own_w hw 72 rfl) (own_w hw 73 rfl) (own_w hw 4 rfl) (own_w hw 74 rfl) (by decide) (m_minJ l Z a0 hw r2 u_23 h_14 n0 z_16) d10_27 rfl pd3 rfl rfl (Nat.le_of_eq rfl) (by decide) (by decide) (by decide) (by decide) rfl ?_
  rintro _ _ ⟨r3, rfl, rfl, hr3⟩
  show Go _ _ _ _ _ _ _ _ _ _ _ _ h_14 (0 + 2 + 0 + 0 + 0) (0 + 88 + 0 + 0 + 0) 30 #[.val (.int 0), .val (.long x), .second, .val (.int m), .val (.long r2), .second] [(.long r3)]
  refine Go.l2i (pc' := 31) d10_30 rfl ?_
  generalize en_25 : r3.toInt32 = n_25
  have k_26 : n_25.toInt = 16 := by
    rw [← en_25]
    have := c_l2i r3
    have := rng32 r3.toInt32
    have := rng64 r3
    omega
  obtain rfl : n_25 = (16 : Int32) := Int32.toInt_inj.mp k_26
  exact Go.retI d10_31 rfl ⟨rfl, K_18⟩ (by decide) (by decide)
set_option maxRecDepth 65536 in
set_option maxHeartbeats 40000000 in
theorem m_g2 (l : Launch) (Z : State) (a0 : Array Value) (hw : ∀ d ∈ tables_1, d.before a0 Z = true) (x : Int64) (h0 : Heap) (n0 : Nat) (z0 : n0 ≤ h0.size) (h0x : 0 ≤ x.toInt) (hx : x.toInt ≤ 16) : Mt true l Z (⟨"com/example/nearword/nearword/internal/index/Room", "grown", "(IJ)I"⟩ : MethodName) prog_62_method_5_code 3 (some .int) ({ frames := 3, cells := 2, slots := 88, locals := 54 } : Room) n0 (fun v h => v = some (.int 16) ∧ Keep h0 h []) h0 #[(.int 0), (.long x)] := by
  refine Mt.go (Ls := #[.val (.int 0), .val (.long x), .second]) (plainFor_of_name pn0) (fun m => by first | (simp [entryFrame, mkF, argsToLocals, Value.category]; done) | rfl) ?_
  show Go _ _ _ _ _ _ _ _ _ _ _ _ h0 0 0 0 #[.val (.int 0), .val (.long x), .second] []
  refine Go.iloadN (pc' := 1) d9_0 rfl rfl ?_
  refine Go.lloadN (pc' := 2) d9_1 rfl rfl ?_
  refine Go.ldcI (pc' := 4) (own_w hw 48 rfl) d9_2 rfl ?_
  refine Go.callSW (pc' := 7) (argsL := [(.int 0), (.long x), (.int 2147483639)]) (rest := []) (W := 0) (own_w hw 49 rfl) (own_w hw 50 rfl) (own_w hw 46 rfl) (own_w hw 51 rfl) (by decide) (m_g3 l Z a0 hw x (2147483639 : Int32) h0 n0 z0 h0x hx (by decide)) d9_4 rfl pd4 rfl rfl (Nat.le_of_eq rfl) (by decide) (by decide) (by decide) (by decide) rfl ?_
  rintro _ h_27 ⟨rfl, K_28⟩
  have z_29 : n0 ≤ h_27.size := Nat.le_trans z0 K_28.1
  have b_30 : h0.size ≤ h_27.size := Nat.le_trans (Nat.le_refl _) K_28.1
  have K_31 : Keep h0 h_27 [] := (Keep.refl _ _).trans K_28 all0
  show Go _ _ _ _ _ _ _ _ _ _ _ _ h_27 (0 + 2) (0 + 88) 7 #[.val (.int 0), .val (.long x), .second] [(.int 16)]
  exact Go.retI d9_7 rfl ⟨rfl, K_31⟩ (by decide) (by decide)
set_option maxRecDepth 65536 in
set_option maxHeartbeats 40000000 in
theorem m_copy (l : Launch) (Z : State) (a0 : Array Value) (hw : ∀ d ∈ tables_1, d.before a0 Z = true) (b : Addr) (h0 : Heap) (n0 : Nat) (z0 : n0 ≤ h0.size) (hA : Ary Z h0 b .int []) : Mt false l Z (⟨"java/util/Arrays", "copyOf", "([II)[I"⟩ : MethodName) jdk_65_method_123_code 3 (some (.array .int)) ({ frames := 1, cells := 1, slots := 16, locals := 24 } : Room) n0 (fun v h => ∃ o, v = some (.ref o) ∧ Keep h0 h [] ∧ Ary Z h o .int [(.int 0), (.int 0), (.int 0), (.int 0), (.int 0), (.int 0), (.int 0), (.int 0), (.int 0), (.int 0), (.int 0), (.int 0), (.int 0), (.int 0), (.int 0), (.int 0)] ∧ h0.size ≤ o ∧ o < h.size) h0 #[(.ref b), (.int 16)] := by
  refine Mt.go (Ls := #[.val (.ref b), .val (.int 16), .unset]) (by first | exact plainFor_of_name (by decide +kernel) | decide +kernel | (simp [plainFor]; done)) (fun m => by first | (simp [entryFrame, mkF, argsToLocals, Value.category]; done) | rfl) ?_
  show Go _ _ _ _ _ _ _ _ _ _ _ _ h0 0 0 0 #[.val (.ref b), .val (.int 16), .unset] []
  refine Go.iloadN (pc' := 1) d17_0 rfl rfl ?_
  refine Go.aloadN (pc' := 2) d17_1 rfl rfl rfl ?_
  refine Go.alen (pc' := 3) (z := (0 : Int32)) hA rfl d17_2 rfl ?_
  refine Go.icmp (pc1 := 14) (pc2 := 6) d17_3 (by decide) (by decide) rfl (fun (c_32 : (16 : Int) ≠ (0 : Int)) => ?_) (fun (c_32 : (16 : Int) = (0 : Int)) => ?_)
  rotate_left
  · exact absurd c_32 (by decide)
  refine Go.iloadN (pc' := 15) d17_14 rfl rfl ?_
  refine Go.newA (pc' := 17) (k := 16) (ty := .int) (cap := 16) (own_w hw 6 rfl) rfl rfl (by decide) (by decide) d17_15 (by decide) (by decide) rfl ?_
  intro h_33 a_34 q_35 E_36 A_37
  have n_39 : b ≠ a_34 := Nat.ne_of_lt (q_35 ▸ hA.lt)
  have g_40 : n0 ≤ a_34 := q_35 ▸ z0
  have g_41 : h0.size ≤ a_34 := q_35 ▸ (Nat.le_refl _)
  have f_42 : Ary Z h_33 b .int [] := hA.sm (Sm.ext E_36)
  have t_43 : b < h_33.size := Nat.lt_of_lt_of_le hA.lt E_36.1
  have z_44 : n0 ≤ h_33.size := Nat.le_trans z0 E_36.1
  have b_45 : h0.size ≤ h_33.size := Nat.le_trans (Nat.le_refl _) E_36.1
  have K_46 : Keep h0 h_33 [] := (Keep.refl _ _).ext E_36
  have t_47 : a_34 < h_33.size := A_37.lt
  change Ary Z h_33 a_34 .int [(.int 0), (.int 0), (.int 0), (.int 0), (.int 0), (.int 0), (.int 0), (.int 0), (.int 0), (.int 0), (.int 0), (.int 0), (.int 0), (.int 0), (.int 0), (.int 0)] at A_37
  refine Go.astoreN (pc' := 18) (Ls' := #[.val (.ref b), .val (.int 16), .val (.ref a_34)]) d17_17 rfl rfl rfl ?_
  refine Go.aloadN (pc' := 19) d17_18 rfl rfl rfl ?_
  refine Go.iconst (pc' := 20) (v := (0 : Int32)) d17_19 rfl rfl ?_
  refine Go.aloadN (pc' := 21) d17_20 rfl rfl rfl ?_
  refine Go.iconst (pc' := 22) (v := (0 : Int32)) d17_21 rfl rfl ?_
  refine Go.aloadN (pc' := 23) d17_22 rfl rfl rfl ?_
  refine Go.alen (pc' := 24) (z := (0 : Int32)) f_42 rfl d17_23 rfl ?_
  refine Go.iloadN (pc' := 25) d17_24 rfl rfl ?_
  refine Go.callS (pc' := 28) (argsL := [(.int 0), (.int 16)]) (rest := [(.int 0), (.ref a_34), (.int 0), (.ref b)]) (W := 4) (own_w hw 83 rfl) (own_w hw 3 rfl) (own_w hw 4 rfl) (own_w hw 5 rfl) (by decide) (m_min l Z a0 hw (0 : Int32) (16 : Int32) h_33 n0 z_44) d17_25 rfl pd2 rfl rfl (Nat.le_of_eq rfl) (by decide) (by decide) (by decide) (by decide) rfl ?_
  rintro _ _ ⟨r, rfl, rfl, hr⟩
  obtain rfl : r = (0 : Int32) := Int32.toInt_inj.mp (by have z16 : (16 : Int32).toInt = 16 := rfl; have z0 : (0 : Int32).toInt = 0 := rfl; omega)
  show Go _ _ _ _ _ _ _ _ _ _ _ _ h_33 (0 + 1 + 0) (0 + 16 + 0) 28 #[.val (.ref b), .val (.int 16), .val (.ref a_34)] [(.int 0), (.int 0), (.ref a_34), (.int 0), (.ref b)]
  refine Go.acopy (pc' := 31) (i1 := 0) (i2 := 0) (k := 0) (za := (0 : Int32)) (zb := (16 : Int32)) (W := 0) (res := [(.int 0), (.int 0), (.int 0), (.int 0), (.int 0), (.int 0), (.int 0), (.int 0), (.int 0), (.int 0), (.int 0), (.int 0), (.int 0), (.int 0), (.int 0), (.int 0)]) (own_w hw 84 rfl) (own_w hw 87 rfl) (own_w hw 85 rfl) (own_w hw 86 rfl) f_42 A_37 rfl (by intro v hv; cases hv) (by intro v hv; simp only [List.mem_cons, List.not_mem_nil, or_false] at hv; rcases hv with rfl | rfl | rfl | rfl | rfl | rfl | rfl | rfl | rfl | rfl | rfl | rfl | rfl | rfl | rfl | rfl <;> rfl) rfl rfl rfl rfl rfl (by show 0 + 0 ≤ 0; decide) (by show 0 + 0 ≤ 16; decide) rfl g_40 d17_28 rfl (by decide) (Nat.le_of_eq rfl) (by decide) rfl ?_
  intro h_48 K_49 A_50
  have f_51 : Ary Z h_48 b .int [] := f_42.sm (Sm.keep K_49 (ninS n_39 nin0))
  have t_52 : b < h_48.size := Nat.lt_of_lt_of_le t_43 K_49.1
  have t_53 : a_34 < h_48.size := Nat.lt_of_lt_of_le t_47 K_49.1
  have z_54 : n0 ≤ h_48.size := Nat.le_trans z_44 K_49.1
  have b_55 : h0.size ≤ h_48.size := Nat.le_trans b_45 K_49.1
  have K_56 : Keep h0 h_48 [] := K_46.trans K_49 (allS (Or.inr g_41) all0)
  refine Go.aloadN (pc' := 32) d17_31 rfl rfl rfl ?_
  exact Go.retA d17_32 rfl rfl rfl ⟨a_34, rfl, K_56, A_50, g_41, t_53⟩ (by decide) (by decide)
set_option maxRecDepth 65536 in
set_option maxHeartbeats 40000000 in
theorem m_rc (l : Launch) (Z : State) (a0 : Array Value) (hw : ∀ d ∈ tables_1, d.before a0 Z = true)  (h0 : Heap) (n0 : Nat) (z0 : n0 ≤ h0.size)  : Mt false l Z (⟨"java/util/Arrays", "rangeCheck", "(III)V"⟩ : MethodName) jdk_65_method_30_code 3 none ({ frames := 0, cells := 0, slots := 0, locals := 0 } : Room) n0 (fun v h => v = none ∧ h0 = h) h0 #[(.int 16), (.int 0), (.int 16)] := by
  refine Mt.go (Ls := #[.val (.int 16), .val (.int 0), .val (.int 16)]) (by first | exact plainFor_of_name (by decide +kernel) | decide +kernel | (simp [plainFor]; done)) (fun m => by first | (simp [entryFrame, mkF, argsToLocals, Value.category]; done) | rfl) ?_
  show Go _ _ _ _ _ _ _ _ _ _ _ _ h0 0 0 0 #[.val (.int 16), .val (.int 0), .val (.int 16)] []
  refine Go.iloadN (pc' := 1) d19_0 rfl rfl ?_
  refine Go.iloadN (pc' := 2) d19_1 rfl rfl ?_
  refine Go.icmp (pc1 := 46) (pc2 := 5) d19_2 (by decide) (by decide) rfl (fun (c_57 : (0 : Int) ≤ (16 : Int)) => ?_) (fun (c_57 : (16 : Int) < (0 : Int)) => ?_)
  rotate_left
  · exact absurd c_57 (by decide)
  refine Go.iloadN (pc' := 47) d19_46 rfl rfl ?_
  refine Go.ifc (pc1 := 59) (pc2 := 50) d19_47 (by decide) (by decide) rfl (fun (c_58 : 0 ≤ (0 : Int)) => ?_) (fun (c_58 : (0 : Int) < 0) => ?_)
  rotate_left
  · exact absurd c_58 (by decide)
  refine Go.iloadN (pc' := 60) d19_59 rfl rfl ?_
  refine Go.iloadN (pc' := 61) d19_60 rfl rfl ?_
  refine Go.icmp (pc1 := 73) (pc2 := 64) d19_61 (by decide) (by decide) rfl (fun (c_59 : (16 : Int) ≤ (16 : Int)) => ?_) (fun (c_59 : (16 : Int) < (16 : Int)) => ?_)
  rotate_left
  · exact absurd c_59 (by decide)
  exact Go.ret0 d19_73 rfl ⟨rfl, rfl⟩ (by decide) (by decide)
set_option maxRecDepth 65536 in
set_option maxHeartbeats 40000000 in
theorem m_fill (l : Launch) (Z : State) (a0 : Array Value) (hw : ∀ d ∈ tables_1, d.before a0 Z = true) (b : Addr) (h0 : Heap) (n0 : Nat) (z0 : n0 ≤ h0.size) (hA : Ary Z h0 b .int [(.int 0), (.int 0), (.int 0), (.int 0), (.int 0), (.int 0), (.int 0), (.int 0), (.int 0), (.int 0), (.int 0), (.int 0), (.int 0), (.int 0), (.int 0), (.int 0)]) (hg : n0 ≤ b) : Mt false l Z (⟨"java/util/Arrays", "fill", "([IIII)V"⟩ : MethodName) jdk_65_method_104_code 5 none ({ frames := 1, cells := 0, slots := 0, locals := 17 } : Room) n0 (fun v h => v = none ∧ Keep h0 h [b] ∧ Ary Z h b .int own_m1) h0 #[(.ref b), (.int 0), (.int 16), (.int (-1 : Int32))] := by
  refine Mt.go (Ls := #[.val (.ref b), .val (.int 0), .val (.int 16), .val (.int (-1 : Int32)), .unset]) (by first | exact plainFor_of_name (by decide +kernel) | decide +kernel | (simp [plainFor]; done)) (fun m => by first | (simp [entryFrame, mkF, argsToLocals, Value.category]; done) | rfl) ?_
  show Go _ _ _ _ _ _ _ _ _ _ _ _ h0 0 0 0 #[.val (.ref b), .val (.int 0), .val (.int 16), .val (.int (-1 : Int32)), .unset] []
  refine Go.aloadN (pc' := 1) d18_0 rfl rfl rfl ?_
  refine Go.alen (pc' := 2) (z := (16 : Int32)) hA rfl d18_1 rfl ?_
  refine Go.iloadN (pc' := 3) d18_2 rfl rfl ?_
  refine Go.iloadN (pc' := 4) d18_3 rfl rfl ?_
  refine Go.callS (pc' := 7) (argsL := [(.int 16), (.int 0), (.int 16)]) (rest := []) (W := 0) (own_w hw 91 rfl) (own_w hw 92 rfl) (own_w hw 81 rfl) (own_w hw 93 rfl) (by decide) (m_rc l Z a0 hw h0 n0 z0) d18_4 rfl pd5 rfl rfl (Nat.le_of_eq rfl) (by decide) (by decide) (by decide) (by decide) rfl ?_
  rintro _ _ ⟨rfl, rfl⟩
  show Go _ _ _ _ _ _ _ _ _ _ _ _ h0 (0 + 0) (0 + 0) 7 #[.val (.ref b), .val (.int 0), .val (.int 16), .val (.int (-1 : Int32)), .unset] []
  refine Go.iloadN (pc' := 8) d18_7 rfl rfl ?_
  refine Go.istore (pc' := 10) (Ls' := #[.val (.ref b), .val (.int 0), .val (.int 16), .val (.int (-1 : Int32)), .val (.int 0)]) d18_8 rfl rfl ?_
  refine Go.iload (pc' := 12) d18_10 rfl rfl ?_
  refine Go.iloadN (pc' := 13) d18_12 rfl rfl ?_
  refine Go.icmp (pc1 := 27) (pc2 := 16) d18_13 (by decide) (by decide) rfl (fun (c_60 : (16 : Int) ≤ (0 : Int)) => ?_) (fun (c_60 : (0 : Int) < (16 : Int)) => ?_)
  · exact absurd c_60 (by decide)
  refine Go.aloadN (pc' := 17) d18_16 rfl rfl rfl ?_
  refine Go.iload (pc' := 19) d18_17 rfl rfl ?_
  refine Go.iloadN (pc' := 20) d18_19 rfl rfl ?_
  refine Go.stI (pc' := 21) (k := 0) hA rfl (by show 0 < 16; decide) d18_20 hg rfl ?_
  intro h_61 W_62 A_63
  have t_64 : b < h_61.size := Nat.lt_of_lt_of_le hA.lt (Nat.le_of_eq W_62.size.symm)
  have z_65 : n0 ≤ h_61.size := Nat.le_trans z0 (Nat.le_of_eq W_62.size.symm)
  have b_66 : h0.size ≤ h_61.size := Nat.le_trans (Nat.le_refl _) (Nat.le_of_eq W_62.size.symm)
  have K_67 : Keep h0 h_61 [b] := (Keep.refl _ _).wr W_62 (Or.inl (List.mem_of_getElem? (i := 0) rfl))
  change Ary Z h_61 b .int [(.int (-1 : Int32)), (.int 0), (.int 0), (.int 0), (.int 0), (.int 0), (.int 0), (.int 0), (.int 0), (.int 0), (.int 0), (.int 0), (.int 0), (.int 0), (.int 0), (.int 0)] at A_63
  refine Go.iinc (pc' := 24) (w := (1 : Int32)) (Ls' := #[.val (.ref b), .val (.int 0), .val (.int 16), .val (.int (-1 : Int32)), .val (.int 1)]) d18_21 rfl rfl rfl rfl ?_
  refine Go.goto (pc' := 10) d18_24 (by decide) (by decide) ?_
  refine Go.iload (pc' := 12) d18_10 rfl rfl ?_
  refine Go.iloadN (pc' := 13) d18_12 rfl rfl ?_
  refine Go.icmp (pc1 := 27) (pc2 := 16) d18_13 (by decide) (by decide) rfl (fun (c_68 : (16 : Int) ≤ (1 : Int)) => ?_) (fun (c_68 : (1 : Int) < (16 : Int)) => ?_)
  · exact absurd c_68 (by decide)
  refine Go.aloadN (pc' := 17) d18_16 rfl rfl rfl ?_
  refine Go.iload (pc' := 19) d18_17 rfl rfl ?_
  refine Go.iloadN (pc' := 20) d18_19 rfl rfl ?_
  refine Go.stI (pc' := 21) (k := 1) A_63 rfl (by show 1 < 16; decide) d18_20 hg rfl ?_
  intro h_69 W_70 A_71
  have t_72 : b < h_69.size := Nat.lt_of_lt_of_le t_64 (Nat.le_of_eq W_70.size.symm)
  have z_73 : n0 ≤ h_69.size := Nat.le_trans z_65 (Nat.le_of_eq W_70.size.symm)
  have b_74 : h0.size ≤ h_69.size := Nat.le_trans b_66 (Nat.le_of_eq W_70.size.symm)
  have K_75 : Keep h0 h_69 [b] := K_67.wr W_70 (Or.inl (List.mem_of_getElem? (i := 0) rfl))
  change Ary Z h_69 b .int [(.int (-1 : Int32)), (.int (-1 : Int32)), (.int 0), (.int 0), (.int 0), (.int 0), (.int 0), (.int 0), (.int 0), (.int 0), (.int 0), (.int 0), (.int 0), (.int 0), (.int 0), (.int 0)] at A_71
  refine Go.iinc (pc' := 24) (w := (2 : Int32)) (Ls' := #[.val (.ref b), .val (.int 0), .val (.int 16), .val (.int (-1 : Int32)), .val (.int 2)]) d18_21 rfl rfl rfl rfl ?_
  refine Go.goto (pc' := 10) d18_24 (by decide) (by decide) ?_
  refine Go.iload (pc' := 12) d18_10 rfl rfl ?_
  refine Go.iloadN (pc' := 13) d18_12 rfl rfl ?_
  refine Go.icmp (pc1 := 27) (pc2 := 16) d18_13 (by decide) (by decide) rfl (fun (c_76 : (16 : Int) ≤ (2 : Int)) => ?_) (fun (c_76 : (2 : Int) < (16 : Int)) => ?_)
  · exact absurd c_76 (by decide)
  refine Go.aloadN (pc' := 17) d18_16 rfl rfl rfl ?_
  refine Go.iload (pc' := 19) d18_17 rfl rfl ?_
  refine Go.iloadN (pc' := 20) d18_19 rfl rfl ?_
  refine Go.stI (pc' := 21) (k := 2) A_71 rfl (by show 2 < 16; decide) d18_20 hg rfl ?_
  intro h_77 W_78 A_79
  have t_80 : b < h_77.size := Nat.lt_of_lt_of_le t_72 (Nat.le_of_eq W_78.size.symm)
  have z_81 : n0 ≤ h_77.size := Nat.le_trans z_73 (Nat.le_of_eq W_78.size.symm)
  have b_82 : h0.size ≤ h_77.size := Nat.le_trans b_74 (Nat.le_of_eq W_78.size.symm)
  have K_83 : Keep h0 h_77 [b] := K_75.wr W_78 (Or.inl (List.mem_of_getElem? (i := 0) rfl))
  change Ary Z h_77 b .int [(.int (-1 : Int32)), (.int (-1 : Int32)), (.int (-1 : Int32)), (.int 0), (.int 0), (.int 0), (.int 0), (.int 0), (.int 0), (.int 0), (.int 0), (.int 0), (.int 0), (.int 0), (.int 0), (.int 0)] at A_79
  refine Go.iinc (pc' := 24) (w := (3 : Int32)) (Ls' := #[.val (.ref b), .val (.int 0), .val (.int 16), .val (.int (-1 : Int32)), .val (.int 3)]) d18_21 rfl rfl rfl rfl ?_
  refine Go.goto (pc' := 10) d18_24 (by decide) (by decide) ?_
  refine Go.iload (pc' := 12) d18_10 rfl rfl ?_
  refine Go.iloadN (pc' := 13) d18_12 rfl rfl ?_
  refine Go.icmp (pc1 := 27) (pc2 := 16) d18_13 (by decide) (by decide) rfl (fun (c_84 : (16 : Int) ≤ (3 : Int)) => ?_) (fun (c_84 : (3 : Int) < (16 : Int)) => ?_)
  · exact absurd c_84 (by decide)
  refine Go.aloadN (pc' := 17) d18_16 rfl rfl rfl ?_
  refine Go.iload (pc' := 19) d18_17 rfl rfl ?_
  refine Go.iloadN (pc' := 20) d18_19 rfl rfl ?_
  refine Go.stI (pc' := 21) (k := 3) A_79 rfl (by show 3 < 16; decide) d18_20 hg rfl ?_
  intro h_85 W_86 A_87
  have t_88 : b < h_85.size := Nat.lt_of_lt_of_le t_80 (Nat.le_of_eq W_86.size.symm)
  have z_89 : n0 ≤ h_85.size := Nat.le_trans z_81 (Nat.le_of_eq W_86.size.symm)
  have b_90 : h0.size ≤ h_85.size := Nat.le_trans b_82 (Nat.le_of_eq W_86.size.symm)
  have K_91 : Keep h0 h_85 [b] := K_83.wr W_86 (Or.inl (List.mem_of_getElem? (i := 0) rfl))
  change Ary Z h_85 b .int [(.int (-1 : Int32)), (.int (-1 : Int32)), (.int (-1 : Int32)), (.int (-1 : Int32)), (.int 0), (.int 0), (.int 0), (.int 0), (.int 0), (.int 0), (.int 0), (.int 0), (.int 0), (.int 0), (.int 0), (.int 0)] at A_87
  refine Go.iinc (pc' := 24) (w := (4 : Int32)) (Ls' := #[.val (.ref b), .val (.int 0), .val (.int 16), .val (.int (-1 : Int32)), .val (.int 4)]) d18_21 rfl rfl rfl rfl ?_
  refine Go.goto (pc' := 10) d18_24 (by decide) (by decide) ?_
  refine Go.iload (pc' := 12) d18_10 rfl rfl ?_
  refine Go.iloadN (pc' := 13) d18_12 rfl rfl ?_
  refine Go.icmp (pc1 := 27) (pc2 := 16) d18_13 (by decide) (by decide) rfl (fun (c_92 : (16 : Int) ≤ (4 : Int)) => ?_) (fun (c_92 : (4 : Int) < (16 : Int)) => ?_)
  · exact absurd c_92 (by decide)
  refine Go.aloadN (pc' := 17) d18_16 rfl rfl rfl ?_
  refine Go.iload (pc' := 19) d18_17 rfl rfl ?_
  refine Go.iloadN (pc' := 20) d18_19 rfl rfl ?_
  refine Go.stI (pc' := 21) (k := 4) A_87 rfl (by show 4 < 16; decide) d18_20 hg rfl ?_
  intro h_93 W_94 A_95
  have t_96 : b < h_93.size := Nat.lt_of_lt_of_le t_88 (Nat.le_of_eq W_94.size.symm)
  have z_97 : n0 ≤ h_93.size := Nat.le_trans z_89 (Nat.le_of_eq W_94.size.symm)
  have b_98 : h0.size ≤ h_93.size := Nat.le_trans b_90 (Nat.le_of_eq W_94.size.symm)
  have K_99 : Keep h0 h_93 [b] := K_91.wr W_94 (Or.inl (List.mem_of_getElem? (i := 0) rfl))
  change Ary Z h_93 b .int [(.int (-1 : Int32)), (.int (-1 : Int32)), (.int (-1 : Int32)), (.int (-1 : Int32)), (.int (-1 : Int32)), (.int 0), (.int 0), (.int 0), (.int 0), (.int 0), (.int 0), (.int 0), (.int 0), (.int 0), (.int 0), (.int 0)] at A_95
  refine Go.iinc (pc' := 24) (w := (5 : Int32)) (Ls' := #[.val (.ref b), .val (.int 0), .val (.int 16), .val (.int (-1 : Int32)), .val (.int 5)]) d18_21 rfl rfl rfl rfl ?_
  refine Go.goto (pc' := 10) d18_24 (by decide) (by decide) ?_
  refine Go.iload (pc' := 12) d18_10 rfl rfl ?_
  refine Go.iloadN (pc' := 13) d18_12 rfl rfl ?_
  refine Go.icmp (pc1 := 27) (pc2 := 16) d18_13 (by decide) (by decide) rfl (fun (c_100 : (16 : Int) ≤ (5 : Int)) => ?_) (fun (c_100 : (5 : Int) < (16 : Int)) => ?_)
  · exact absurd c_100 (by decide)
  refine Go.aloadN (pc' := 17) d18_16 rfl rfl rfl ?_
  refine Go.iload (pc' := 19) d18_17 rfl rfl ?_
  refine Go.iloadN (pc' := 20) d18_19 rfl rfl ?_
  refine Go.stI (pc' := 21) (k := 5) A_95 rfl (by show 5 < 16; decide) d18_20 hg rfl ?_
  intro h_101 W_102 A_103
  have t_104 : b < h_101.size := Nat.lt_of_lt_of_le t_96 (Nat.le_of_eq W_102.size.symm)
  have z_105 : n0 ≤ h_101.size := Nat.le_trans z_97 (Nat.le_of_eq W_102.size.symm)
  have b_106 : h0.size ≤ h_101.size := Nat.le_trans b_98 (Nat.le_of_eq W_102.size.symm)
  have K_107 : Keep h0 h_101 [b] := K_99.wr W_102 (Or.inl (List.mem_of_getElem? (i := 0) rfl))
  change Ary Z h_101 b .int [(.int (-1 : Int32)), (.int (-1 : Int32)), (.int (-1 : Int32)), (.int (-1 : Int32)), (.int (-1 : Int32)), (.int (-1 : Int32)), (.int 0), (.int 0), (.int 0), (.int 0), (.int 0), (.int 0), (.int 0), (.int 0), (.int 0), (.int 0)] at A_103
  refine Go.iinc (pc' := 24) (w := (6 : Int32)) (Ls' := #[.val (.ref b), .val (.int 0), .val (.int 16), .val (.int (-1 : Int32)), .val (.int 6)]) d18_21 rfl rfl rfl rfl ?_
  refine Go.goto (pc' := 10) d18_24 (by decide) (by decide) ?_
  refine Go.iload (pc' := 12) d18_10 rfl rfl ?_
  refine Go.iloadN (pc' := 13) d18_12 rfl rfl ?_
  refine Go.icmp (pc1 := 27) (pc2 := 16) d18_13 (by decide) (by decide) rfl (fun (c_108 : (16 : Int) ≤ (6 : Int)) => ?_) (fun (c_108 : (6 : Int) < (16 : Int)) => ?_)
  · exact absurd c_108 (by decide)
  refine Go.aloadN (pc' := 17) d18_16 rfl rfl rfl ?_
  refine Go.iload (pc' := 19) d18_17 rfl rfl ?_
  refine Go.iloadN (pc' := 20) d18_19 rfl rfl ?_
  refine Go.stI (pc' := 21) (k := 6) A_103 rfl (by show 6 < 16; decide) d18_20 hg rfl ?_
  intro h_109 W_110 A_111
  have t_112 : b < h_109.size := Nat.lt_of_lt_of_le t_104 (Nat.le_of_eq W_110.size.symm)
  have z_113 : n0 ≤ h_109.size := Nat.le_trans z_105 (Nat.le_of_eq W_110.size.symm)
  have b_114 : h0.size ≤ h_109.size := Nat.le_trans b_106 (Nat.le_of_eq W_110.size.symm)
  have K_115 : Keep h0 h_109 [b] := K_107.wr W_110 (Or.inl (List.mem_of_getElem? (i := 0) rfl))
  change Ary Z h_109 b .int [(.int (-1 : Int32)), (.int (-1 : Int32)), (.int (-1 : Int32)), (.int (-1 : Int32)), (.int (-1 : Int32)), (.int (-1 : Int32)), (.int (-1 : Int32)), (.int 0), (.int 0), (.int 0), (.int 0), (.int 0), (.int 0), (.int 0), (.int 0), (.int 0)] at A_111
  refine Go.iinc (pc' := 24) (w := (7 : Int32)) (Ls' := #[.val (.ref b), .val (.int 0), .val (.int 16), .val (.int (-1 : Int32)), .val (.int 7)]) d18_21 rfl rfl rfl rfl ?_
  refine Go.goto (pc' := 10) d18_24 (by decide) (by decide) ?_
  refine Go.iload (pc' := 12) d18_10 rfl rfl ?_
  refine Go.iloadN (pc' := 13) d18_12 rfl rfl ?_
  refine Go.icmp (pc1 := 27) (pc2 := 16) d18_13 (by decide) (by decide) rfl (fun (c_116 : (16 : Int) ≤ (7 : Int)) => ?_) (fun (c_116 : (7 : Int) < (16 : Int)) => ?_)
  · exact absurd c_116 (by decide)
  refine Go.aloadN (pc' := 17) d18_16 rfl rfl rfl ?_
  refine Go.iload (pc' := 19) d18_17 rfl rfl ?_
  refine Go.iloadN (pc' := 20) d18_19 rfl rfl ?_
  refine Go.stI (pc' := 21) (k := 7) A_111 rfl (by show 7 < 16; decide) d18_20 hg rfl ?_
  intro h_117 W_118 A_119
  have t_120 : b < h_117.size := Nat.lt_of_lt_of_le t_112 (Nat.le_of_eq W_118.size.symm)
  have z_121 : n0 ≤ h_117.size := Nat.le_trans z_113 (Nat.le_of_eq W_118.size.symm)
  have b_122 : h0.size ≤ h_117.size := Nat.le_trans b_114 (Nat.le_of_eq W_118.size.symm)
  have K_123 : Keep h0 h_117 [b] := K_115.wr W_118 (Or.inl (List.mem_of_getElem? (i := 0) rfl))
  change Ary Z h_117 b .int [(.int (-1 : Int32)), (.int (-1 : Int32)), (.int (-1 : Int32)), (.int (-1 : Int32)), (.int (-1 : Int32)), (.int (-1 : Int32)), (.int (-1 : Int32)), (.int (-1 : Int32)), (.int 0), (.int 0), (.int 0), (.int 0), (.int 0), (.int 0), (.int 0), (.int 0)] at A_119
  refine Go.iinc (pc' := 24) (w := (8 : Int32)) (Ls' := #[.val (.ref b), .val (.int 0), .val (.int 16), .val (.int (-1 : Int32)), .val (.int 8)]) d18_21 rfl rfl rfl rfl ?_
  refine Go.goto (pc' := 10) d18_24 (by decide) (by decide) ?_
  refine Go.iload (pc' := 12) d18_10 rfl rfl ?_
  refine Go.iloadN (pc' := 13) d18_12 rfl rfl ?_
  refine Go.icmp (pc1 := 27) (pc2 := 16) d18_13 (by decide) (by decide) rfl (fun (c_124 : (16 : Int) ≤ (8 : Int)) => ?_) (fun (c_124 : (8 : Int) < (16 : Int)) => ?_)
  · exact absurd c_124 (by decide)
  refine Go.aloadN (pc' := 17) d18_16 rfl rfl rfl ?_
  refine Go.iload (pc' := 19) d18_17 rfl rfl ?_
  refine Go.iloadN (pc' := 20) d18_19 rfl rfl ?_
  refine Go.stI (pc' := 21) (k := 8) A_119 rfl (by show 8 < 16; decide) d18_20 hg rfl ?_
  intro h_125 W_126 A_127
  have t_128 : b < h_125.size := Nat.lt_of_lt_of_le t_120 (Nat.le_of_eq W_126.size.symm)
  have z_129 : n0 ≤ h_125.size := Nat.le_trans z_121 (Nat.le_of_eq W_126.size.symm)
  have b_130 : h0.size ≤ h_125.size := Nat.le_trans b_122 (Nat.le_of_eq W_126.size.symm)
  have K_131 : Keep h0 h_125 [b] := K_123.wr W_126 (Or.inl (List.mem_of_getElem? (i := 0) rfl))
  change Ary Z h_125 b .int [(.int (-1 : Int32)), (.int (-1 : Int32)), (.int (-1 : Int32)), (.int (-1 : Int32)), (.int (-1 : Int32)), (.int (-1 : Int32)), (.int (-1 : Int32)), (.int (-1 : Int32)), (.int (-1 : Int32)), (.int 0), (.int 0), (.int 0), (.int 0), (.int 0), (.int 0), (.int 0)] at A_127
  refine Go.iinc (pc' := 24) (w := (9 : Int32)) (Ls' := #[.val (.ref b), .val (.int 0), .val (.int 16), .val (.int (-1 : Int32)), .val (.int 9)]) d18_21 rfl rfl rfl rfl ?_
  refine Go.goto (pc' := 10) d18_24 (by decide) (by decide) ?_
  refine Go.iload (pc' := 12) d18_10 rfl rfl ?_
  refine Go.iloadN (pc' := 13) d18_12 rfl rfl ?_
  refine Go.icmp (pc1 := 27) (pc2 := 16) d18_13 (by decide) (by decide) rfl (fun (c_132 : (16 : Int) ≤ (9 : Int)) => ?_) (fun (c_132 : (9 : Int) < (16 : Int)) => ?_)
  · exact absurd c_132 (by decide)
  refine Go.aloadN (pc' := 17) d18_16 rfl rfl rfl ?_
  refine Go.iload (pc' := 19) d18_17 rfl rfl ?_
  refine Go.iloadN (pc' := 20) d18_19 rfl rfl ?_
  refine Go.stI (pc' := 21) (k := 9) A_127 rfl (by show 9 < 16; decide) d18_20 hg rfl ?_
  intro h_133 W_134 A_135
  have t_136 : b < h_133.size := Nat.lt_of_lt_of_le t_128 (Nat.le_of_eq W_134.size.symm)
  have z_137 : n0 ≤ h_133.size := Nat.le_trans z_129 (Nat.le_of_eq W_134.size.symm)
  have b_138 : h0.size ≤ h_133.size := Nat.le_trans b_130 (Nat.le_of_eq W_134.size.symm)
  have K_139 : Keep h0 h_133 [b] := K_131.wr W_134 (Or.inl (List.mem_of_getElem? (i := 0) rfl))
  change Ary Z h_133 b .int [(.int (-1 : Int32)), (.int (-1 : Int32)), (.int (-1 : Int32)), (.int (-1 : Int32)), (.int (-1 : Int32)), (.int (-1 : Int32)), (.int (-1 : Int32)), (.int (-1 : Int32)), (.int (-1 : Int32)), (.int (-1 : Int32)), (.int 0), (.int 0), (.int 0), (.int 0), (.int 0), (.int 0)] at A_135
  refine Go.iinc (pc' := 24) (w := (10 : Int32)) (Ls' := #[.val (.ref b), .val (.int 0), .val (.int 16), .val (.int (-1 : Int32)), .val (.int 10)]) d18_21 rfl rfl rfl rfl ?_
  refine Go.goto (pc' := 10) d18_24 (by decide) (by decide) ?_
  refine Go.iload (pc' := 12) d18_10 rfl rfl ?_
  refine Go.iloadN (pc' := 13) d18_12 rfl rfl ?_
  refine Go.icmp (pc1 := 27) (pc2 := 16) d18_13 (by decide) (by decide) rfl (fun (c_140 : (16 : Int) ≤ (10 : Int)) => ?_) (fun (c_140 : (10 : Int) < (16 : Int)) => ?_)
  · exact absurd c_140 (by decide)
  refine Go.aloadN (pc' := 17) d18_16 rfl rfl rfl ?_
  refine Go.iload (pc' := 19) d18_17 rfl rfl ?_
  refine Go.iloadN (pc' := 20) d18_19 rfl rfl ?_
  refine Go.stI (pc' := 21) (k := 10) A_135 rfl (by show 10 < 16; decide) d18_20 hg rfl ?_
  intro h_141 W_142 A_143
  have t_144 : b < h_141.size := Nat.lt_of_lt_of_le t_136 (Nat.le_of_eq W_142.size.symm)
  have z_145 : n0 ≤ h_141.size := Nat.le_trans z_137 (Nat.le_of_eq W_142.size.symm)
  have b_146 : h0.size ≤ h_141.size := Nat.le_trans b_138 (Nat.le_of_eq W_142.size.symm)
  have K_147 : Keep h0 h_141 [b] := K_139.wr W_142 (Or.inl (List.mem_of_getElem? (i := 0) rfl))
  change Ary Z h_141 b .int [(.int (-1 : Int32)), (.int (-1 : Int32)), (.int (-1 : Int32)), (.int (-1 : Int32)), (.int (-1 : Int32)), (.int (-1 : Int32)), (.int (-1 : Int32)), (.int (-1 : Int32)), (.int (-1 : Int32)), (.int (-1 : Int32)), (.int (-1 : Int32)), (.int 0), (.int 0), (.int 0), (.int 0), (.int 0)] at A_143
  refine Go.iinc (pc' := 24) (w := (11 : Int32)) (Ls' := #[.val (.ref b), .val (.int 0), .val (.int 16), .val (.int (-1 : Int32)), .val (.int 11)]) d18_21 rfl rfl rfl rfl ?_
  refine Go.goto (pc' := 10) d18_24 (by decide) (by decide) ?_
  refine Go.iload (pc' := 12) d18_10 rfl rfl ?_
  refine Go.iloadN (pc' := 13) d18_12 rfl rfl ?_
  refine Go.icmp (pc1 := 27) (pc2 := 16) d18_13 (by decide) (by decide) rfl (fun (c_148 : (16 : Int) ≤ (11 : Int)) => ?_) (fun (c_148 : (11 : Int) < (16 : Int)) => ?_)
  · exact absurd c_148 (by decide)
  refine Go.aloadN (pc' := 17) d18_16 rfl rfl rfl ?_
  refine Go.iload (pc' := 19) d18_17 rfl rfl ?_
  refine Go.iloadN (pc' := 20) d18_19 rfl rfl ?_
  refine Go.stI (pc' := 21) (k := 11) A_143 rfl (by show 11 < 16; decide) d18_20 hg rfl ?_
  intro h_149 W_150 A_151
  have t_152 : b < h_149.size := Nat.lt_of_lt_of_le t_144 (Nat.le_of_eq W_150.size.symm)
  have z_153 : n0 ≤ h_149.size := Nat.le_trans z_145 (Nat.le_of_eq W_150.size.symm)
  have b_154 : h0.size ≤ h_149.size := Nat.le_trans b_146 (Nat.le_of_eq W_150.size.symm)
  have K_155 : Keep h0 h_149 [b] := K_147.wr W_150 (Or.inl (List.mem_of_getElem? (i := 0) rfl))
  change Ary Z h_149 b .int [(.int (-1 : Int32)), (.int (-1 : Int32)), (.int (-1 : Int32)), (.int (-1 : Int32)), (.int (-1 : Int32)), (.int (-1 : Int32)), (.int (-1 : Int32)), (.int (-1 : Int32)), (.int (-1 : Int32)), (.int (-1 : Int32)), (.int (-1 : Int32)), (.int (-1 : Int32)), (.int 0), (.int 0), (.int 0), (.int 0)] at A_151
  refine Go.iinc (pc' := 24) (w := (12 : Int32)) (Ls' := #[.val (.ref b), .val (.int 0), .val (.int 16), .val (.int (-1 : Int32)), .val (.int 12)]) d18_21 rfl rfl rfl rfl ?_
  refine Go.goto (pc' := 10) d18_24 (by decide) (by decide) ?_
  refine Go.iload (pc' := 12) d18_10 rfl rfl ?_
  refine Go.iloadN (pc' := 13) d18_12 rfl rfl ?_
  refine Go.icmp (pc1 := 27) (pc2 := 16) d18_13 (by decide) (by decide) rfl (fun (c_156 : (16 : Int) ≤ (12 : Int)) => ?_) (fun (c_156 : (12 : Int) < (16 : Int)) => ?_)
  · exact absurd c_156 (by decide)
  refine Go.aloadN (pc' := 17) d18_16 rfl rfl rfl ?_
  refine Go.iload (pc' := 19) d18_17 rfl rfl ?_
  refine Go.iloadN (pc' := 20) d18_19 rfl rfl ?_
  refine Go.stI (pc' := 21) (k := 12) A_151 rfl (by show 12 < 16; decide) d18_20 hg rfl ?_
  intro h_157 W_158 A_159
  have t_160 : b < h_157.size := Nat.lt_of_lt_of_le t_152 (Nat.le_of_eq W_158.size.symm)
  have z_161 : n0 ≤ h_157.size := Nat.le_trans z_153 (Nat.le_of_eq W_158.size.symm)
  have b_162 : h0.size ≤ h_157.size := Nat.le_trans b_154 (Nat.le_of_eq W_158.size.symm)
  have K_163 : Keep h0 h_157 [b] := K_155.wr W_158 (Or.inl (List.mem_of_getElem? (i := 0) rfl))
  change Ary Z h_157 b .int [(.int (-1 : Int32)), (.int (-1 : Int32)), (.int (-1 : Int32)), (.int (-1 : Int32)), (.int (-1 : Int32)), (.int (-1 : Int32)), (.int (-1 : Int32)), (.int (-1 : Int32)), (.int (-1 : Int32)), (.int (-1 : Int32)), (.int (-1 : Int32)), (.int (-1 : Int32)), (.int (-1 : Int32)), (.int 0), (.int 0), (.int 0)] at A_159
  refine Go.iinc (pc' := 24) (w := (13 : Int32)) (Ls' := #[.val (.ref b), .val (.int 0), .val (.int 16), .val (.int (-1 : Int32)), .val (.int 13)]) d18_21 rfl rfl rfl rfl ?_
  refine Go.goto (pc' := 10) d18_24 (by decide) (by decide) ?_
  refine Go.iload (pc' := 12) d18_10 rfl rfl ?_
  refine Go.iloadN (pc' := 13) d18_12 rfl rfl ?_
  refine Go.icmp (pc1 := 27) (pc2 := 16) d18_13 (by decide) (by decide) rfl (fun (c_164 : (16 : Int) ≤ (13 : Int)) => ?_) (fun (c_164 : (13 : Int) < (16 : Int)) => ?_)
  · exact absurd c_164 (by decide)
  refine Go.aloadN (pc' := 17) d18_16 rfl rfl rfl ?_
  refine Go.iload (pc' := 19) d18_17 rfl rfl ?_
  refine Go.iloadN (pc' := 20) d18_19 rfl rfl ?_
  refine Go.stI (pc' := 21) (k := 13) A_159 rfl (by show 13 < 16; decide) d18_20 hg rfl ?_
  intro h_165 W_166 A_167
  have t_168 : b < h_165.size := Nat.lt_of_lt_of_le t_160 (Nat.le_of_eq W_166.size.symm)
  have z_169 : n0 ≤ h_165.size := Nat.le_trans z_161 (Nat.le_of_eq W_166.size.symm)
  have b_170 : h0.size ≤ h_165.size := Nat.le_trans b_162 (Nat.le_of_eq W_166.size.symm)
  have K_171 : Keep h0 h_165 [b] := K_163.wr W_166 (Or.inl (List.mem_of_getElem? (i := 0) rfl))
  change Ary Z h_165 b .int [(.int (-1 : Int32)), (.int (-1 : Int32)), (.int (-1 : Int32)), (.int (-1 : Int32)), (.int (-1 : Int32)), (.int (-1 : Int32)), (.int (-1 : Int32)), (.int (-1 : Int32)), (.int (-1 : Int32)), (.int (-1 : Int32)), (.int (-1 : Int32)), (.int (-1 : Int32)), (.int (-1 : Int32)), (.int (-1 : Int32)), (.int 0), (.int 0)] at A_167
  refine Go.iinc (pc' := 24) (w := (14 : Int32)) (Ls' := #[.val (.ref b), .val (.int 0), .val (.int 16), .val (.int (-1 : Int32)), .val (.int 14)]) d18_21 rfl rfl rfl rfl ?_
  refine Go.goto (pc' := 10) d18_24 (by decide) (by decide) ?_
  refine Go.iload (pc' := 12) d18_10 rfl rfl ?_
  refine Go.iloadN (pc' := 13) d18_12 rfl rfl ?_
  refine Go.icmp (pc1 := 27) (pc2 := 16) d18_13 (by decide) (by decide) rfl (fun (c_172 : (16 : Int) ≤ (14 : Int)) => ?_) (fun (c_172 : (14 : Int) < (16 : Int)) => ?_)
  · exact absurd c_172 (by decide)
  refine Go.aloadN (pc' := 17) d18_16 rfl rfl rfl ?_
  refine Go.iload (pc' := 19) d18_17 rfl rfl ?_
  refine Go.iloadN (pc' := 20) d18_19 rfl rfl ?_
  refine Go.stI (pc' := 21) (k := 14) A_167 rfl (by show 14 < 16; decide) d18_20 hg rfl ?_
  intro h_173 W_174 A_175
  have t_176 : b < h_173.size := Nat.lt_of_lt_of_le t_168 (Nat.le_of_eq W_174.size.symm)
  have z_177 : n0 ≤ h_173.size := Nat.le_trans z_169 (Nat.le_of_eq W_174.size.symm)
  have b_178 : h0.size ≤ h_173.size := Nat.le_trans b_170 (Nat.le_of_eq W_174.size.symm)
  have K_179 : Keep h0 h_173 [b] := K_171.wr W_174 (Or.inl (List.mem_of_getElem? (i := 0) rfl))
  change Ary Z h_173 b .int [(.int (-1 : Int32)), (.int (-1 : Int32)), (.int (-1 : Int32)), (.int (-1 : Int32)), (.int (-1 : Int32)), (.int (-1 : Int32)), (.int (-1 : Int32)), (.int (-1 : Int32)), (.int (-1 : Int32)), (.int (-1 : Int32)), (.int (-1 : Int32)), (.int (-1 : Int32)), (.int (-1 : Int32)), (.int (-1 : Int32)), (.int (-1 : Int32)), (.int 0)] at A_175
  refine Go.iinc (pc' := 24) (w := (15 : Int32)) (Ls' := #[.val (.ref b), .val (.int 0), .val (.int 16), .val (.int (-1 : Int32)), .val (.int 15)]) d18_21 rfl rfl rfl rfl ?_
  refine Go.goto (pc' := 10) d18_24 (by decide) (by decide) ?_
  refine Go.iload (pc' := 12) d18_10 rfl rfl ?_
  refine Go.iloadN (pc' := 13) d18_12 rfl rfl ?_
  refine Go.icmp (pc1 := 27) (pc2 := 16) d18_13 (by decide) (by decide) rfl (fun (c_180 : (16 : Int) ≤ (15 : Int)) => ?_) (fun (c_180 : (15 : Int) < (16 : Int)) => ?_)
  · exact absurd c_180 (by decide)
  refine Go.aloadN (pc' := 17) d18_16 rfl rfl rfl ?_
  refine Go.iload (pc' := 19) d18_17 rfl rfl ?_
  refine Go.iloadN (pc' := 20) d18_19 rfl rfl ?_
  refine Go.stI (pc' := 21) (k := 15) A_175 rfl (by show 15 < 16; decide) d18_20 hg rfl ?_
  intro h_181 W_182 A_183
  have t_184 : b < h_181.size := Nat.lt_of_lt_of_le t_176 (Nat.le_of_eq W_182.size.symm)
  have z_185 : n0 ≤ h_181.size := Nat.le_trans z_177 (Nat.le_of_eq W_182.size.symm)
  have b_186 : h0.size ≤ h_181.size := Nat.le_trans b_178 (Nat.le_of_eq W_182.size.symm)
  have K_187 : Keep h0 h_181 [b] := K_179.wr W_182 (Or.inl (List.mem_of_getElem? (i := 0) rfl))
  change Ary Z h_181 b .int [(.int (-1 : Int32)), (.int (-1 : Int32)), (.int (-1 : Int32)), (.int (-1 : Int32)), (.int (-1 : Int32)), (.int (-1 : Int32)), (.int (-1 : Int32)), (.int (-1 : Int32)), (.int (-1 : Int32)), (.int (-1 : Int32)), (.int (-1 : Int32)), (.int (-1 : Int32)), (.int (-1 : Int32)), (.int (-1 : Int32)), (.int (-1 : Int32)), (.int (-1 : Int32))] at A_183
  refine Go.iinc (pc' := 24) (w := (16 : Int32)) (Ls' := #[.val (.ref b), .val (.int 0), .val (.int 16), .val (.int (-1 : Int32)), .val (.int 16)]) d18_21 rfl rfl rfl rfl ?_
  refine Go.goto (pc' := 10) d18_24 (by decide) (by decide) ?_
  refine Go.iload (pc' := 12) d18_10 rfl rfl ?_
  refine Go.iloadN (pc' := 13) d18_12 rfl rfl ?_
  refine Go.icmp (pc1 := 27) (pc2 := 16) d18_13 (by decide) (by decide) rfl (fun (c_188 : (16 : Int) ≤ (16 : Int)) => ?_) (fun (c_188 : (16 : Int) < (16 : Int)) => ?_)
  rotate_left
  · exact absurd c_188 (by decide)
  exact Go.ret0 d18_27 rfl ⟨rfl, K_187, A_183⟩ (by decide) (by decide)
set_option maxRecDepth 65536 in
set_option maxHeartbeats 40000000 in
theorem m_init (l : Launch) (Z : State) (a0 : Array Value) (hw : ∀ d ∈ tables_1, d.before a0 Z = true) (a : Addr) (h0 : Heap) (n0 : Nat) (z0 : n0 ≤ h0.size) (hE : Exa Z h0 a "com/example/nearword/nearword/internal/index/IntRuns") (hF0 : Fld Z h0 a "com/example/nearword/nearword/internal/index/IntRuns" "at" "[I" .null) (hF1 : Fld Z h0 a "com/example/nearword/nearword/internal/index/IntRuns" "pool" "[I" .null) (hF2 : Fld Z h0 a "com/example/nearword/nearword/internal/index/IntRuns" "mostInts" "I" (.int 0)) (hF3 : Fld Z h0 a "com/example/nearword/nearword/internal/index/IntRuns" "keys" "I" (.int 0)) (hF4 : Fld Z h0 a "com/example/nearword/nearword/internal/index/IntRuns" "poolLeft" "I" (.int 0)) (hF5 : Fld Z h0 a "com/example/nearword/nearword/internal/index/IntRuns" "poolSize" "I" (.int 0)) (hF6 : Fld Z h0 a "com/example/nearword/nearword/internal/index/IntRuns" "keysToCome" "I" (.int 0)) (hg : n0 ≤ a) : Mt false l Z (⟨"com/example/nearword/nearword/internal/index/IntRuns", "<init>", "(I)V"⟩ : MethodName) prog_42_method_2_code 2 none ({ frames := 1, cells := 2, slots := 0, locals := 12 } : Room) n0 (fun v h => v = none ∧ ∃ e p, Keep h0 h [a] ∧ Fld Z h a "com/example/nearword/nearword/internal/index/IntRuns" "at" "[I" (.ref e) ∧ Fld Z h a "com/example/nearword/nearword/internal/index/IntRuns" "pool" "[I" (.ref p) ∧ Fld Z h a "com/example/nearword/nearword/internal/index/IntRuns" "mostInts" "I" (.int 1048576) ∧ Fld Z h a "com/example/nearword/nearword/internal/index/IntRuns" "keys" "I" (.int 0) ∧ Fld Z h a "com/example/nearword/nearword/internal/index/IntRuns" "poolLeft" "I" (.int 0) ∧ Fld Z h a "com/example/nearword/nearword/internal/index/IntRuns" "poolSize" "I" (.int 0) ∧ Fld Z h a "com/example/nearword/nearword/internal/index/IntRuns" "keysToCome" "I" (.int 0) ∧ Ary Z h e .int [] ∧ Ary Z h p .int [] ∧ h0.size ≤ e ∧ e < h.size ∧ h0.size ≤ p ∧ p < h.size ∧ e ≠ p) h0 #[(.ref a), (.int 1048576)] := by
  refine Mt.go (Ls := #[.val (.ref a), .val (.int 1048576)]) (plainFor_of_name pn1) (fun m => by first | (simp [entryFrame, mkF, argsToLocals, Value.category]; done) | rfl) ?_
  show Go _ _ _ _ _ _ _ _ _ _ _ _ h0 0 0 0 #[.val (.ref a), .val (.int 1048576)] []
  refine Go.aloadN (pc' := 1) d4_0 rfl rfl rfl ?_
  refine Go.initO (pc' := 4) (W := 0) (own_w hw 21 rfl) (own_w hw 22 rfl) (own_w hw 23 rfl) d4_1 rfl (by decide) (Nat.le_of_eq rfl) (by decide) rfl ?_
  refine Go.aloadN (pc' := 5) d4_4 rfl rfl rfl ?_
  refine Go.iconst (pc' := 6) (v := (0 : Int32)) d4_5 rfl rfl ?_
  refine Go.newA (pc' := 8) (k := 0) (ty := .int) (cap := 0) (own_w hw 6 rfl) rfl rfl (by decide) (by decide) d4_6 (by decide) (by decide) rfl ?_
  intro h_189 a_190 q_191 E_192 A_193
  have n_195 : a ≠ a_190 := Nat.ne_of_lt (q_191 ▸ hE.lt)
  have g_196 : n0 ≤ a_190 := q_191 ▸ z0
  have g_197 : h0.size ≤ a_190 := q_191 ▸ (Nat.le_refl _)
  have f_198 : Exa Z h_189 a "com/example/nearword/nearword/internal/index/IntRuns" := hE.sm (Sm.ext E_192)
  have f_199 : Fld Z h_189 a "com/example/nearword/nearword/internal/index/IntRuns" "at" "[I" .null := hF0.sm (Sm.ext E_192)
  have f_200 : Fld Z h_189 a "com/example/nearword/nearword/internal/index/IntRuns" "pool" "[I" .null := hF1.sm (Sm.ext E_192)
  have f_201 : Fld Z h_189 a "com/example/nearword/nearword/internal/index/IntRuns" "mostInts" "I" (.int 0) := hF2.sm (Sm.ext E_192)
  have f_202 : Fld Z h_189 a "com/example/nearword/nearword/internal/index/IntRuns" "keys" "I" (.int 0) := hF3.sm (Sm.ext E_192)
  have f_203 : Fld Z h_189 a "com/example/nearword/nearword/internal/index/IntRuns" "poolLeft" "I" (.int 0) := hF4.sm (Sm.ext E_192)
  have f_204 : Fld Z h_189 a "com/example/nearword/nearword/internal/index/IntRuns" "poolSize" "I" (.int 0) := hF5.sm (Sm.ext E_192)
  have f_205 : Fld Z h_189 a "com/example/nearword/nearword/internal/index/IntRuns" "keysToCome" "I" (.int 0) := hF6.sm (Sm.ext E_192)
  have t_206 : a < h_189.size := Nat.lt_of_lt_of_le hE.lt E_192.1
  have z_207 : n0 ≤ h_189.size := Nat.le_trans z0 E_192.1
  have b_208 : h0.size ≤ h_189.size := Nat.le_trans (Nat.le_refl _) E_192.1
  have K_209 : Keep h0 h_189 [a] := (Keep.refl _ _).ext E_192
  have t_210 : a_190 < h_189.size := A_193.lt
  change Ary Z h_189 a_190 .int [] at A_193
  refine Go.putF (pc' := 11) (ty := (.array .int)) (own_w hw 24 rfl) f_199 f_198 (Or.inl (own_w hw 25 rfl)) (own_w hw 15 rfl) (by decide) rfl rfl d4_8 hg rfl ?_
  intro h_211 W_212
  have f_213 : Exa Z h_211 a "com/example/nearword/nearword/internal/index/IntRuns" := Exa.wr W_212 f_198
  have f_214 : Ary Z h_211 a_190 .int [] := A_193.sm (Sm.wr W_212 n_195.symm)
  have t_215 : a < h_211.size := Nat.lt_of_lt_of_le t_206 (Nat.le_of_eq W_212.size.symm)
  have t_216 : a_190 < h_211.size := Nat.lt_of_lt_of_le t_210 (Nat.le_of_eq W_212.size.symm)
  have z_217 : n0 ≤ h_211.size := Nat.le_trans z_207 (Nat.le_of_eq W_212.size.symm)
  have b_218 : h0.size ≤ h_211.size := Nat.le_trans b_208 (Nat.le_of_eq W_212.size.symm)
  have K_219 : Keep h0 h_211 [a] := K_209.wr W_212 (Or.inl (List.mem_of_getElem? (i := 0) rfl))
  have f_220 : Fld Z h_211 a "com/example/nearword/nearword/internal/index/IntRuns" "at" "[I" (.ref a_190) := Fld.same W_212 f_199
  have f_221 : Fld Z h_211 a "com/example/nearword/nearword/internal/index/IntRuns" "pool" "[I" .null := Fld.other W_212 f_200 (Or.inr (slot_ne (Or.inl (own_w hw 27 rfl)) (Or.inl (own_w hw 25 rfl)) (by decide) (t := (.array .int)) (t' := (.array .int)) (by decide) (by decide)))
  have f_222 : Fld Z h_211 a "com/example/nearword/nearword/internal/index/IntRuns" "mostInts" "I" (.int 0) := Fld.other W_212 f_201 (Or.inr (slot_ne (Or.inr (own_w hw 29 rfl)) (Or.inl (own_w hw 25 rfl)) (by decide) (t := .int) (t' := (.array .int)) (by decide) (by decide)))
  have f_223 : Fld Z h_211 a "com/example/nearword/nearword/internal/index/IntRuns" "keys" "I" (.int 0) := Fld.other W_212 f_202 (Or.inr (slot_ne (Or.inl (own_w hw 95 rfl)) (Or.inl (own_w hw 25 rfl)) (by decide) (t := .int) (t' := (.array .int)) (by decide) (by decide)))
  have f_224 : Fld Z h_211 a "com/example/nearword/nearword/internal/index/IntRuns" "poolLeft" "I" (.int 0) := Fld.other W_212 f_203 (Or.inr (slot_ne (Or.inl (own_w hw 106 rfl)) (Or.inl (own_w hw 25 rfl)) (by decide) (t := .int) (t' := (.array .int)) (by decide) (by decide)))
  have f_225 : Fld Z h_211 a "com/example/nearword/nearword/internal/index/IntRuns" "poolSize" "I" (.int 0) := Fld.other W_212 f_204 (Or.inr (slot_ne (Or.inl (own_w hw 108 rfl)) (Or.inl (own_w hw 25 rfl)) (by decide) (t := .int) (t' := (.array .int)) (by decide) (by decide)))
  have f_226 : Fld Z h_211 a "com/example/nearword/nearword/internal/index/IntRuns" "keysToCome" "I" (.int 0) := Fld.other W_212 f_205 (Or.inr (slot_ne (Or.inl (own_w hw 123 rfl)) (Or.inl (own_w hw 25 rfl)) (by decide) (t := .int) (t' := (.array .int)) (by decide) (by decide)))
  refine Go.aloadN (pc' := 12) d4_11 rfl rfl rfl ?_
  refine Go.iconst (pc' := 13) (v := (0 : Int32)) d4_12 rfl rfl ?_
  refine Go.newA (pc' := 15) (k := 0) (ty := .int) (cap := 0) (own_w hw 6 rfl) rfl rfl (by decide) (by decide) d4_13 (by decide) (by decide) rfl ?_
  intro h_227 a_228 q_229 E_230 A_231
  have n_233 : a ≠ a_228 := Nat.ne_of_lt (q_229 ▸ t_215)
  have n_234 : a_190 ≠ a_228 := Nat.ne_of_lt (q_229 ▸ t_216)
  have g_235 : n0 ≤ a_228 := q_229 ▸ z_217
  have g_236 : h0.size ≤ a_228 := q_229 ▸ b_218
  have f_237 : Exa Z h_227 a "com/example/nearword/nearword/internal/index/IntRuns" := f_213.sm (Sm.ext E_230)
  have f_238 : Ary Z h_227 a_190 .int [] := f_214.sm (Sm.ext E_230)
  have f_239 : Fld Z h_227 a "com/example/nearword/nearword/internal/index/IntRuns" "at" "[I" (.ref a_190) := f_220.sm (Sm.ext E_230)
  have f_240 : Fld Z h_227 a "com/example/nearword/nearword/internal/index/IntRuns" "pool" "[I" .null := f_221.sm (Sm.ext E_230)
  have f_241 : Fld Z h_227 a "com/example/nearword/nearword/internal/index/IntRuns" "mostInts" "I" (.int 0) := f_222.sm (Sm.ext E_230)
  have f_242 : Fld Z h_227 a "com/example/nearword/nearword/internal/index/IntRuns" "keys" "I" (.int 0) := f_223.sm (Sm.ext E_230)
  have f_243 : Fld Z h_227 a "com/example/nearword/nearword/internal/index/IntRuns" "poolLeft" "I" (.int 0) := f_224.sm (Sm.ext E_230)
  have f_244 : Fld Z h_227 a "com/example/nearword/nearword/internal/index/IntRuns" "poolSize" "I" (.int 0) := f_225.sm (Sm.ext E_230)
  have f_245 : Fld Z h_227 a "com/example/nearword/nearword/internal/index/IntRuns" "keysToCome" "I" (.int 0) := f_226.sm (Sm.ext E_230)
  have t_246 : a < h_227.size := Nat.lt_of_lt_of_le t_215 E_230.1
  have t_247 : a_190 < h_227.size := Nat.lt_of_lt_of_le t_216 E_230.1
  have z_248 : n0 ≤ h_227.size := Nat.le_trans z_217 E_230.1
  have b_249 : h0.size ≤ h_227.size := Nat.le_trans b_218 E_230.1
  have K_250 : Keep h0 h_227 [a] := K_219.ext E_230
  have t_251 : a_228 < h_227.size := A_231.lt
  change Ary Z h_227 a_228 .int [] at A_231
  refine Go.putF (pc' := 18) (ty := (.array .int)) (own_w hw 26 rfl) f_240 f_237 (Or.inl (own_w hw 27 rfl)) (own_w hw 15 rfl) (by decide) rfl rfl d4_15 hg rfl ?_
  intro h_252 W_253
  have f_254 : Exa Z h_252 a "com/example/nearword/nearword/internal/index/IntRuns" := Exa.wr W_253 f_237
  have f_255 : Ary Z h_252 a_190 .int [] := f_238.sm (Sm.wr W_253 n_195.symm)
  have f_256 : Ary Z h_252 a_228 .int [] := A_231.sm (Sm.wr W_253 n_233.symm)
  have t_257 : a < h_252.size := Nat.lt_of_lt_of_le t_246 (Nat.le_of_eq W_253.size.symm)
  have t_258 : a_190 < h_252.size := Nat.lt_of_lt_of_le t_247 (Nat.le_of_eq W_253.size.symm)
  have t_259 : a_228 < h_252.size := Nat.lt_of_lt_of_le t_251 (Nat.le_of_eq W_253.size.symm)
  have z_260 : n0 ≤ h_252.size := Nat.le_trans z_248 (Nat.le_of_eq W_253.size.symm)
  have b_261 : h0.size ≤ h_252.size := Nat.le_trans b_249 (Nat.le_of_eq W_253.size.symm)
  have K_262 : Keep h0 h_252 [a] := K_250.wr W_253 (Or.inl (List.mem_of_getElem? (i := 0) rfl))
  have f_263 : Fld Z h_252 a "com/example/nearword/nearword/internal/index/IntRuns" "at" "[I" (.ref a_190) := Fld.other W_253 f_239 (Or.inr (slot_ne (Or.inl (own_w hw 25 rfl)) (Or.inl (own_w hw 27 rfl)) (by decide) (t := (.array .int)) (t' := (.array .int)) (by decide) (by decide)))
  have f_264 : Fld Z h_252 a "com/example/nearword/nearword/internal/index/IntRuns" "pool" "[I" (.ref a_228) := Fld.same W_253 f_240
  have f_265 : Fld Z h_252 a "com/example/nearword/nearword/internal/index/IntRuns" "mostInts" "I" (.int 0) := Fld.other W_253 f_241 (Or.inr (slot_ne (Or.inr (own_w hw 29 rfl)) (Or.inl (own_w hw 27 rfl)) (by decide) (t := .int) (t' := (.array .int)) (by decide) (by decide)))
  have f_266 : Fld Z h_252 a "com/example/nearword/nearword/internal/index/IntRuns" "keys" "I" (.int 0) := Fld.other W_253 f_242 (Or.inr (slot_ne (Or.inl (own_w hw 95 rfl)) (Or.inl (own_w hw 27 rfl)) (by decide) (t := .int) (t' := (.array .int)) (by decide) (by decide)))
  have f_267 : Fld Z h_252 a "com/example/nearword/nearword/internal/index/IntRuns" "poolLeft" "I" (.int 0) := Fld.other W_253 f_243 (Or.inr (slot_ne (Or.inl (own_w hw 106 rfl)) (Or.inl (own_w hw 27 rfl)) (by decide) (t := .int) (t' := (.array .int)) (by decide) (by decide)))
  have f_268 : Fld Z h_252 a "com/example/nearword/nearword/internal/index/IntRuns" "poolSize" "I" (.int 0) := Fld.other W_253 f_244 (Or.inr (slot_ne (Or.inl (own_w hw 108 rfl)) (Or.inl (own_w hw 27 rfl)) (by decide) (t := .int) (t' := (.array .int)) (by decide) (by decide)))
  have f_269 : Fld Z h_252 a "com/example/nearword/nearword/internal/index/IntRuns" "keysToCome" "I" (.int 0) := Fld.other W_253 f_245 (Or.inr (slot_ne (Or.inl (own_w hw 123 rfl)) (Or.inl (own_w hw 27 rfl)) (by decide) (t := .int) (t' := (.array .int)) (by decide) (by decide)))
  refine Go.aloadN (pc' := 19) d4_18 rfl rfl rfl ?_
  refine Go.iloadN (pc' := 20) d4_19 rfl rfl ?_
  refine Go.putF (pc' := 23) (ty := .int) (own_w hw 28 rfl) f_265 f_254 (Or.inr ⟨(own_w hw 29 rfl), rfl, rfl⟩) (own_w hw 15 rfl) (by decide) rfl rfl d4_20 hg rfl ?_
  intro h_270 W_271
  have f_272 : Exa Z h_270 a "com/example/nearword/nearword/internal/index/IntRuns" := Exa.wr W_271 f_254
  have f_273 : Ary Z h_270 a_190 .int [] := f_255.sm (Sm.wr W_271 n_195.symm)
  have f_274 : Ary Z h_270 a_228 .int [] := f_256.sm (Sm.wr W_271 n_233.symm)
  have t_275 : a < h_270.size := Nat.lt_of_lt_of_le t_257 (Nat.le_of_eq W_271.size.symm)
  have t_276 : a_190 < h_270.size := Nat.lt_of_lt_of_le t_258 (Nat.le_of_eq W_271.size.symm)
  have t_277 : a_228 < h_270.size := Nat.lt_of_lt_of_le t_259 (Nat.le_of_eq W_271.size.symm)
  have z_278 : n0 ≤ h_270.size := Nat.le_trans z_260 (Nat.le_of_eq W_271.size.symm)
  have b_279 : h0.size ≤ h_270.size := Nat.le_trans b_261 (Nat.le_of_eq W_271.size.symm)
  have K_280 : Keep h0 h_270 [a] := K_262.wr W_271 (Or.inl (List.mem_of_getElem? (i := 0) rfl))
  have f_281 : Fld Z h_270 a "com/example/nearword/nearword/internal/index/IntRuns" "at" "[I" (.ref a_190) := Fld.other W_271 f_263 (Or.inr (slot_ne (Or.inl (own_w hw 25 rfl)) (Or.inr (own_w hw 29 rfl)) (by decide) (t := (.array .int)) (t' := .int) (by decide) (by decide)))
  have f_282 : Fld Z h_270 a "com/example/nearword/nearword/internal/index/IntRuns" "pool" "[I" (.ref a_228) := Fld.other W_271 f_264 (Or.inr (slot_ne (Or.inl (own_w hw 27 rfl)) (Or.inr (own_w hw 29 rfl)) (by decide) (t := (.array .int)) (t' := .int) (by decide) (by decide)))
  have f_283 : Fld Z h_270 a "com/example/nearword/nearword/internal/index/IntRuns" "mostInts" "I" (.int 1048576) := Fld.same W_271 f_265
  have f_284 : Fld Z h_270 a "com/example/nearword/nearword/internal/index/IntRuns" "keys" "I" (.int 0) := Fld.other W_271 f_266 (Or.inr (slot_ne (Or.inl (own_w hw 95 rfl)) (Or.inr (own_w hw 29 rfl)) (by decide) (t := .int) (t' := .int) (by decide) (by decide)))
  have f_285 : Fld Z h_270 a "com/example/nearword/nearword/internal/index/IntRuns" "poolLeft" "I" (.int 0) := Fld.other W_271 f_267 (Or.inr (slot_ne (Or.inl (own_w hw 106 rfl)) (Or.inr (own_w hw 29 rfl)) (by decide) (t := .int) (t' := .int) (by decide) (by decide)))
  have f_286 : Fld Z h_270 a "com/example/nearword/nearword/internal/index/IntRuns" "poolSize" "I" (.int 0) := Fld.other W_271 f_268 (Or.inr (slot_ne (Or.inl (own_w hw 108 rfl)) (Or.inr (own_w hw 29 rfl)) (by decide) (t := .int) (t' := .int) (by decide) (by decide)))
  have f_287 : Fld Z h_270 a "com/example/nearword/nearword/internal/index/IntRuns" "keysToCome" "I" (.int 0) := Fld.other W_271 f_269 (Or.inr (slot_ne (Or.inl (own_w hw 123 rfl)) (Or.inr (own_w hw 29 rfl)) (by decide) (t := .int) (t' := .int) (by decide) (by decide)))
  exact Go.ret0 d4_23 rfl ⟨rfl, a_190, a_228, K_280, f_281, f_282, f_283, f_284, f_285, f_286, f_287, f_273, f_274, g_197, t_276, g_236, t_277, n_234⟩ (by decide) (by decide)
set_option maxRecDepth 65536 in
set_option maxHeartbeats 40000000 in
theorem m_gk (l : Launch) (Z : State) (a0 : Array Value) (hw : ∀ d ∈ tables_1, d.before a0 Z = true) (a e p : Addr) (ps : Int32) (h0 : Heap) (n0 : Nat) (z0 : n0 ≤ h0.size) (hE : Exa Z h0 a "com/example/nearword/nearword/internal/index/IntRuns") (hF0 : Fld Z h0 a "com/example/nearword/nearword/internal/index/IntRuns" "at" "[I" (.ref e)) (hF1 : Fld Z h0 a "com/example/nearword/nearword/internal/index/IntRuns" "pool" "[I" (.ref p)) (hF2 : Fld Z h0 a "com/example/nearword/nearword/internal/index/IntRuns" "mostInts" "I" (.int 1048576)) (hF3 : Fld Z h0 a "com/example/nearword/nearword/internal/index/IntRuns" "keys" "I" (.int 0)) (hF4 : Fld Z h0 a "com/example/nearword/nearword/internal/index/IntRuns" "poolLeft" "I" (.int 0)) (hF5 : Fld Z h0 a "com/example/nearword/nearword/internal/index/IntRuns" "poolSize" "I" (.int ps)) (hF6 : Fld Z h0 a "com/example/nearword/nearword/internal/index/IntRuns" "keysToCome" "I" (.int 0)) (hg : n0 ≤ a) (hA : Ary Z h0 e .int []) : Mt false l Z (⟨"com/example/nearword/nearword/internal/index/IntRuns", "growKeys", "(I)V"⟩ : MethodName) prog_42_method_23_code 3 none ({ frames := 2, cells := 1, slots := 16, locals := 45 } : Room) n0 (fun v h => v = none ∧ ∃ o, Keep h0 h [a] ∧ Fld Z h a "com/example/nearword/nearword/internal/index/IntRuns" "at" "[I" (.ref o) ∧ Fld Z h a "com/example/nearword/nearword/internal/index/IntRuns" "pool" "[I" (.ref p) ∧ Fld Z h a "com/example/nearword/nearword/internal/index/IntRuns" "mostInts" "I" (.int 1048576) ∧ Fld Z h a "com/example/nearword/nearword/internal/index/IntRuns" "keys" "I" (.int 0) ∧ Fld Z h a "com/example/nearword/nearword/internal/index/IntRuns" "poolLeft" "I" (.int 0) ∧ Fld Z h a "com/example/nearword/nearword/internal/index/IntRuns" "poolSize" "I" (.int ps) ∧ Fld Z h a "com/example/nearword/nearword/internal/index/IntRuns" "keysToCome" "I" (.int 0) ∧ Ary Z h o .int own_m1 ∧ h0.size ≤ o ∧ o < h.size) h0 #[(.ref a), (.int 16)] := by
  refine Mt.go (Ls := #[.val (.ref a), .val (.int 16), .unset]) (plainFor_of_name pn1) (fun m => by first | (simp [entryFrame, mkF, argsToLocals, Value.category]; done) | rfl) ?_
  show Go _ _ _ _ _ _ _ _ _ _ _ _ h0 0 0 0 #[.val (.ref a), .val (.int 16), .unset] []
  have n_288 : a ≠ e := by obtain ⟨_, Ag, -⟩ := hA; exact ne_arr hE (own_w hw 15 rfl) Ag
  refine Go.aloadN (pc' := 1) d16_0 rfl rfl rfl ?_
  refine Go.getF (pc' := 4) (own_w hw 24 rfl) hF0 d16_1 rfl ?_
  refine Go.iloadN (pc' := 5) d16_4 rfl rfl ?_
  refine Go.callS (pc' := 8) (argsL := [(.ref e), (.int 16)]) (rest := []) (W := 0) (own_w hw 79 rfl) (own_w hw 80 rfl) (own_w hw 81 rfl) (own_w hw 82 rfl) (by decide) (m_copy l Z a0 hw e h0 n0 z0 hA) d16_5 rfl pd6 rfl rfl (Nat.le_of_eq rfl) (by decide) (by decide) (by decide) (by decide) rfl ?_
  rintro _ h_289 ⟨o_290, rfl, K_291, A_292, q_293, t_294⟩
  have n_295 : a ≠ o_290 := Nat.ne_of_lt (Nat.lt_of_lt_of_le hE.lt q_293)
  have n_296 : e ≠ o_290 := Nat.ne_of_lt (Nat.lt_of_lt_of_le hA.lt q_293)
  have g_297 : n0 ≤ o_290 := Nat.le_trans z0 q_293
  have g_298 : h0.size ≤ o_290 := Nat.le_trans (Nat.le_refl _) q_293
  have f_299 : Exa Z h_289 a "com/example/nearword/nearword/internal/index/IntRuns" := hE.sm (Sm.keep K_291 nin0)
  have f_300 : Fld Z h_289 a "com/example/nearword/nearword/internal/index/IntRuns" "at" "[I" (.ref e) := hF0.sm (Sm.keep K_291 nin0)
  have f_301 : Fld Z h_289 a "com/example/nearword/nearword/internal/index/IntRuns" "pool" "[I" (.ref p) := hF1.sm (Sm.keep K_291 nin0)
  have f_302 : Fld Z h_289 a "com/example/nearword/nearword/internal/index/IntRuns" "mostInts" "I" (.int 1048576) := hF2.sm (Sm.keep K_291 nin0)
  have f_303 : Fld Z h_289 a "com/example/nearword/nearword/internal/index/IntRuns" "keys" "I" (.int 0) := hF3.sm (Sm.keep K_291 nin0)
  have f_304 : Fld Z h_289 a "com/example/nearword/nearword/internal/index/IntRuns" "poolLeft" "I" (.int 0) := hF4.sm (Sm.keep K_291 nin0)
  have f_305 : Fld Z h_289 a "com/example/nearword/nearword/internal/index/IntRuns" "poolSize" "I" (.int ps) := hF5.sm (Sm.keep K_291 nin0)
  have f_306 : Fld Z h_289 a "com/example/nearword/nearword/internal/index/IntRuns" "keysToCome" "I" (.int 0) := hF6.sm (Sm.keep K_291 nin0)
  have f_307 : Ary Z h_289 e .int [] := hA.sm (Sm.keep K_291 nin0)
  have t_308 : a < h_289.size := Nat.lt_of_lt_of_le hE.lt K_291.1
  have t_309 : e < h_289.size := Nat.lt_of_lt_of_le hA.lt K_291.1
  have z_310 : n0 ≤ h_289.size := Nat.le_trans z0 K_291.1
  have b_311 : h0.size ≤ h_289.size := Nat.le_trans (Nat.le_refl _) K_291.1
  have K_312 : Keep h0 h_289 [a] := (Keep.refl _ _).trans K_291 all0
  show Go _ _ _ _ _ _ _ _ _ _ _ _ h_289 (0 + 1) (0 + 16) 8 #[.val (.ref a), .val (.int 16), .unset] [(.ref o_290)]
  refine Go.astoreN (pc' := 9) (Ls' := #[.val (.ref a), .val (.int 16), .val (.ref o_290)]) d16_8 rfl rfl rfl ?_
  refine Go.aloadN (pc' := 10) d16_9 rfl rfl rfl ?_
  refine Go.aloadN (pc' := 11) d16_10 rfl rfl rfl ?_
  refine Go.getF (pc' := 14) (own_w hw 24 rfl) f_300 d16_11 rfl ?_
  refine Go.alen (pc' := 15) (z := (0 : Int32)) f_307 rfl d16_14 rfl ?_
  refine Go.aloadN (pc' := 16) d16_15 rfl rfl rfl ?_
  refine Go.alen (pc' := 17) (z := (16 : Int32)) A_292 rfl d16_16 rfl ?_
  refine Go.iconst (pc' := 18) (v := (-1 : Int32)) d16_17 rfl rfl ?_
  refine Go.callS (pc' := 21) (argsL := [(.ref o_290), (.int 0), (.int 16), (.int (-1 : Int32))]) (rest := []) (W := 0) (own_w hw 88 rfl) (own_w hw 89 rfl) (own_w hw 81 rfl) (own_w hw 90 rfl) (by decide) (m_fill l Z a0 hw o_290 h_289 n0 z_310 A_292 g_297) d16_18 rfl pd7 rfl rfl (Nat.le_of_eq rfl) (by decide) (by decide) (by decide) (by decide) rfl ?_
  rintro _ h_313 ⟨rfl, K_314, A_315⟩
  have f_316 : Exa Z h_313 a "com/example/nearword/nearword/internal/index/IntRuns" := f_299.sm (Sm.keep K_314 (ninS n_295 nin0))
  have f_317 : Fld Z h_313 a "com/example/nearword/nearword/internal/index/IntRuns" "at" "[I" (.ref e) := f_300.sm (Sm.keep K_314 (ninS n_295 nin0))
  have f_318 : Fld Z h_313 a "com/example/nearword/nearword/internal/index/IntRuns" "pool" "[I" (.ref p) := f_301.sm (Sm.keep K_314 (ninS n_295 nin0))
  have f_319 : Fld Z h_313 a "com/example/nearword/nearword/internal/index/IntRuns" "mostInts" "I" (.int 1048576) := f_302.sm (Sm.keep K_314 (ninS n_295 nin0))
  have f_320 : Fld Z h_313 a "com/example/nearword/nearword/internal/index/IntRuns" "keys" "I" (.int 0) := f_303.sm (Sm.keep K_314 (ninS n_295 nin0))
  have f_321 : Fld Z h_313 a "com/example/nearword/nearword/internal/index/IntRuns" "poolLeft" "I" (.int 0) := f_304.sm (Sm.keep K_314 (ninS n_295 nin0))
  have f_322 : Fld Z h_313 a "com/example/nearword/nearword/internal/index/IntRuns" "poolSize" "I" (.int ps) := f_305.sm (Sm.keep K_314 (ninS n_295 nin0))
  have f_323 : Fld Z h_313 a "com/example/nearword/nearword/internal/index/IntRuns" "keysToCome" "I" (.int 0) := f_306.sm (Sm.keep K_314 (ninS n_295 nin0))
  have f_324 : Ary Z h_313 e .int [] := f_307.sm (Sm.keep K_314 (ninS n_296 nin0))
  have t_326 : a < h_313.size := Nat.lt_of_lt_of_le t_308 K_314.1
  have t_327 : e < h_313.size := Nat.lt_of_lt_of_le t_309 K_314.1
  have t_328 : o_290 < h_313.size := Nat.lt_of_lt_of_le t_294 K_314.1
  have z_329 : n0 ≤ h_313.size := Nat.le_trans z_310 K_314.1
  have b_330 : h0.size ≤ h_313.size := Nat.le_trans b_311 K_314.1
  have K_331 : Keep h0 h_313 [a] := K_312.trans K_314 (allS (Or.inr g_298) all0)
  show Go _ _ _ _ _ _ _ _ _ _ _ _ h_313 (0 + 1 + 0) (0 + 16 + 0) 21 #[.val (.ref a), .val (.int 16), .val (.ref o_290)] []
  refine Go.aloadN (pc' := 22) d16_21 rfl rfl rfl ?_
  refine Go.aloadN (pc' := 23) d16_22 rfl rfl rfl ?_
  refine Go.putF (pc' := 26) (ty := (.array .int)) (own_w hw 24 rfl) f_317 f_316 (Or.inl (own_w hw 25 rfl)) (own_w hw 15 rfl) (by decide) rfl rfl d16_23 hg rfl ?_
  intro h_332 W_333
  have f_334 : Exa Z h_332 a "com/example/nearword/nearword/internal/index/IntRuns" := Exa.wr W_333 f_316
  have f_335 : Ary Z h_332 e .int [] := f_324.sm (Sm.wr W_333 n_288.symm)
  have f_336 : Ary Z h_332 o_290 .int own_m1 := A_315.sm (Sm.wr W_333 n_295.symm)
  have t_337 : a < h_332.size := Nat.lt_of_lt_of_le t_326 (Nat.le_of_eq W_333.size.symm)
  have t_338 : e < h_332.size := Nat.lt_of_lt_of_le t_327 (Nat.le_of_eq W_333.size.symm)
  have t_339 : o_290 < h_332.size := Nat.lt_of_lt_of_le t_328 (Nat.le_of_eq W_333.size.symm)
  have z_340 : n0 ≤ h_332.size := Nat.le_trans z_329 (Nat.le_of_eq W_333.size.symm)
  have b_341 : h0.size ≤ h_332.size := Nat.le_trans b_330 (Nat.le_of_eq W_333.size.symm)
  have K_342 : Keep h0 h_332 [a] := K_331.wr W_333 (Or.inl (List.mem_of_getElem? (i := 0) rfl))
  have f_343 : Fld Z h_332 a "com/example/nearword/nearword/internal/index/IntRuns" "at" "[I" (.ref o_290) := Fld.same W_333 f_317
  have f_344 : Fld Z h_332 a "com/example/nearword/nearword/internal/index/IntRuns" "pool" "[I" (.ref p) := Fld.other W_333 f_318 (Or.inr (slot_ne (Or.inl (own_w hw 27 rfl)) (Or.inl (own_w hw 25 rfl)) (by decide) (t := (.array .int)) (t' := (.array .int)) (by decide) (by decide)))
  have f_345 : Fld Z h_332 a "com/example/nearword/nearword/internal/index/IntRuns" "mostInts" "I" (.int 1048576) := Fld.other W_333 f_319 (Or.inr (slot_ne (Or.inr (own_w hw 29 rfl)) (Or.inl (own_w hw 25 rfl)) (by decide) (t := .int) (t' := (.array .int)) (by decide) (by decide)))
  have f_346 : Fld Z h_332 a "com/example/nearword/nearword/internal/index/IntRuns" "keys" "I" (.int 0) := Fld.other W_333 f_320 (Or.inr (slot_ne (Or.inl (own_w hw 95 rfl)) (Or.inl (own_w hw 25 rfl)) (by decide) (t := .int) (t' := (.array .int)) (by decide) (by decide)))
  have f_347 : Fld Z h_332 a "com/example/nearword/nearword/internal/index/IntRuns" "poolLeft" "I" (.int 0) := Fld.other W_333 f_321 (Or.inr (slot_ne (Or.inl (own_w hw 106 rfl)) (Or.inl (own_w hw 25 rfl)) (by decide) (t := .int) (t' := (.array .int)) (by decide) (by decide)))
  have f_348 : Fld Z h_332 a "com/example/nearword/nearword/internal/index/IntRuns" "poolSize" "I" (.int ps) := Fld.other W_333 f_322 (Or.inr (slot_ne (Or.inl (own_w hw 108 rfl)) (Or.inl (own_w hw 25 rfl)) (by decide) (t := .int) (t' := (.array .int)) (by decide) (by decide)))
  have f_349 : Fld Z h_332 a "com/example/nearword/nearword/internal/index/IntRuns" "keysToCome" "I" (.int 0) := Fld.other W_333 f_323 (Or.inr (slot_ne (Or.inl (own_w hw 123 rfl)) (Or.inl (own_w hw 25 rfl)) (by decide) (t := .int) (t' := (.array .int)) (by decide) (by decide)))
  exact Go.ret0 d16_26 rfl ⟨rfl, o_290, K_342, f_343, f_344, f_345, f_346, f_347, f_348, f_349, f_336, g_298, t_339⟩ (by decide) (by decide)
set_option maxRecDepth 65536 in
set_option maxHeartbeats 40000000 in
theorem m_rk0 (l : Launch) (Z : State) (a0 : Array Value) (hw : ∀ d ∈ tables_1, d.before a0 Z = true) (a e p : Addr) (ps k : Int32) (h0 : Heap) (n0 : Nat) (z0 : n0 ≤ h0.size) (hE : Exa Z h0 a "com/example/nearword/nearword/internal/index/IntRuns") (hF0 : Fld Z h0 a "com/example/nearword/nearword/internal/index/IntRuns" "at" "[I" (.ref e)) (hF1 : Fld Z h0 a "com/example/nearword/nearword/internal/index/IntRuns" "pool" "[I" (.ref p)) (hF2 : Fld Z h0 a "com/example/nearword/nearword/internal/index/IntRuns" "mostInts" "I" (.int 1048576)) (hF3 : Fld Z h0 a "com/example/nearword/nearword/internal/index/IntRuns" "keys" "I" (.int 0)) (hF4 : Fld Z h0 a "com/example/nearword/nearword/internal/index/IntRuns" "poolLeft" "I" (.int 0)) (hF5 : Fld Z h0 a "com/example/nearword/nearword/internal/index/IntRuns" "poolSize" "I" (.int ps)) (hF6 : Fld Z h0 a "com/example/nearword/nearword/internal/index/IntRuns" "keysToCome" "I" (.int 0)) (hg : n0 ≤ a) (hA : Ary Z h0 e .int []) (hk0 : 0 ≤ k.toInt) (hk : k.toInt ≤ 15) : Mt true l Z (⟨"com/example/nearword/nearword/internal/index/IntRuns", "reserveKey", "(I)V"⟩ : MethodName) prog_42_method_20_code 2 none ({ frames := 4, cells := 3, slots := 104, locals := 75 } : Room) n0 (fun v h => v = none ∧ ∃ o ky, Keep h0 h [a] ∧ Fld Z h a "com/example/nearword/nearword/internal/index/IntRuns" "at" "[I" (.ref o) ∧ Fld Z h a "com/example/nearword/nearword/internal/index/IntRuns" "pool" "[I" (.ref p) ∧ Fld Z h a "com/example/nearword/nearword/internal/index/IntRuns" "mostInts" "I" (.int 1048576) ∧ Fld Z h a "com/example/nearword/nearword/internal/index/IntRuns" "keys" "I" (.int ky) ∧ Fld Z h a "com/example/nearword/nearword/internal/index/IntRuns" "poolLeft" "I" (.int 0) ∧ Fld Z h a "com/example/nearword/nearword/internal/index/IntRuns" "poolSize" "I" (.int ps) ∧ Fld Z h a "com/example/nearword/nearword/internal/index/IntRuns" "keysToCome" "I" (.int 0) ∧ Ary Z h o .int own_m1 ∧ h0.size ≤ o ∧ o < h.size) h0 #[(.ref a), (.int k)] := by
  refine Mt.go (Ls := #[.val (.ref a), .val (.int k)]) (plainFor_of_name pn1) (fun m => by first | (simp [entryFrame, mkF, argsToLocals, Value.category]; done) | rfl) ?_
  show Go _ _ _ _ _ _ _ _ _ _ _ _ h0 0 0 0 #[.val (.ref a), .val (.int k)] []
  have n_350 : a ≠ e := by obtain ⟨_, Ag, -⟩ := hA; exact ne_arr hE (own_w hw 15 rfl) Ag
  refine Go.iloadN (pc' := 1) d8_0 rfl rfl ?_
  refine Go.aloadN (pc' := 2) d8_1 rfl rfl rfl ?_
  refine Go.getF (pc' := 5) (own_w hw 24 rfl) hF0 d8_2 rfl ?_
  refine Go.alen (pc' := 6) (z := (0 : Int32)) hA rfl d8_5 rfl ?_
  refine Go.icmp (pc1 := 25) (pc2 := 9) d8_6 (by decide) (by decide) rfl (fun (c_351 : k.toInt < (0 : Int)) => ?_) (fun (c_351 : (0 : Int) ≤ k.toInt) => ?_)
  · exfalso; omega
  refine Go.aloadN (pc' := 10) d8_9 rfl rfl rfl ?_
  refine Go.aloadN (pc' := 11) d8_10 rfl rfl rfl ?_
  refine Go.getF (pc' := 14) (own_w hw 24 rfl) hF0 d8_11 rfl ?_
  refine Go.alen (pc' := 15) (z := (0 : Int32)) hA rfl d8_14 rfl ?_
  refine Go.iloadN (pc' := 16) d8_15 rfl rfl ?_
  refine Go.i2l (pc' := 17) d8_16 rfl ?_
  refine Go.lconst (pc' := 18) (v := (1 : Int64)) d8_17 rfl rfl ?_
  refine Go.ladd (pc' := 19) d8_18 rfl ?_
  generalize ex_352 : k.toInt64 + (1 : Int64) = x_352
  have k_353 : x_352.toInt = k.toInt + 1 := by
    rw [← ex_352]
    have := c_i2l k
    have := rng64 k.toInt64
    have := rng32 k
    have : (1 : Int64).toInt = 1 := by decide
    have := c_ladd k.toInt64 (1 : Int64)
    have := rng64 (k.toInt64 + (1 : Int64))
    omega
  refine Go.callSW (pc' := 22) (argsL := [(.int 0), (.long x_352)]) (rest := [(.ref a)]) (W := 1) (own_w hw 44 rfl) (own_w hw 45 rfl) (own_w hw 46 rfl) (own_w hw 47 rfl) (by decide) (m_g2 l Z a0 hw x_352 h0 n0 z0 (by omega) (by omega)) d8_19 rfl pd8 rfl rfl (Nat.le_of_eq rfl) (by decide) (by decide) (by decide) (by decide) rfl ?_
  rintro _ h_354 ⟨rfl, K_355⟩
  have f_356 : Exa Z h_354 a "com/example/nearword/nearword/internal/index/IntRuns" := hE.sm (Sm.keep K_355 nin0)
  have f_357 : Fld Z h_354 a "com/example/nearword/nearword/internal/index/IntRuns" "at" "[I" (.ref e) := hF0.sm (Sm.keep K_355 nin0)
  have f_358 : Fld Z h_354 a "com/example/nearword/nearword/internal/index/IntRuns" "pool" "[I" (.ref p) := hF1.sm (Sm.keep K_355 nin0)
  have f_359 : Fld Z h_354 a "com/example/nearword/nearword/internal/index/IntRuns" "mostInts" "I" (.int 1048576) := hF2.sm (Sm.keep K_355 nin0)
  have f_360 : Fld Z h_354 a "com/example/nearword/nearword/internal/index/IntRuns" "keys" "I" (.int 0) := hF3.sm (Sm.keep K_355 nin0)
  have f_361 : Fld Z h_354 a "com/example/nearword/nearword/internal/index/IntRuns" "poolLeft" "I" (.int 0) := hF4.sm (Sm.keep K_355 nin0)
  have f_362 : Fld Z h_354 a "com/example/nearword/nearword/internal/index/IntRuns" "poolSize" "I" (.int ps) := hF5.sm (Sm.keep K_355 nin0)
  have f_363 : Fld Z h_354 a "com/example/nearword/nearword/internal/index/IntRuns" "keysToCome" "I" (.int 0) := hF6.sm (Sm.keep K_355 nin0)
  have f_364 : Ary Z h_354 e .int [] := hA.sm (Sm.keep K_355 nin0)
  have t_365 : a < h_354.size := Nat.lt_of_lt_of_le hE.lt K_355.1
  have t_366 : e < h_354.size := Nat.lt_of_lt_of_le hA.lt K_355.1
  have z_367 : n0 ≤ h_354.size := Nat.le_trans z0 K_355.1
  have b_368 : h0.size ≤ h_354.size := Nat.le_trans (Nat.le_refl _) K_355.1
  have K_369 : Keep h0 h_354 [a] := (Keep.refl _ _).trans K_355 all0
  show Go _ _ _ _ _ _ _ _ _ _ _ _ h_354 (0 + 2) (0 + 88) 22 #[.val (.ref a), .val (.int k)] [(.int 16), (.ref a)]
  refine Go.callP (pc' := 25) (argsL := [(.int 16)]) (rest := []) (W := 0) (own_w hw 75 rfl) (own_w hw 76 rfl) (own_w hw 77 rfl) (own_w hw 16 rfl) (own_w hw 78 rfl) (own_w hw 33 rfl) rfl (by decide) f_356 (m_gk l Z a0 hw a e p ps h_354 n0 z_367 f_356 f_357 f_358 f_359 f_360 f_361 f_362 f_363 hg f_364) d8_22 rfl pd9 rfl rfl (Nat.le_of_eq rfl) (by decide) (by decide) (by decide) (by decide) rfl ?_
  rintro _ h_370 ⟨rfl, o_371, K_372, F_376, F_377, F_378, F_379, F_380, F_381, F_382, A_373, q_374, t_375⟩
  have n_383 : a ≠ o_371 := Nat.ne_of_lt (Nat.lt_of_lt_of_le t_365 q_374)
  have n_384 : e ≠ o_371 := Nat.ne_of_lt (Nat.lt_of_lt_of_le t_366 q_374)
  have g_385 : n0 ≤ o_371 := Nat.le_trans z_367 q_374
  have g_386 : h0.size ≤ o_371 := Nat.le_trans b_368 q_374
  have f_387 : Exa Z h_370 a "com/example/nearword/nearword/internal/index/IntRuns" := f_356.keep K_372
  have f_395 : Ary Z h_370 e .int [] := f_364.sm (Sm.keep K_372 (ninS n_350.symm nin0))
  have t_396 : a < h_370.size := Nat.lt_of_lt_of_le t_365 K_372.1
  have t_397 : e < h_370.size := Nat.lt_of_lt_of_le t_366 K_372.1
  have z_398 : n0 ≤ h_370.size := Nat.le_trans z_367 K_372.1
  have b_399 : h0.size ≤ h_370.size := Nat.le_trans b_368 K_372.1
  have K_400 : Keep h0 h_370 [a] := K_369.trans K_372 (allS (Or.inl (List.mem_of_getElem? (i := 0) rfl)) all0)
  show Go _ _ _ _ _ _ _ _ _ _ _ _ h_370 (0 + 2 + 1) (0 + 88 + 16) 25 #[.val (.ref a), .val (.int k)] []
  refine Go.aloadN (pc' := 26) d8_25 rfl rfl rfl ?_
  refine Go.aloadN (pc' := 27) d8_26 rfl rfl rfl ?_
  refine Go.getF (pc' := 30) (own_w hw 94 rfl) F_379 d8_27 rfl ?_
  refine Go.iloadN (pc' := 31) d8_30 rfl rfl ?_
  refine Go.iconst (pc' := 32) (v := (1 : Int32)) d8_31 rfl rfl ?_
  refine Go.iadd (pc' := 33) d8_32 rfl ?_
  generalize ey_401 : k + (1 : Int32) = y_401
  refine Go.callS (pc' := 36) (argsL := [(.int 0), (.int y_401)]) (rest := [(.ref a)]) (W := 1) (own_w hw 96 rfl) (own_w hw 67 rfl) (own_w hw 4 rfl) (own_w hw 68 rfl) (by decide) (m_max l Z a0 hw (0 : Int32) y_401 h_370 n0 z_398) d8_33 rfl pd2 rfl rfl (Nat.le_of_eq rfl) (by decide) (by decide) (by decide) (by decide) rfl ?_
  rintro _ _ ⟨ky, rfl, rfl, hky⟩
  show Go _ _ _ _ _ _ _ _ _ _ _ _ h_370 (0 + 2 + 1 + 0) (0 + 88 + 16 + 0) 36 #[.val (.ref a), .val (.int k)] [(.int ky), (.ref a)]
  refine Go.putF (pc' := 39) (ty := .int) (own_w hw 94 rfl) F_379 f_387 (Or.inl (own_w hw 95 rfl)) (own_w hw 15 rfl) (by decide) rfl rfl d8_36 hg rfl ?_
  intro h_402 W_403
  have f_404 : Exa Z h_402 a "com/example/nearword/nearword/internal/index/IntRuns" := Exa.wr W_403 f_387
  have f_405 : Ary Z h_402 e .int [] := f_395.sm (Sm.wr W_403 n_350.symm)
  have f_406 : Ary Z h_402 o_371 .int own_m1 := A_373.sm (Sm.wr W_403 n_383.symm)
  have t_407 : a < h_402.size := Nat.lt_of_lt_of_le t_396 (Nat.le_of_eq W_403.size.symm)
  have t_408 : e < h_402.size := Nat.lt_of_lt_of_le t_397 (Nat.le_of_eq W_403.size.symm)
  have t_409 : o_371 < h_402.size := Nat.lt_of_lt_of_le t_375 (Nat.le_of_eq W_403.size.symm)
  have z_410 : n0 ≤ h_402.size := Nat.le_trans z_398 (Nat.le_of_eq W_403.size.symm)
  have b_411 : h0.size ≤ h_402.size := Nat.le_trans b_399 (Nat.le_of_eq W_403.size.symm)
  have K_412 : Keep h0 h_402 [a] := K_400.wr W_403 (Or.inl (List.mem_of_getElem? (i := 0) rfl))
  have f_413 : Fld Z h_402 a "com/example/nearword/nearword/internal/index/IntRuns" "at" "[I" (.ref o_371) := Fld.other W_403 F_376 (Or.inr (slot_ne (Or.inl (own_w hw 25 rfl)) (Or.inl (own_w hw 95 rfl)) (by decide) (t := (.array .int)) (t' := .int) (by decide) (by decide)))
  have f_414 : Fld Z h_402 a "com/example/nearword/nearword/internal/index/IntRuns" "pool" "[I" (.ref p) := Fld.other W_403 F_377 (Or.inr (slot_ne (Or.inl (own_w hw 27 rfl)) (Or.inl (own_w hw 95 rfl)) (by decide) (t := (.array .int)) (t' := .int) (by decide) (by decide)))
  have f_415 : Fld Z h_402 a "com/example/nearword/nearword/internal/index/IntRuns" "mostInts" "I" (.int 1048576) := Fld.other W_403 F_378 (Or.inr (slot_ne (Or.inr (own_w hw 29 rfl)) (Or.inl (own_w hw 95 rfl)) (by decide) (t := .int) (t' := .int) (by decide) (by decide)))
  have f_416 : Fld Z h_402 a "com/example/nearword/nearword/internal/index/IntRuns" "keys" "I" (.int ky) := Fld.same W_403 F_379
  have f_417 : Fld Z h_402 a "com/example/nearword/nearword/internal/index/IntRuns" "poolLeft" "I" (.int 0) := Fld.other W_403 F_380 (Or.inr (slot_ne (Or.inl (own_w hw 106 rfl)) (Or.inl (own_w hw 95 rfl)) (by decide) (t := .int) (t' := .int) (by decide) (by decide)))
  have f_418 : Fld Z h_402 a "com/example/nearword/nearword/internal/index/IntRuns" "poolSize" "I" (.int ps) := Fld.other W_403 F_381 (Or.inr (slot_ne (Or.inl (own_w hw 108 rfl)) (Or.inl (own_w hw 95 rfl)) (by decide) (t := .int) (t' := .int) (by decide) (by decide)))
  have f_419 : Fld Z h_402 a "com/example/nearword/nearword/internal/index/IntRuns" "keysToCome" "I" (.int 0) := Fld.other W_403 F_382 (Or.inr (slot_ne (Or.inl (own_w hw 123 rfl)) (Or.inl (own_w hw 95 rfl)) (by decide) (t := .int) (t' := .int) (by decide) (by decide)))
  exact Go.ret0 d8_39 rfl ⟨rfl, o_371, ky, K_412, f_413, f_414, f_415, f_416, f_417, f_418, f_419, f_406, g_386, t_409⟩ (by decide) (by decide)
set_option maxRecDepth 65536 in
set_option maxHeartbeats 40000000 in
theorem m_rk1 (l : Launch) (Z : State) (a0 : Array Value) (hw : ∀ d ∈ tables_1, d.before a0 Z = true) (a e p : Addr) (ks ps k : Int32) (A : List Value) (h0 : Heap) (n0 : Nat) (z0 : n0 ≤ h0.size) (hE : Exa Z h0 a "com/example/nearword/nearword/internal/index/IntRuns") (hF0 : Fld Z h0 a "com/example/nearword/nearword/internal/index/IntRuns" "at" "[I" (.ref e)) (hF1 : Fld Z h0 a "com/example/nearword/nearword/internal/index/IntRuns" "pool" "[I" (.ref p)) (hF2 : Fld Z h0 a "com/example/nearword/nearword/internal/index/IntRuns" "mostInts" "I" (.int 1048576)) (hF3 : Fld Z h0 a "com/example/nearword/nearword/internal/index/IntRuns" "keys" "I" (.int ks)) (hF4 : Fld Z h0 a "com/example/nearword/nearword/internal/index/IntRuns" "poolLeft" "I" (.int 0)) (hF5 : Fld Z h0 a "com/example/nearword/nearword/internal/index/IntRuns" "poolSize" "I" (.int ps)) (hF6 : Fld Z h0 a "com/example/nearword/nearword/internal/index/IntRuns" "keysToCome" "I" (.int 0)) (hg : n0 ≤ a) (hA : Ary Z h0 e .int A) (hA16 : A.length = 16) (hk0 : 0 ≤ k.toInt) (hk : k.toInt ≤ 15) : Mt false l Z (⟨"com/example/nearword/nearword/internal/index/IntRuns", "reserveKey", "(I)V"⟩ : MethodName) prog_42_method_20_code 2 none ({ frames := 1, cells := 0, slots := 0, locals := 17 } : Room) n0 (fun v h => v = none ∧ ∃ ky, Keep h0 h [a] ∧ Fld Z h a "com/example/nearword/nearword/internal/index/IntRuns" "at" "[I" (.ref e) ∧ Fld Z h a "com/example/nearword/nearword/internal/index/IntRuns" "pool" "[I" (.ref p) ∧ Fld Z h a "com/example/nearword/nearword/internal/index/IntRuns" "mostInts" "I" (.int 1048576) ∧ Fld Z h a "com/example/nearword/nearword/internal/index/IntRuns" "keys" "I" (.int ky) ∧ Fld Z h a "com/example/nearword/nearword/internal/index/IntRuns" "poolLeft" "I" (.int 0) ∧ Fld Z h a "com/example/nearword/nearword/internal/index/IntRuns" "poolSize" "I" (.int ps) ∧ Fld Z h a "com/example/nearword/nearword/internal/index/IntRuns" "keysToCome" "I" (.int 0)) h0 #[(.ref a), (.int k)] := by
  refine Mt.go (Ls := #[.val (.ref a), .val (.int k)]) (plainFor_of_name pn1) (fun m => by first | (simp [entryFrame, mkF, argsToLocals, Value.category]; done) | rfl) ?_
  show Go _ _ _ _ _ _ _ _ _ _ _ _ h0 0 0 0 #[.val (.ref a), .val (.int k)] []
  have n_420 : a ≠ e := by obtain ⟨_, Ag, -⟩ := hA; exact ne_arr hE (own_w hw 15 rfl) Ag
  refine Go.iloadN (pc' := 1) d8_0 rfl rfl ?_
  refine Go.aloadN (pc' := 2) d8_1 rfl rfl rfl ?_
  refine Go.getF (pc' := 5) (own_w hw 24 rfl) hF0 d8_2 rfl ?_
  refine Go.alen (pc' := 6) (z := (16 : Int32)) hA (by rw [hA16]; rfl) d8_5 rfl ?_
  refine Go.icmp (pc1 := 25) (pc2 := 9) d8_6 (by decide) (by decide) rfl (fun (c_421 : k.toInt < (16 : Int)) => ?_) (fun (c_421 : (16 : Int) ≤ k.toInt) => ?_)
  rotate_left
  · exfalso; omega
  refine Go.aloadN (pc' := 26) d8_25 rfl rfl rfl ?_
  refine Go.aloadN (pc' := 27) d8_26 rfl rfl rfl ?_
  refine Go.getF (pc' := 30) (own_w hw 94 rfl) hF3 d8_27 rfl ?_
  refine Go.iloadN (pc' := 31) d8_30 rfl rfl ?_
  refine Go.iconst (pc' := 32) (v := (1 : Int32)) d8_31 rfl rfl ?_
  refine Go.iadd (pc' := 33) d8_32 rfl ?_
  generalize ey_422 : k + (1 : Int32) = y_422
  refine Go.callS (pc' := 36) (argsL := [(.int ks), (.int y_422)]) (rest := [(.ref a)]) (W := 1) (own_w hw 96 rfl) (own_w hw 67 rfl) (own_w hw 4 rfl) (own_w hw 68 rfl) (by decide) (m_max l Z a0 hw ks y_422 h0 n0 z0) d8_33 rfl pd2 rfl rfl (Nat.le_of_eq rfl) (by decide) (by decide) (by decide) (by decide) rfl ?_
  rintro _ _ ⟨ky, rfl, rfl, hky⟩
  show Go _ _ _ _ _ _ _ _ _ _ _ _ h0 (0 + 0) (0 + 0) 36 #[.val (.ref a), .val (.int k)] [(.int ky), (.ref a)]
  refine Go.putF (pc' := 39) (ty := .int) (own_w hw 94 rfl) hF3 hE (Or.inl (own_w hw 95 rfl)) (own_w hw 15 rfl) (by decide) rfl rfl d8_36 hg rfl ?_
  intro h_423 W_424
  have f_425 : Exa Z h_423 a "com/example/nearword/nearword/internal/index/IntRuns" := Exa.wr W_424 hE
  have f_426 : Ary Z h_423 e .int A := hA.sm (Sm.wr W_424 n_420.symm)
  have t_427 : a < h_423.size := Nat.lt_of_lt_of_le hE.lt (Nat.le_of_eq W_424.size.symm)
  have t_428 : e < h_423.size := Nat.lt_of_lt_of_le hA.lt (Nat.le_of_eq W_424.size.symm)
  have z_429 : n0 ≤ h_423.size := Nat.le_trans z0 (Nat.le_of_eq W_424.size.symm)
  have b_430 : h0.size ≤ h_423.size := Nat.le_trans (Nat.le_refl _) (Nat.le_of_eq W_424.size.symm)
  have K_431 : Keep h0 h_423 [a] := (Keep.refl _ _).wr W_424 (Or.inl (List.mem_of_getElem? (i := 0) rfl))
  have f_432 : Fld Z h_423 a "com/example/nearword/nearword/internal/index/IntRuns" "at" "[I" (.ref e) := Fld.other W_424 hF0 (Or.inr (slot_ne (Or.inl (own_w hw 25 rfl)) (Or.inl (own_w hw 95 rfl)) (by decide) (t := (.array .int)) (t' := .int) (by decide) (by decide)))
  have f_433 : Fld Z h_423 a "com/example/nearword/nearword/internal/index/IntRuns" "pool" "[I" (.ref p) := Fld.other W_424 hF1 (Or.inr (slot_ne (Or.inl (own_w hw 27 rfl)) (Or.inl (own_w hw 95 rfl)) (by decide) (t := (.array .int)) (t' := .int) (by decide) (by decide)))
  have f_434 : Fld Z h_423 a "com/example/nearword/nearword/internal/index/IntRuns" "mostInts" "I" (.int 1048576) := Fld.other W_424 hF2 (Or.inr (slot_ne (Or.inr (own_w hw 29 rfl)) (Or.inl (own_w hw 95 rfl)) (by decide) (t := .int) (t' := .int) (by decide) (by decide)))
  have f_435 : Fld Z h_423 a "com/example/nearword/nearword/internal/index/IntRuns" "keys" "I" (.int ky) := Fld.same W_424 hF3
  have f_436 : Fld Z h_423 a "com/example/nearword/nearword/internal/index/IntRuns" "poolLeft" "I" (.int 0) := Fld.other W_424 hF4 (Or.inr (slot_ne (Or.inl (own_w hw 106 rfl)) (Or.inl (own_w hw 95 rfl)) (by decide) (t := .int) (t' := .int) (by decide) (by decide)))
  have f_437 : Fld Z h_423 a "com/example/nearword/nearword/internal/index/IntRuns" "poolSize" "I" (.int ps) := Fld.other W_424 hF5 (Or.inr (slot_ne (Or.inl (own_w hw 108 rfl)) (Or.inl (own_w hw 95 rfl)) (by decide) (t := .int) (t' := .int) (by decide) (by decide)))
  have f_438 : Fld Z h_423 a "com/example/nearword/nearword/internal/index/IntRuns" "keysToCome" "I" (.int 0) := Fld.other W_424 hF6 (Or.inr (slot_ne (Or.inl (own_w hw 123 rfl)) (Or.inl (own_w hw 95 rfl)) (by decide) (t := .int) (t' := .int) (by decide) (by decide)))
  exact Go.ret0 d8_39 rfl ⟨rfl, ky, K_431, f_432, f_433, f_434, f_435, f_436, f_437, f_438⟩ (by decide) (by decide)
set_option maxRecDepth 65536 in
set_option maxHeartbeats 40000000 in
theorem m_lv (l : Launch) (Z : State) (a0 : Array Value) (hw : ∀ d ∈ tables_1, d.before a0 Z = true) (a e : Addr) (k : Int32) (A : List Value) (h0 : Heap) (n0 : Nat) (z0 : n0 ≤ h0.size) (hF0 : Fld Z h0 a "com/example/nearword/nearword/internal/index/IntRuns" "at" "[I" (.ref e)) (hA : Ary Z h0 e .int A) (hk0 : 0 ≤ k.toInt) (hAk : A[k.toInt.toNat]? = some (.int (-1 : Int32))) : Mt false l Z (⟨"com/example/nearword/nearword/internal/index/IntRuns", "leave", "(I)V"⟩ : MethodName) prog_42_method_19_code 3 none ({ frames := 0, cells := 0, slots := 0, locals := 0 } : Room) n0 (fun v h => v = none ∧ h0 = h) h0 #[(.ref a), (.int k)] := by
  refine Mt.go (Ls := #[.val (.ref a), .val (.int k), .unset]) (plainFor_of_name pn1) (fun m => by first | (simp [entryFrame, mkF, argsToLocals, Value.category]; done) | rfl) ?_
  show Go _ _ _ _ _ _ _ _ _ _ _ _ h0 0 0 0 #[.val (.ref a), .val (.int k), .unset] []
  refine Go.aloadN (pc' := 1) d20_0 rfl rfl rfl ?_
  refine Go.getF (pc' := 4) (own_w hw 24 rfl) hF0 d20_1 rfl ?_
  refine Go.iloadN (pc' := 5) d20_4 rfl rfl ?_
  refine Go.ldI (pc' := 6) (k := k.toInt.toNat) (v := (.int (-1 : Int32))) hA (by omega) hAk d20_5 rfl ?_
  refine Go.istoreN (pc' := 7) (Ls' := #[.val (.ref a), .val (.int k), .val (.int (-1 : Int32))]) d20_6 rfl rfl ?_
  refine Go.iloadN (pc' := 8) d20_7 rfl rfl ?_
  refine Go.ifc (pc1 := 28) (pc2 := 11) d20_8 (by decide) (by decide) rfl (fun (c_439 : (-1 : Int) < 0) => ?_) (fun (c_439 : 0 ≤ (-1 : Int)) => ?_)
  rotate_left
  · exact absurd c_439 (by decide)
  exact Go.ret0 d20_28 rfl ⟨rfl, rfl⟩ (by decide) (by decide)
set_option maxRecDepth 65536 in
set_option maxHeartbeats 40000000 in
theorem m_cp (l : Launch) (Z : State) (a0 : Array Value) (hw : ∀ d ∈ tables_1, d.before a0 Z = true) (a : Addr) (ps : Int32) (h0 : Heap) (n0 : Nat) (z0 : n0 ≤ h0.size) (hF4 : Fld Z h0 a "com/example/nearword/nearword/internal/index/IntRuns" "poolLeft" "I" (.int 0)) (hF5 : Fld Z h0 a "com/example/nearword/nearword/internal/index/IntRuns" "poolSize" "I" (.int ps)) (hps : 0 ≤ ps.toInt) : Mt false l Z (⟨"com/example/nearword/nearword/internal/index/IntRuns", "compactIfHalfLeft", "()V"⟩ : MethodName) prog_42_method_25_code 1 none ({ frames := 0, cells := 0, slots := 0, locals := 0 } : Room) n0 (fun v h => v = none ∧ h0 = h) h0 #[(.ref a)] := by
  refine Mt.go (Ls := #[.val (.ref a)]) (plainFor_of_name pn1) (fun m => by first | (simp [entryFrame, mkF, argsToLocals, Value.category]; done) | rfl) ?_
  show Go _ _ _ _ _ _ _ _ _ _ _ _ h0 0 0 0 #[.val (.ref a)] []
  refine Go.aloadN (pc' := 1) d21_0 rfl rfl rfl ?_
  refine Go.getF (pc' := 4) (own_w hw 105 rfl) hF4 d21_1 rfl ?_
  refine Go.aloadN (pc' := 5) d21_4 rfl rfl rfl ?_
  refine Go.getF (pc' := 8) (own_w hw 107 rfl) hF5 d21_5 rfl ?_
  refine Go.iconst (pc' := 9) (v := (2 : Int32)) d21_8 rfl rfl ?_
  refine Go.idiv (pc' := 10) d21_9 (by decide) rfl ?_
  generalize ex_440 : ps / (2 : Int32) = x_440
  have k_441 : 0 ≤ x_440.toInt := by
    rw [← ex_440]
    have : (2 : Int32).toInt = 2 := by decide
    have := c_idiv ps (2 : Int32) 2 (by decide) (by decide)
    have := rng32 (ps / (2 : Int32))
    have := rng32 ps
    omega
  refine Go.icmp (pc1 := 17) (pc2 := 13) d21_10 (by decide) (by decide) rfl (fun (c_442 : (0 : Int) ≤ x_440.toInt) => ?_) (fun (c_442 : x_440.toInt < (0 : Int)) => ?_)
  rotate_left
  · exfalso; omega
  exact Go.ret0 d21_17 rfl ⟨rfl, rfl⟩ (by decide) (by decide)
set_option maxRecDepth 65536 in
set_option maxHeartbeats 40000000 in
theorem m_one0 (l : Launch) (Z : State) (a0 : Array Value) (hw : ∀ d ∈ tables_1, d.before a0 Z = true) (a e p : Addr) (ps k x : Int32) (h0 : Heap) (n0 : Nat) (z0 : n0 ≤ h0.size) (hE : Exa Z h0 a "com/example/nearword/nearword/internal/index/IntRuns") (hF0 : Fld Z h0 a "com/example/nearword/nearword/internal/index/IntRuns" "at" "[I" (.ref e)) (hF1 : Fld Z h0 a "com/example/nearword/nearword/internal/index/IntRuns" "pool" "[I" (.ref p)) (hF2 : Fld Z h0 a "com/example/nearword/nearword/internal/index/IntRuns" "mostInts" "I" (.int 1048576)) (hF3 : Fld Z h0 a "com/example/nearword/nearword/internal/index/IntRuns" "keys" "I" (.int 0)) (hF4 : Fld Z h0 a "com/example/nearword/nearword/internal/index/IntRuns" "poolLeft" "I" (.int 0)) (hF5 : Fld Z h0 a "com/example/nearword/nearword/internal/index/IntRuns" "poolSize" "I" (.int ps)) (hF6 : Fld Z h0 a "com/example/nearword/nearword/internal/index/IntRuns" "keysToCome" "I" (.int 0)) (hg : n0 ≤ a) (hA : Ary Z h0 e .int []) (hk0 : 0 ≤ k.toInt) (hk : k.toInt ≤ 15) (hps : 0 ≤ ps.toInt) : Mt true l Z (⟨"com/example/nearword/nearword/internal/index/IntRuns", "setOne", "(II)V"⟩ : MethodName) prog_42_method_17_code 3 none ({ frames := 5, cells := 3, slots := 104, locals := 92 } : Room) n0 (fun v h => v = none ∧ ∃ o ky, Keep h0 h [a] ∧ Fld Z h a "com/example/nearword/nearword/internal/index/IntRuns" "at" "[I" (.ref o) ∧ Fld Z h a "com/example/nearword/nearword/internal/index/IntRuns" "pool" "[I" (.ref p) ∧ Fld Z h a "com/example/nearword/nearword/internal/index/IntRuns" "mostInts" "I" (.int 1048576) ∧ Fld Z h a "com/example/nearword/nearword/internal/index/IntRuns" "keys" "I" (.int ky) ∧ Fld Z h a "com/example/nearword/nearword/internal/index/IntRuns" "poolLeft" "I" (.int 0) ∧ Fld Z h a "com/example/nearword/nearword/internal/index/IntRuns" "poolSize" "I" (.int ps) ∧ Fld Z h a "com/example/nearword/nearword/internal/index/IntRuns" "keysToCome" "I" (.int 0) ∧ Ary Z h o .int (own_m1.set k.toInt.toNat (.int ((-2 : Int32) - x))) ∧ h0.size ≤ o ∧ o < h.size) h0 #[(.ref a), (.int k), (.int x)] := by
  refine Mt.go (Ls := #[.val (.ref a), .val (.int k), .val (.int x)]) (plainFor_of_name pn1) (fun m => by first | (simp [entryFrame, mkF, argsToLocals, Value.category]; done) | rfl) ?_
  show Go _ _ _ _ _ _ _ _ _ _ _ _ h0 0 0 0 #[.val (.ref a), .val (.int k), .val (.int x)] []
  have n_443 : a ≠ e := by obtain ⟨_, Ag, -⟩ := hA; exact ne_arr hE (own_w hw 15 rfl) Ag
  refine Go.aloadN (pc' := 1) d7_0 rfl rfl rfl ?_
  refine Go.iloadN (pc' := 2) d7_1 rfl rfl ?_
  refine Go.callPW (pc' := 5) (argsL := [(.int k)]) (rest := []) (W := 0) (own_w hw 40 rfl) (own_w hw 41 rfl) (own_w hw 42 rfl) (own_w hw 16 rfl) (own_w hw 43 rfl) (own_w hw 33 rfl) rfl (by decide) hE (m_rk0 l Z a0 hw a e p ps k h0 n0 z0 hE hF0 hF1 hF2 hF3 hF4 hF5 hF6 hg hA hk0 hk) d7_2 rfl pd9 rfl rfl (Nat.le_of_eq rfl) (by decide) (by decide) (by decide) (by decide) rfl ?_
  rintro _ h_444 ⟨rfl, o_445, ky_446, K_447, F_451, F_452, F_453, F_454, F_455, F_456, F_457, A_448, q_449, t_450⟩
  have n_458 : a ≠ o_445 := Nat.ne_of_lt (Nat.lt_of_lt_of_le hE.lt q_449)
  have n_459 : e ≠ o_445 := Nat.ne_of_lt (Nat.lt_of_lt_of_le hA.lt q_449)
  have g_460 : n0 ≤ o_445 := Nat.le_trans z0 q_449
  have g_461 : h0.size ≤ o_445 := Nat.le_trans (Nat.le_refl _) q_449
  have f_462 : Exa Z h_444 a "com/example/nearword/nearword/internal/index/IntRuns" := hE.keep K_447
  have f_470 : Ary Z h_444 e .int [] := hA.sm (Sm.keep K_447 (ninS n_443.symm nin0))
  have t_471 : a < h_444.size := Nat.lt_of_lt_of_le hE.lt K_447.1
  have t_472 : e < h_444.size := Nat.lt_of_lt_of_le hA.lt K_447.1
  have z_473 : n0 ≤ h_444.size := Nat.le_trans z0 K_447.1
  have b_474 : h0.size ≤ h_444.size := Nat.le_trans (Nat.le_refl _) K_447.1
  have K_475 : Keep h0 h_444 [a] := (Keep.refl _ _).trans K_447 (allS (Or.inl (List.mem_of_getElem? (i := 0) rfl)) all0)
  show Go _ _ _ _ _ _ _ _ _ _ _ _ h_444 (0 + 3) (0 + 104) 5 #[.val (.ref a), .val (.int k), .val (.int x)] []
  refine Go.aloadN (pc' := 6) d7_5 rfl rfl rfl ?_
  refine Go.iloadN (pc' := 7) d7_6 rfl rfl ?_
  refine Go.callP (pc' := 10) (argsL := [(.int k)]) (rest := []) (W := 0) (own_w hw 97 rfl) (own_w hw 98 rfl) (own_w hw 99 rfl) (own_w hw 16 rfl) (own_w hw 100 rfl) (own_w hw 33 rfl) rfl (by decide) f_462 (m_lv l Z a0 hw a o_445 k own_m1 h_444 n0 z_473 F_451 A_448 hk0 (own_m1_at _ (by omega))) d7_7 rfl pd9 rfl rfl (Nat.le_of_eq rfl) (by decide) (by decide) (by decide) (by decide) rfl ?_
  rintro _ _ ⟨rfl, rfl⟩
  show Go _ _ _ _ _ _ _ _ _ _ _ _ h_444 (0 + 3 + 0) (0 + 104 + 0) 10 #[.val (.ref a), .val (.int k), .val (.int x)] []
  refine Go.aloadN (pc' := 11) d7_10 rfl rfl rfl ?_
  refine Go.getF (pc' := 14) (own_w hw 24 rfl) F_451 d7_11 rfl ?_
  refine Go.iloadN (pc' := 15) d7_14 rfl rfl ?_
  refine Go.bipush (pc' := 17) (v := (-2 : Int32)) d7_15 rfl rfl ?_
  refine Go.iloadN (pc' := 18) d7_17 rfl rfl ?_
  refine Go.isub (pc' := 19) d7_18 rfl ?_
  refine Go.stI (pc' := 20) (k := k.toInt.toNat) A_448 (by omega) (by show _ < (List.replicate 16 _).length; rw [List.length_replicate]; omega) d7_19 g_460 rfl ?_
  intro h_476 W_477 A_478
  have f_479 : Exa Z h_476 a "com/example/nearword/nearword/internal/index/IntRuns" := f_462.sm (Sm.wr W_477 n_458)
  have f_480 : Ary Z h_476 e .int [] := f_470.sm (Sm.wr W_477 n_459)
  have f_481 : Fld Z h_476 a "com/example/nearword/nearword/internal/index/IntRuns" "at" "[I" (.ref o_445) := F_451.sm (Sm.wr W_477 n_458)
  have f_482 : Fld Z h_476 a "com/example/nearword/nearword/internal/index/IntRuns" "pool" "[I" (.ref p) := F_452.sm (Sm.wr W_477 n_458)
  have f_483 : Fld Z h_476 a "com/example/nearword/nearword/internal/index/IntRuns" "mostInts" "I" (.int 1048576) := F_453.sm (Sm.wr W_477 n_458)
  have f_484 : Fld Z h_476 a "com/example/nearword/nearword/internal/index/IntRuns" "keys" "I" (.int ky_446) := F_454.sm (Sm.wr W_477 n_458)
  have f_485 : Fld Z h_476 a "com/example/nearword/nearword/internal/index/IntRuns" "poolLeft" "I" (.int 0) := F_455.sm (Sm.wr W_477 n_458)
  have f_486 : Fld Z h_476 a "com/example/nearword/nearword/internal/index/IntRuns" "poolSize" "I" (.int ps) := F_456.sm (Sm.wr W_477 n_458)
  have f_487 : Fld Z h_476 a "com/example/nearword/nearword/internal/index/IntRuns" "keysToCome" "I" (.int 0) := F_457.sm (Sm.wr W_477 n_458)
  have t_488 : a < h_476.size := Nat.lt_of_lt_of_le t_471 (Nat.le_of_eq W_477.size.symm)
  have t_489 : e < h_476.size := Nat.lt_of_lt_of_le t_472 (Nat.le_of_eq W_477.size.symm)
  have t_490 : o_445 < h_476.size := Nat.lt_of_lt_of_le t_450 (Nat.le_of_eq W_477.size.symm)
  have z_491 : n0 ≤ h_476.size := Nat.le_trans z_473 (Nat.le_of_eq W_477.size.symm)
  have b_492 : h0.size ≤ h_476.size := Nat.le_trans b_474 (Nat.le_of_eq W_477.size.symm)
  have K_493 : Keep h0 h_476 [a] := K_475.wr W_477 (Or.inr g_461)
  refine Go.aloadN (pc' := 21) d7_20 rfl rfl rfl ?_
  refine Go.callP (pc' := 24) (argsL := []) (rest := []) (W := 0) (own_w hw 101 rfl) (own_w hw 102 rfl) (own_w hw 103 rfl) (own_w hw 16 rfl) (own_w hw 104 rfl) (own_w hw 33 rfl) rfl (by decide) f_479 (m_cp l Z a0 hw a ps h_476 n0 z_491 f_485 f_486 hps) d7_21 rfl pd10 rfl rfl (Nat.le_of_eq rfl) (by decide) (by decide) (by decide) (by decide) rfl ?_
  rintro _ _ ⟨rfl, rfl⟩
  show Go _ _ _ _ _ _ _ _ _ _ _ _ h_476 (0 + 3 + 0 + 0) (0 + 104 + 0 + 0) 24 #[.val (.ref a), .val (.int k), .val (.int x)] []
  exact Go.ret0 d7_24 rfl ⟨rfl, o_445, ky_446, K_493, f_481, f_482, f_483, f_484, f_485, f_486, f_487, A_478, g_461, t_490⟩ (by decide) (by decide)
set_option maxRecDepth 65536 in
set_option maxHeartbeats 40000000 in
theorem m_one1 (l : Launch) (Z : State) (a0 : Array Value) (hw : ∀ d ∈ tables_1, d.before a0 Z = true) (a e p : Addr) (ks ps k x : Int32) (A : List Value) (h0 : Heap) (n0 : Nat) (z0 : n0 ≤ h0.size) (hE : Exa Z h0 a "com/example/nearword/nearword/internal/index/IntRuns") (hF0 : Fld Z h0 a "com/example/nearword/nearword/internal/index/IntRuns" "at" "[I" (.ref e)) (hF1 : Fld Z h0 a "com/example/nearword/nearword/internal/index/IntRuns" "pool" "[I" (.ref p)) (hF2 : Fld Z h0 a "com/example/nearword/nearword/internal/index/IntRuns" "mostInts" "I" (.int 1048576)) (hF3 : Fld Z h0 a "com/example/nearword/nearword/internal/index/IntRuns" "keys" "I" (.int ks)) (hF4 : Fld Z h0 a "com/example/nearword/nearword/internal/index/IntRuns" "poolLeft" "I" (.int 0)) (hF5 : Fld Z h0 a "com/example/nearword/nearword/internal/index/IntRuns" "poolSize" "I" (.int ps)) (hF6 : Fld Z h0 a "com/example/nearword/nearword/internal/index/IntRuns" "keysToCome" "I" (.int 0)) (hg : n0 ≤ a) (hA : Ary Z h0 e .int A) (hA16 : A.length = 16) (hk0 : 0 ≤ k.toInt) (hk : k.toInt ≤ 15) (hAk : A[k.toInt.toNat]? = some (.int (-1 : Int32))) (hge : n0 ≤ e) (hae : a ≠ e) (hps : 0 ≤ ps.toInt) : Mt false l Z (⟨"com/example/nearword/nearword/internal/index/IntRuns", "setOne", "(II)V"⟩ : MethodName) prog_42_method_17_code 3 none ({ frames := 2, cells := 0, slots := 0, locals := 35 } : Room) n0 (fun v h => v = none ∧ ∃ ky, Keep h0 h [a, e] ∧ Fld Z h a "com/example/nearword/nearword/internal/index/IntRuns" "at" "[I" (.ref e) ∧ Fld Z h a "com/example/nearword/nearword/internal/index/IntRuns" "pool" "[I" (.ref p) ∧ Fld Z h a "com/example/nearword/nearword/internal/index/IntRuns" "mostInts" "I" (.int 1048576) ∧ Fld Z h a "com/example/nearword/nearword/internal/index/IntRuns" "keys" "I" (.int ky) ∧ Fld Z h a "com/example/nearword/nearword/internal/index/IntRuns" "poolLeft" "I" (.int 0) ∧ Fld Z h a "com/example/nearword/nearword/internal/index/IntRuns" "poolSize" "I" (.int ps) ∧ Fld Z h a "com/example/nearword/nearword/internal/index/IntRuns" "keysToCome" "I" (.int 0) ∧ Ary Z h e .int (A.set k.toInt.toNat (.int ((-2 : Int32) - x)))) h0 #[(.ref a), (.int k), (.int x)] := by
  refine Mt.go (Ls := #[.val (.ref a), .val (.int k), .val (.int x)]) (plainFor_of_name pn1) (fun m => by first | (simp [entryFrame, mkF, argsToLocals, Value.category]; done) | rfl) ?_
  show Go _ _ _ _ _ _ _ _ _ _ _ _ h0 0 0 0 #[.val (.ref a), .val (.int k), .val (.int x)] []
  have n_494 : a ≠ e := by obtain ⟨_, Ag, -⟩ := hA; exact ne_arr hE (own_w hw 15 rfl) Ag
  refine Go.aloadN (pc' := 1) d7_0 rfl rfl rfl ?_
  refine Go.iloadN (pc' := 2) d7_1 rfl rfl ?_
  refine Go.callP (pc' := 5) (argsL := [(.int k)]) (rest := []) (W := 0) (own_w hw 40 rfl) (own_w hw 41 rfl) (own_w hw 42 rfl) (own_w hw 16 rfl) (own_w hw 43 rfl) (own_w hw 33 rfl) rfl (by decide) hE (m_rk1 l Z a0 hw a e p ks ps k A h0 n0 z0 hE hF0 hF1 hF2 hF3 hF4 hF5 hF6 hg hA hA16 hk0 hk) d7_2 rfl pd9 rfl rfl (Nat.le_of_eq rfl) (by decide) (by decide) (by decide) (by decide) rfl ?_
  rintro _ h_495 ⟨rfl, ky_496, K_497, F_498, F_499, F_500, F_501, F_502, F_503, F_504⟩
  have f_505 : Exa Z h_495 a "com/example/nearword/nearword/internal/index/IntRuns" := hE.keep K_497
  have f_513 : Ary Z h_495 e .int A := hA.sm (Sm.keep K_497 (ninS hae.symm nin0))
  have t_514 : a < h_495.size := Nat.lt_of_lt_of_le hE.lt K_497.1
  have t_515 : e < h_495.size := Nat.lt_of_lt_of_le hA.lt K_497.1
  have z_516 : n0 ≤ h_495.size := Nat.le_trans z0 K_497.1
  have b_517 : h0.size ≤ h_495.size := Nat.le_trans (Nat.le_refl _) K_497.1
  have K_518 : Keep h0 h_495 [a, e] := (Keep.refl _ _).trans K_497 (allS (Or.inl (List.mem_of_getElem? (i := 0) rfl)) all0)
  show Go _ _ _ _ _ _ _ _ _ _ _ _ h_495 (0 + 0) (0 + 0) 5 #[.val (.ref a), .val (.int k), .val (.int x)] []
  refine Go.aloadN (pc' := 6) d7_5 rfl rfl rfl ?_
  refine Go.iloadN (pc' := 7) d7_6 rfl rfl ?_
  refine Go.callP (pc' := 10) (argsL := [(.int k)]) (rest := []) (W := 0) (own_w hw 97 rfl) (own_w hw 98 rfl) (own_w hw 99 rfl) (own_w hw 16 rfl) (own_w hw 100 rfl) (own_w hw 33 rfl) rfl (by decide) f_505 (m_lv l Z a0 hw a e k A h_495 n0 z_516 F_498 f_513 hk0 hAk) d7_7 rfl pd9 rfl rfl (Nat.le_of_eq rfl) (by decide) (by decide) (by decide) (by decide) rfl ?_
  rintro _ _ ⟨rfl, rfl⟩
  show Go _ _ _ _ _ _ _ _ _ _ _ _ h_495 (0 + 0 + 0) (0 + 0 + 0) 10 #[.val (.ref a), .val (.int k), .val (.int x)] []
  refine Go.aloadN (pc' := 11) d7_10 rfl rfl rfl ?_
  refine Go.getF (pc' := 14) (own_w hw 24 rfl) F_498 d7_11 rfl ?_
  refine Go.iloadN (pc' := 15) d7_14 rfl rfl ?_
  refine Go.bipush (pc' := 17) (v := (-2 : Int32)) d7_15 rfl rfl ?_
  refine Go.iloadN (pc' := 18) d7_17 rfl rfl ?_
  refine Go.isub (pc' := 19) d7_18 rfl ?_
  refine Go.stI (pc' := 20) (k := k.toInt.toNat) f_513 (by omega) (by omega) d7_19 hge rfl ?_
  intro h_519 W_520 A_521
  have f_522 : Exa Z h_519 a "com/example/nearword/nearword/internal/index/IntRuns" := f_505.sm (Sm.wr W_520 hae)
  have f_523 : Fld Z h_519 a "com/example/nearword/nearword/internal/index/IntRuns" "at" "[I" (.ref e) := F_498.sm (Sm.wr W_520 hae)
  have f_524 : Fld Z h_519 a "com/example/nearword/nearword/internal/index/IntRuns" "pool" "[I" (.ref p) := F_499.sm (Sm.wr W_520 hae)
  have f_525 : Fld Z h_519 a "com/example/nearword/nearword/internal/index/IntRuns" "mostInts" "I" (.int 1048576) := F_500.sm (Sm.wr W_520 hae)
  have f_526 : Fld Z h_519 a "com/example/nearword/nearword/internal/index/IntRuns" "keys" "I" (.int ky_496) := F_501.sm (Sm.wr W_520 hae)
  have f_527 : Fld Z h_519 a "com/example/nearword/nearword/internal/index/IntRuns" "poolLeft" "I" (.int 0) := F_502.sm (Sm.wr W_520 hae)
  have f_528 : Fld Z h_519 a "com/example/nearword/nearword/internal/index/IntRuns" "poolSize" "I" (.int ps) := F_503.sm (Sm.wr W_520 hae)
  have f_529 : Fld Z h_519 a "com/example/nearword/nearword/internal/index/IntRuns" "keysToCome" "I" (.int 0) := F_504.sm (Sm.wr W_520 hae)
  have t_530 : a < h_519.size := Nat.lt_of_lt_of_le t_514 (Nat.le_of_eq W_520.size.symm)
  have t_531 : e < h_519.size := Nat.lt_of_lt_of_le t_515 (Nat.le_of_eq W_520.size.symm)
  have z_532 : n0 ≤ h_519.size := Nat.le_trans z_516 (Nat.le_of_eq W_520.size.symm)
  have b_533 : h0.size ≤ h_519.size := Nat.le_trans b_517 (Nat.le_of_eq W_520.size.symm)
  have K_534 : Keep h0 h_519 [a, e] := K_518.wr W_520 (Or.inl (List.mem_of_getElem? (i := 1) rfl))
  refine Go.aloadN (pc' := 21) d7_20 rfl rfl rfl ?_
  refine Go.callP (pc' := 24) (argsL := []) (rest := []) (W := 0) (own_w hw 101 rfl) (own_w hw 102 rfl) (own_w hw 103 rfl) (own_w hw 16 rfl) (own_w hw 104 rfl) (own_w hw 33 rfl) rfl (by decide) f_522 (m_cp l Z a0 hw a ps h_519 n0 z_532 f_527 f_528 hps) d7_21 rfl pd10 rfl rfl (Nat.le_of_eq rfl) (by decide) (by decide) (by decide) (by decide) rfl ?_
  rintro _ _ ⟨rfl, rfl⟩
  show Go _ _ _ _ _ _ _ _ _ _ _ _ h_519 (0 + 0 + 0 + 0) (0 + 0 + 0 + 0) 24 #[.val (.ref a), .val (.int k), .val (.int x)] []
  exact Go.ret0 d7_24 rfl ⟨rfl, ky_496, K_534, f_523, f_524, f_525, f_526, f_527, f_528, f_529, A_521⟩ (by decide) (by decide)
set_option maxRecDepth 65536 in
set_option maxHeartbeats 40000000 in
theorem m_mr0 (l : Launch) (Z : State) (a0 : Array Value) (hw : ∀ d ∈ tables_1, d.before a0 Z = true) (a e p : Addr) (x : Int64) (h0 : Heap) (n0 : Nat) (z0 : n0 ≤ h0.size) (hE : Exa Z h0 a "com/example/nearword/nearword/internal/index/IntRuns") (hF0 : Fld Z h0 a "com/example/nearword/nearword/internal/index/IntRuns" "at" "[I" (.ref e)) (hF1 : Fld Z h0 a "com/example/nearword/nearword/internal/index/IntRuns" "pool" "[I" (.ref p)) (hF2 : Fld Z h0 a "com/example/nearword/nearword/internal/index/IntRuns" "mostInts" "I" (.int 1048576)) (hF3 : Fld Z h0 a "com/example/nearword/nearword/internal/index/IntRuns" "keys" "I" (.int 0)) (hF4 : Fld Z h0 a "com/example/nearword/nearword/internal/index/IntRuns" "poolLeft" "I" (.int 0)) (hF5 : Fld Z h0 a "com/example/nearword/nearword/internal/index/IntRuns" "poolSize" "I" (.int 0)) (hF6 : Fld Z h0 a "com/example/nearword/nearword/internal/index/IntRuns" "keysToCome" "I" (.int 0)) (hg : n0 ≤ a) (hB : Ary Z h0 p .int []) (hx0 : 0 < x.toInt) (hx : x.toInt ≤ 16) : Mt true l Z (⟨"com/example/nearword/nearword/internal/index/IntRuns", "makeRoom", "(J)V"⟩ : MethodName) prog_42_method_24_code 7 none ({ frames := 3, cells := 3, slots := 104, locals := 60 } : Room) n0 (fun v h => v = none ∧ ∃ o, Keep h0 h [a] ∧ Fld Z h a "com/example/nearword/nearword/internal/index/IntRuns" "at" "[I" (.ref e) ∧ Fld Z h a "com/example/nearword/nearword/internal/index/IntRuns" "pool" "[I" (.ref o) ∧ Fld Z h a "com/example/nearword/nearword/internal/index/IntRuns" "mostInts" "I" (.int 1048576) ∧ Fld Z h a "com/example/nearword/nearword/internal/index/IntRuns" "keys" "I" (.int 0) ∧ Fld Z h a "com/example/nearword/nearword/internal/index/IntRuns" "poolLeft" "I" (.int 0) ∧ Fld Z h a "com/example/nearword/nearword/internal/index/IntRuns" "poolSize" "I" (.int 0) ∧ Fld Z h a "com/example/nearword/nearword/internal/index/IntRuns" "keysToCome" "I" (.int 0) ∧ Ary Z h o .int [(.int 0), (.int 0), (.int 0), (.int 0), (.int 0), (.int 0), (.int 0), (.int 0), (.int 0), (.int 0), (.int 0), (.int 0), (.int 0), (.int 0), (.int 0), (.int 0)] ∧ h0.size ≤ o ∧ o < h.size) h0 #[(.ref a), (.long x)] := by
  refine Mt.go (Ls := #[.val (.ref a), .val (.long x), .second, .unset, .unset, .unset, .unset]) (plainFor_of_name pn1) (fun m => by first | (simp [entryFrame, mkF, argsToLocals, Value.category]; done) | rfl) ?_
  show Go _ _ _ _ _ _ _ _ _ _ _ _ h0 0 0 0 #[.val (.ref a), .val (.long x), .second, .unset, .unset, .unset, .unset] []
  have n_535 : a ≠ p := by obtain ⟨_, Ag, -⟩ := hB; exact ne_arr hE (own_w hw 15 rfl) Ag
  have zl : ((0 : Int32).toInt64).toInt = 0 := rfl
  refine Go.lloadN (pc' := 1) d24_0 rfl rfl ?_
  refine Go.aloadN (pc' := 2) d24_1 rfl rfl rfl ?_
  refine Go.getF (pc' := 5) (own_w hw 26 rfl) hF1 d24_2 rfl ?_
  refine Go.alen (pc' := 6) (z := (0 : Int32)) hB rfl d24_5 rfl ?_
  refine Go.i2l (pc' := 7) d24_6 rfl ?_
  refine Go.lcmp (pc' := 8) d24_7 rfl ?_
  refine Go.ifw (pc1 := 114) (pc2 := 11) d24_8 (by decide) (by decide) rfl (fun (c_536 : x.toInt ≤ ((0 : Int32).toInt64).toInt) => ?_) (fun (c_536 : ((0 : Int32).toInt64).toInt < x.toInt) => ?_)
  · exfalso; omega
  refine Go.lloadN (pc' := 12) d24_11 rfl rfl ?_
  refine Go.lstoreN (pc' := 13) (Ls' := #[.val (.ref a), .val (.long x), .second, .val (.long x), .second, .unset, .unset]) d24_12 rfl rfl ?_
  refine Go.aloadN (pc' := 14) d24_13 rfl rfl rfl ?_
  refine Go.getF (pc' := 17) (own_w hw 94 rfl) hF3 d24_14 rfl ?_
  refine Go.aloadN (pc' := 18) d24_17 rfl rfl rfl ?_
  refine Go.getF (pc' := 21) (own_w hw 122 rfl) hF6 d24_18 rfl ?_
  refine Go.icmp (pc1 := 90) (pc2 := 24) d24_21 (by decide) (by decide) rfl (fun (c_537 : (0 : Int) ≤ (0 : Int)) => ?_) (fun (c_537 : (0 : Int) < (0 : Int)) => ?_)
  rotate_left
  · exact absurd c_537 (by decide)
  refine Go.aloadN (pc' := 91) d24_90 rfl rfl rfl ?_
  refine Go.aloadN (pc' := 92) d24_91 rfl rfl rfl ?_
  refine Go.getF (pc' := 95) (own_w hw 26 rfl) hF1 d24_92 rfl ?_
  refine Go.aloadN (pc' := 96) d24_95 rfl rfl rfl ?_
  refine Go.getF (pc' := 99) (own_w hw 26 rfl) hF1 d24_96 rfl ?_
  refine Go.alen (pc' := 100) (z := (0 : Int32)) hB rfl d24_99 rfl ?_
  refine Go.lloadN (pc' := 101) d24_100 rfl rfl ?_
  refine Go.aloadN (pc' := 102) d24_101 rfl rfl rfl ?_
  refine Go.getF (pc' := 105) (own_w hw 28 rfl) hF2 d24_102 rfl ?_
  refine Go.callSW (pc' := 108) (argsL := [(.int 0), (.long x), (.int 1048576)]) (rest := [(.ref p), (.ref a)]) (W := 2) (own_w hw 124 rfl) (own_w hw 50 rfl) (own_w hw 46 rfl) (own_w hw 51 rfl) (by decide) (m_g3 l Z a0 hw x (1048576 : Int32) h0 n0 z0 (by omega) (by omega) (by decide)) d24_105 rfl pd4 rfl rfl (Nat.le_of_eq rfl) (by decide) (by decide) (by decide) (by decide) rfl ?_
  rintro _ h_538 ⟨rfl, K_539⟩
  have f_540 : Exa Z h_538 a "com/example/nearword/nearword/internal/index/IntRuns" := hE.sm (Sm.keep K_539 nin0)
  have f_541 : Fld Z h_538 a "com/example/nearword/nearword/internal/index/IntRuns" "at" "[I" (.ref e) := hF0.sm (Sm.keep K_539 nin0)
  have f_542 : Fld Z h_538 a "com/example/nearword/nearword/internal/index/IntRuns" "pool" "[I" (.ref p) := hF1.sm (Sm.keep K_539 nin0)
  have f_543 : Fld Z h_538 a "com/example/nearword/nearword/internal/index/IntRuns" "mostInts" "I" (.int 1048576) := hF2.sm (Sm.keep K_539 nin0)
  have f_544 : Fld Z h_538 a "com/example/nearword/nearword/internal/index/IntRuns" "keys" "I" (.int 0) := hF3.sm (Sm.keep K_539 nin0)
  have f_545 : Fld Z h_538 a "com/example/nearword/nearword/internal/index/IntRuns" "poolLeft" "I" (.int 0) := hF4.sm (Sm.keep K_539 nin0)
  have f_546 : Fld Z h_538 a "com/example/nearword/nearword/internal/index/IntRuns" "poolSize" "I" (.int 0) := hF5.sm (Sm.keep K_539 nin0)
  have f_547 : Fld Z h_538 a "com/example/nearword/nearword/internal/index/IntRuns" "keysToCome" "I" (.int 0) := hF6.sm (Sm.keep K_539 nin0)
  have f_548 : Ary Z h_538 p .int [] := hB.sm (Sm.keep K_539 nin0)
  have t_549 : a < h_538.size := Nat.lt_of_lt_of_le hE.lt K_539.1
  have t_550 : p < h_538.size := Nat.lt_of_lt_of_le hB.lt K_539.1
  have z_551 : n0 ≤ h_538.size := Nat.le_trans z0 K_539.1
  have b_552 : h0.size ≤ h_538.size := Nat.le_trans (Nat.le_refl _) K_539.1
  have K_553 : Keep h0 h_538 [a] := (Keep.refl _ _).trans K_539 all0
  show Go _ _ _ _ _ _ _ _ _ _ _ _ h_538 (0 + 2) (0 + 88) 108 #[.val (.ref a), .val (.long x), .second, .val (.long x), .second, .unset, .unset] [(.int 16), (.ref p), (.ref a)]
  refine Go.callS (pc' := 111) (argsL := [(.ref p), (.int 16)]) (rest := [(.ref a)]) (W := 1) (own_w hw 79 rfl) (own_w hw 80 rfl) (own_w hw 81 rfl) (own_w hw 82 rfl) (by decide) (m_copy l Z a0 hw p h_538 n0 z_551 f_548) d24_108 rfl pd6 rfl rfl (Nat.le_of_eq rfl) (by decide) (by decide) (by decide) (by decide) rfl ?_
  rintro _ h_554 ⟨o_555, rfl, K_556, A_557, q_558, t_559⟩
  have n_560 : a ≠ o_555 := Nat.ne_of_lt (Nat.lt_of_lt_of_le t_549 q_558)
  have n_561 : p ≠ o_555 := Nat.ne_of_lt (Nat.lt_of_lt_of_le t_550 q_558)
  have g_562 : n0 ≤ o_555 := Nat.le_trans z_551 q_558
  have g_563 : h0.size ≤ o_555 := Nat.le_trans b_552 q_558
  have f_564 : Exa Z h_554 a "com/example/nearword/nearword/internal/index/IntRuns" := f_540.sm (Sm.keep K_556 nin0)
  have f_565 : Fld Z h_554 a "com/example/nearword/nearword/internal/index/IntRuns" "at" "[I" (.ref e) := f_541.sm (Sm.keep K_556 nin0)
  have f_566 : Fld Z h_554 a "com/example/nearword/nearword/internal/index/IntRuns" "pool" "[I" (.ref p) := f_542.sm (Sm.keep K_556 nin0)
  have f_567 : Fld Z h_554 a "com/example/nearword/nearword/internal/index/IntRuns" "mostInts" "I" (.int 1048576) := f_543.sm (Sm.keep K_556 nin0)
  have f_568 : Fld Z h_554 a "com/example/nearword/nearword/internal/index/IntRuns" "keys" "I" (.int 0) := f_544.sm (Sm.keep K_556 nin0)
  have f_569 : Fld Z h_554 a "com/example/nearword/nearword/internal/index/IntRuns" "poolLeft" "I" (.int 0) := f_545.sm (Sm.keep K_556 nin0)
  have f_570 : Fld Z h_554 a "com/example/nearword/nearword/internal/index/IntRuns" "poolSize" "I" (.int 0) := f_546.sm (Sm.keep K_556 nin0)
  have f_571 : Fld Z h_554 a "com/example/nearword/nearword/internal/index/IntRuns" "keysToCome" "I" (.int 0) := f_547.sm (Sm.keep K_556 nin0)
  have f_572 : Ary Z h_554 p .int [] := f_548.sm (Sm.keep K_556 nin0)
  have t_573 : a < h_554.size := Nat.lt_of_lt_of_le t_549 K_556.1
  have t_574 : p < h_554.size := Nat.lt_of_lt_of_le t_550 K_556.1
  have z_575 : n0 ≤ h_554.size := Nat.le_trans z_551 K_556.1
  have b_576 : h0.size ≤ h_554.size := Nat.le_trans b_552 K_556.1
  have K_577 : Keep h0 h_554 [a] := K_553.trans K_556 all0
  show Go _ _ _ _ _ _ _ _ _ _ _ _ h_554 (0 + 2 + 1) (0 + 88 + 16) 111 #[.val (.ref a), .val (.long x), .second, .val (.long x), .second, .unset, .unset] [(.ref o_555), (.ref a)]
  refine Go.putF (pc' := 114) (ty := (.array .int)) (own_w hw 26 rfl) f_566 f_564 (Or.inl (own_w hw 27 rfl)) (own_w hw 15 rfl) (by decide) rfl rfl d24_111 hg rfl ?_
  intro h_578 W_579
  have f_580 : Exa Z h_578 a "com/example/nearword/nearword/internal/index/IntRuns" := Exa.wr W_579 f_564
  have f_581 : Ary Z h_578 p .int [] := f_572.sm (Sm.wr W_579 n_535.symm)
  have f_582 : Ary Z h_578 o_555 .int [(.int 0), (.int 0), (.int 0), (.int 0), (.int 0), (.int 0), (.int 0), (.int 0), (.int 0), (.int 0), (.int 0), (.int 0), (.int 0), (.int 0), (.int 0), (.int 0)] := A_557.sm (Sm.wr W_579 n_560.symm)
  have t_583 : a < h_578.size := Nat.lt_of_lt_of_le t_573 (Nat.le_of_eq W_579.size.symm)
  have t_584 : p < h_578.size := Nat.lt_of_lt_of_le t_574 (Nat.le_of_eq W_579.size.symm)
  have t_585 : o_555 < h_578.size := Nat.lt_of_lt_of_le t_559 (Nat.le_of_eq W_579.size.symm)
  have z_586 : n0 ≤ h_578.size := Nat.le_trans z_575 (Nat.le_of_eq W_579.size.symm)
  have b_587 : h0.size ≤ h_578.size := Nat.le_trans b_576 (Nat.le_of_eq W_579.size.symm)
  have K_588 : Keep h0 h_578 [a] := K_577.wr W_579 (Or.inl (List.mem_of_getElem? (i := 0) rfl))
  have f_589 : Fld Z h_578 a "com/example/nearword/nearword/internal/index/IntRuns" "at" "[I" (.ref e) := Fld.other W_579 f_565 (Or.inr (slot_ne (Or.inl (own_w hw 25 rfl)) (Or.inl (own_w hw 27 rfl)) (by decide) (t := (.array .int)) (t' := (.array .int)) (by decide) (by decide)))
  have f_590 : Fld Z h_578 a "com/example/nearword/nearword/internal/index/IntRuns" "pool" "[I" (.ref o_555) := Fld.same W_579 f_566
  have f_591 : Fld Z h_578 a "com/example/nearword/nearword/internal/index/IntRuns" "mostInts" "I" (.int 1048576) := Fld.other W_579 f_567 (Or.inr (slot_ne (Or.inr (own_w hw 29 rfl)) (Or.inl (own_w hw 27 rfl)) (by decide) (t := .int) (t' := (.array .int)) (by decide) (by decide)))
  have f_592 : Fld Z h_578 a "com/example/nearword/nearword/internal/index/IntRuns" "keys" "I" (.int 0) := Fld.other W_579 f_568 (Or.inr (slot_ne (Or.inl (own_w hw 95 rfl)) (Or.inl (own_w hw 27 rfl)) (by decide) (t := .int) (t' := (.array .int)) (by decide) (by decide)))
  have f_593 : Fld Z h_578 a "com/example/nearword/nearword/internal/index/IntRuns" "poolLeft" "I" (.int 0) := Fld.other W_579 f_569 (Or.inr (slot_ne (Or.inl (own_w hw 106 rfl)) (Or.inl (own_w hw 27 rfl)) (by decide) (t := .int) (t' := (.array .int)) (by decide) (by decide)))
  have f_594 : Fld Z h_578 a "com/example/nearword/nearword/internal/index/IntRuns" "poolSize" "I" (.int 0) := Fld.other W_579 f_570 (Or.inr (slot_ne (Or.inl (own_w hw 108 rfl)) (Or.inl (own_w hw 27 rfl)) (by decide) (t := .int) (t' := (.array .int)) (by decide) (by decide)))
  have f_595 : Fld Z h_578 a "com/example/nearword/nearword/internal/index/IntRuns" "keysToCome" "I" (.int 0) := Fld.other W_579 f_571 (Or.inr (slot_ne (Or.inl (own_w hw 123 rfl)) (Or.inl (own_w hw 27 rfl)) (by decide) (t := .int) (t' := (.array .int)) (by decide) (by decide)))
  exact Go.ret0 d24_114 rfl ⟨rfl, o_555, K_588, f_589, f_590, f_591, f_592, f_593, f_594, f_595, f_582, g_563, t_585⟩ (by decide) (by decide)
set_option maxRecDepth 65536 in
set_option maxHeartbeats 40000000 in
theorem m_mr1 (l : Launch) (Z : State) (a0 : Array Value) (hw : ∀ d ∈ tables_1, d.before a0 Z = true) (a p : Addr) (x : Int64) (B : List Value) (h0 : Heap) (n0 : Nat) (z0 : n0 ≤ h0.size) (hF1 : Fld Z h0 a "com/example/nearword/nearword/internal/index/IntRuns" "pool" "[I" (.ref p)) (hB : Ary Z h0 p .int B) (hB16 : B.length = 16) (hx : x.toInt ≤ 16) : Mt false l Z (⟨"com/example/nearword/nearword/internal/index/IntRuns", "makeRoom", "(J)V"⟩ : MethodName) prog_42_method_24_code 7 none ({ frames := 0, cells := 0, slots := 0, locals := 0 } : Room) n0 (fun v h => v = none ∧ h0 = h) h0 #[(.ref a), (.long x)] := by
  refine Mt.go (Ls := #[.val (.ref a), .val (.long x), .second, .unset, .unset, .unset, .unset]) (plainFor_of_name pn1) (fun m => by first | (simp [entryFrame, mkF, argsToLocals, Value.category]; done) | rfl) ?_
  show Go _ _ _ _ _ _ _ _ _ _ _ _ h0 0 0 0 #[.val (.ref a), .val (.long x), .second, .unset, .unset, .unset, .unset] []
  have zl : ((16 : Int32).toInt64).toInt = 16 := rfl
  refine Go.lloadN (pc' := 1) d24_0 rfl rfl ?_
  refine Go.aloadN (pc' := 2) d24_1 rfl rfl rfl ?_
  refine Go.getF (pc' := 5) (own_w hw 26 rfl) hF1 d24_2 rfl ?_
  refine Go.alen (pc' := 6) (z := (16 : Int32)) hB (by rw [hB16]; rfl) d24_5 rfl ?_
  refine Go.i2l (pc' := 7) d24_6 rfl ?_
  refine Go.lcmp (pc' := 8) d24_7 rfl ?_
  refine Go.ifw (pc1 := 114) (pc2 := 11) d24_8 (by decide) (by decide) rfl (fun (c_596 : x.toInt ≤ ((16 : Int32).toInt64).toInt) => ?_) (fun (c_596 : ((16 : Int32).toInt64).toInt < x.toInt) => ?_)
  rotate_left
  · exfalso; omega
  exact Go.ret0 d24_114 rfl ⟨rfl, rfl⟩ (by decide) (by decide)
set_option maxRecDepth 65536 in
set_option maxHeartbeats 40000000 in
theorem m_pl0 (l : Launch) (Z : State) (a0 : Array Value) (hw : ∀ d ∈ tables_1, d.before a0 Z = true) (a e p : Addr) (k n : Int32) (h0 : Heap) (n0 : Nat) (z0 : n0 ≤ h0.size) (hE : Exa Z h0 a "com/example/nearword/nearword/internal/index/IntRuns") (hF0 : Fld Z h0 a "com/example/nearword/nearword/internal/index/IntRuns" "at" "[I" (.ref e)) (hF1 : Fld Z h0 a "com/example/nearword/nearword/internal/index/IntRuns" "pool" "[I" (.ref p)) (hF2 : Fld Z h0 a "com/example/nearword/nearword/internal/index/IntRuns" "mostInts" "I" (.int 1048576)) (hF3 : Fld Z h0 a "com/example/nearword/nearword/internal/index/IntRuns" "keys" "I" (.int 0)) (hF4 : Fld Z h0 a "com/example/nearword/nearword/internal/index/IntRuns" "poolLeft" "I" (.int 0)) (hF5 : Fld Z h0 a "com/example/nearword/nearword/internal/index/IntRuns" "poolSize" "I" (.int 0)) (hF6 : Fld Z h0 a "com/example/nearword/nearword/internal/index/IntRuns" "keysToCome" "I" (.int 0)) (hg : n0 ≤ a) (hA : Ary Z h0 e .int []) (hB : Ary Z h0 p .int []) (hk0 : 0 ≤ k.toInt) (hk : k.toInt ≤ 15) (hn0 : 0 ≤ n.toInt) (hn : n.toInt ≤ 6) : Mt true l Z (⟨"com/example/nearword/nearword/internal/index/IntRuns", "place", "(II)I"⟩ : MethodName) prog_42_method_18_code 4 (some .int) ({ frames := 5, cells := 6, slots := 208, locals := 95 } : Room) n0 (fun v h => v = some (.int 0) ∧ ∃ o b ky s, Keep h0 h [a] ∧ Fld Z h a "com/example/nearword/nearword/internal/index/IntRuns" "at" "[I" (.ref o) ∧ Fld Z h a "com/example/nearword/nearword/internal/index/IntRuns" "pool" "[I" (.ref b) ∧ Fld Z h a "com/example/nearword/nearword/internal/index/IntRuns" "mostInts" "I" (.int 1048576) ∧ Fld Z h a "com/example/nearword/nearword/internal/index/IntRuns" "keys" "I" (.int ky) ∧ Fld Z h a "com/example/nearword/nearword/internal/index/IntRuns" "poolLeft" "I" (.int 0) ∧ Fld Z h a "com/example/nearword/nearword/internal/index/IntRuns" "poolSize" "I" (.int s) ∧ Fld Z h a "com/example/nearword/nearword/internal/index/IntRuns" "keysToCome" "I" (.int 0) ∧ Ary Z h o .int (own_m1.set k.toInt.toNat (.int 0)) ∧ Ary Z h b .int [(.int n), (.int 0), (.int 0), (.int 0), (.int 0), (.int 0), (.int 0), (.int 0), (.int 0), (.int 0), (.int 0), (.int 0), (.int 0), (.int 0), (.int 0), (.int 0)] ∧ h0.size ≤ o ∧ o < h.size ∧ h0.size ≤ b ∧ b < h.size ∧ o ≠ b ∧ s.toInt = 1 + n.toInt) h0 #[(.ref a), (.int k), (.int n)] := by
  refine Mt.go (Ls := #[.val (.ref a), .val (.int k), .val (.int n), .unset]) (plainFor_of_name pn1) (fun m => by first | (simp [entryFrame, mkF, argsToLocals, Value.category]; done) | rfl) ?_
  show Go _ _ _ _ _ _ _ _ _ _ _ _ h0 0 0 0 #[.val (.ref a), .val (.int k), .val (.int n), .unset] []
  have n_597 : a ≠ e := by obtain ⟨_, Ag, -⟩ := hA; exact ne_arr hE (own_w hw 15 rfl) Ag
  have n_598 : a ≠ p := by obtain ⟨_, Ag, -⟩ := hB; exact ne_arr hE (own_w hw 15 rfl) Ag
  refine Go.aloadN (pc' := 1) d23_0 rfl rfl rfl ?_
  refine Go.aloadN (pc' := 2) d23_1 rfl rfl rfl ?_
  refine Go.getF (pc' := 5) (own_w hw 107 rfl) hF5 d23_2 rfl ?_
  refine Go.i2l (pc' := 6) d23_5 rfl ?_
  refine Go.lconst (pc' := 7) (v := (1 : Int64)) d23_6 rfl rfl ?_
  refine Go.ladd (pc' := 8) d23_7 rfl ?_
  refine Go.iloadN (pc' := 9) d23_8 rfl rfl ?_
  refine Go.i2l (pc' := 10) d23_9 rfl ?_
  refine Go.ladd (pc' := 11) d23_10 rfl ?_
  generalize ex_599 : (((0 : Int32).toInt64) + (1 : Int64)) + n.toInt64 = x_599
  have k_600 : x_599.toInt = 1 + n.toInt := by
    rw [← ex_599]
    have : (0 : Int32).toInt = 0 := by decide
    have := c_i2l (0 : Int32)
    have := rng64 ((0 : Int32).toInt64)
    have : (1 : Int64).toInt = 1 := by decide
    have := c_ladd ((0 : Int32).toInt64) (1 : Int64)
    have := rng64 (((0 : Int32).toInt64) + (1 : Int64))
    have := c_i2l n
    have := rng64 n.toInt64
    have := rng32 n
    have := c_ladd (((0 : Int32).toInt64) + (1 : Int64)) n.toInt64
    have := rng64 ((((0 : Int32).toInt64) + (1 : Int64)) + n.toInt64)
    have : ((0 : Int32).toInt64).toInt = 0 := rfl
    omega
  refine Go.callPW (pc' := 14) (argsL := [(.long x_599)]) (rest := []) (W := 0) (own_w hw 118 rfl) (own_w hw 119 rfl) (own_w hw 120 rfl) (own_w hw 16 rfl) (own_w hw 121 rfl) (own_w hw 33 rfl) rfl (by decide) hE (m_mr0 l Z a0 hw a e p x_599 h0 n0 z0 hE hF0 hF1 hF2 hF3 hF4 hF5 hF6 hg hB (by omega) (by omega)) d23_11 rfl pd11 rfl rfl (Nat.le_of_eq rfl) (by decide) (by decide) (by decide) (by decide) rfl ?_
  rintro _ h_601 ⟨rfl, o_602, K_603, F_607, F_608, F_609, F_610, F_611, F_612, F_613, A_604, q_605, t_606⟩
  have n_614 : a ≠ o_602 := Nat.ne_of_lt (Nat.lt_of_lt_of_le hE.lt q_605)
  have n_615 : e ≠ o_602 := Nat.ne_of_lt (Nat.lt_of_lt_of_le hA.lt q_605)
  have n_616 : p ≠ o_602 := Nat.ne_of_lt (Nat.lt_of_lt_of_le hB.lt q_605)
  have g_617 : n0 ≤ o_602 := Nat.le_trans z0 q_605
  have g_618 : h0.size ≤ o_602 := Nat.le_trans (Nat.le_refl _) q_605
  have f_619 : Exa Z h_601 a "com/example/nearword/nearword/internal/index/IntRuns" := hE.keep K_603
  have f_627 : Ary Z h_601 e .int [] := hA.sm (Sm.keep K_603 (ninS n_597.symm nin0))
  have f_628 : Ary Z h_601 p .int [] := hB.sm (Sm.keep K_603 (ninS n_598.symm nin0))
  have t_629 : a < h_601.size := Nat.lt_of_lt_of_le hE.lt K_603.1
  have t_630 : e < h_601.size := Nat.lt_of_lt_of_le hA.lt K_603.1
  have t_631 : p < h_601.size := Nat.lt_of_lt_of_le hB.lt K_603.1
  have z_632 : n0 ≤ h_601.size := Nat.le_trans z0 K_603.1
  have b_633 : h0.size ≤ h_601.size := Nat.le_trans (Nat.le_refl _) K_603.1
  have K_634 : Keep h0 h_601 [a] := (Keep.refl _ _).trans K_603 (allS (Or.inl (List.mem_of_getElem? (i := 0) rfl)) all0)
  show Go _ _ _ _ _ _ _ _ _ _ _ _ h_601 (0 + 3) (0 + 104) 14 #[.val (.ref a), .val (.int k), .val (.int n), .unset] []
  refine Go.aloadN (pc' := 15) d23_14 rfl rfl rfl ?_
  refine Go.iloadN (pc' := 16) d23_15 rfl rfl ?_
  refine Go.callPW (pc' := 19) (argsL := [(.int k)]) (rest := []) (W := 0) (own_w hw 40 rfl) (own_w hw 41 rfl) (own_w hw 42 rfl) (own_w hw 16 rfl) (own_w hw 43 rfl) (own_w hw 33 rfl) rfl (by decide) f_619 (m_rk0 l Z a0 hw a e o_602 (0 : Int32) k h_601 n0 z_632 f_619 F_607 F_608 F_609 F_610 F_611 F_612 F_613 hg f_627 hk0 hk) d23_16 rfl pd9 rfl rfl (Nat.le_of_eq rfl) (by decide) (by decide) (by decide) (by decide) rfl ?_
  rintro _ h_635 ⟨rfl, o_636, ky_637, K_638, F_642, F_643, F_644, F_645, F_646, F_647, F_648, A_639, q_640, t_641⟩
  have n_649 : a ≠ o_636 := Nat.ne_of_lt (Nat.lt_of_lt_of_le t_629 q_640)
  have n_650 : e ≠ o_636 := Nat.ne_of_lt (Nat.lt_of_lt_of_le t_630 q_640)
  have n_651 : p ≠ o_636 := Nat.ne_of_lt (Nat.lt_of_lt_of_le t_631 q_640)
  have n_652 : o_602 ≠ o_636 := Nat.ne_of_lt (Nat.lt_of_lt_of_le t_606 q_640)
  have g_653 : n0 ≤ o_636 := Nat.le_trans z_632 q_640
  have g_654 : h0.size ≤ o_636 := Nat.le_trans b_633 q_640
  have f_655 : Exa Z h_635 a "com/example/nearword/nearword/internal/index/IntRuns" := f_619.keep K_638
  have f_656 : Ary Z h_635 e .int [] := f_627.sm (Sm.keep K_638 (ninS n_597.symm nin0))
  have f_657 : Ary Z h_635 p .int [] := f_628.sm (Sm.keep K_638 (ninS n_598.symm nin0))
  have f_665 : Ary Z h_635 o_602 .int [(.int 0), (.int 0), (.int 0), (.int 0), (.int 0), (.int 0), (.int 0), (.int 0), (.int 0), (.int 0), (.int 0), (.int 0), (.int 0), (.int 0), (.int 0), (.int 0)] := A_604.sm (Sm.keep K_638 (ninS n_614.symm nin0))
  have t_666 : a < h_635.size := Nat.lt_of_lt_of_le t_629 K_638.1
  have t_667 : e < h_635.size := Nat.lt_of_lt_of_le t_630 K_638.1
  have t_668 : p < h_635.size := Nat.lt_of_lt_of_le t_631 K_638.1
  have t_669 : o_602 < h_635.size := Nat.lt_of_lt_of_le t_606 K_638.1
  have z_670 : n0 ≤ h_635.size := Nat.le_trans z_632 K_638.1
  have b_671 : h0.size ≤ h_635.size := Nat.le_trans b_633 K_638.1
  have K_672 : Keep h0 h_635 [a] := K_634.trans K_638 (allS (Or.inl (List.mem_of_getElem? (i := 0) rfl)) all0)
  show Go _ _ _ _ _ _ _ _ _ _ _ _ h_635 (0 + 3 + 3) (0 + 104 + 104) 19 #[.val (.ref a), .val (.int k), .val (.int n), .unset] []
  refine Go.aloadN (pc' := 20) d23_19 rfl rfl rfl ?_
  refine Go.iloadN (pc' := 21) d23_20 rfl rfl ?_
  refine Go.callP (pc' := 24) (argsL := [(.int k)]) (rest := []) (W := 0) (own_w hw 97 rfl) (own_w hw 98 rfl) (own_w hw 99 rfl) (own_w hw 16 rfl) (own_w hw 100 rfl) (own_w hw 33 rfl) rfl (by decide) f_655 (m_lv l Z a0 hw a o_636 k own_m1 h_635 n0 z_670 F_642 A_639 hk0 (own_m1_at _ (by omega))) d23_21 rfl pd9 rfl rfl (Nat.le_of_eq rfl) (by decide) (by decide) (by decide) (by decide) rfl ?_
  rintro _ _ ⟨rfl, rfl⟩
  show Go _ _ _ _ _ _ _ _ _ _ _ _ h_635 (0 + 3 + 3 + 0) (0 + 104 + 104 + 0) 24 #[.val (.ref a), .val (.int k), .val (.int n), .unset] []
  refine Go.aloadN (pc' := 25) d23_24 rfl rfl rfl ?_
  refine Go.getF (pc' := 28) (own_w hw 107 rfl) F_647 d23_25 rfl ?_
  refine Go.istoreN (pc' := 29) (Ls' := #[.val (.ref a), .val (.int k), .val (.int n), .val (.int 0)]) d23_28 rfl rfl ?_
  refine Go.aloadN (pc' := 30) d23_29 rfl rfl rfl ?_
  refine Go.getF (pc' := 33) (own_w hw 26 rfl) F_643 d23_30 rfl ?_
  refine Go.iloadN (pc' := 34) d23_33 rfl rfl ?_
  refine Go.iloadN (pc' := 35) d23_34 rfl rfl ?_
  refine Go.stI (pc' := 36) (k := 0) f_665 rfl (by show 0 < 16; decide) d23_35 g_617 rfl ?_
  intro h_673 W_674 A_675
  have f_676 : Exa Z h_673 a "com/example/nearword/nearword/internal/index/IntRuns" := f_655.sm (Sm.wr W_674 n_614)
  have f_677 : Ary Z h_673 e .int [] := f_656.sm (Sm.wr W_674 n_615)
  have f_678 : Ary Z h_673 p .int [] := f_657.sm (Sm.wr W_674 n_616)
  have f_679 : Fld Z h_673 a "com/example/nearword/nearword/internal/index/IntRuns" "at" "[I" (.ref o_636) := F_642.sm (Sm.wr W_674 n_614)
  have f_680 : Fld Z h_673 a "com/example/nearword/nearword/internal/index/IntRuns" "pool" "[I" (.ref o_602) := F_643.sm (Sm.wr W_674 n_614)
  have f_681 : Fld Z h_673 a "com/example/nearword/nearword/internal/index/IntRuns" "mostInts" "I" (.int 1048576) := F_644.sm (Sm.wr W_674 n_614)
  have f_682 : Fld Z h_673 a "com/example/nearword/nearword/internal/index/IntRuns" "keys" "I" (.int ky_637) := F_645.sm (Sm.wr W_674 n_614)
  have f_683 : Fld Z h_673 a "com/example/nearword/nearword/internal/index/IntRuns" "poolLeft" "I" (.int 0) := F_646.sm (Sm.wr W_674 n_614)
  have f_684 : Fld Z h_673 a "com/example/nearword/nearword/internal/index/IntRuns" "poolSize" "I" (.int 0) := F_647.sm (Sm.wr W_674 n_614)
  have f_685 : Fld Z h_673 a "com/example/nearword/nearword/internal/index/IntRuns" "keysToCome" "I" (.int 0) := F_648.sm (Sm.wr W_674 n_614)
  have f_686 : Ary Z h_673 o_636 .int own_m1 := A_639.sm (Sm.wr W_674 n_652.symm)
  have t_687 : a < h_673.size := Nat.lt_of_lt_of_le t_666 (Nat.le_of_eq W_674.size.symm)
  have t_688 : e < h_673.size := Nat.lt_of_lt_of_le t_667 (Nat.le_of_eq W_674.size.symm)
  have t_689 : p < h_673.size := Nat.lt_of_lt_of_le t_668 (Nat.le_of_eq W_674.size.symm)
  have t_690 : o_602 < h_673.size := Nat.lt_of_lt_of_le t_669 (Nat.le_of_eq W_674.size.symm)
  have t_691 : o_636 < h_673.size := Nat.lt_of_lt_of_le t_641 (Nat.le_of_eq W_674.size.symm)
  have z_692 : n0 ≤ h_673.size := Nat.le_trans z_670 (Nat.le_of_eq W_674.size.symm)
  have b_693 : h0.size ≤ h_673.size := Nat.le_trans b_671 (Nat.le_of_eq W_674.size.symm)
  have K_694 : Keep h0 h_673 [a] := K_672.wr W_674 (Or.inr g_618)
  change Ary Z h_673 o_602 .int [(.int n), (.int 0), (.int 0), (.int 0), (.int 0), (.int 0), (.int 0), (.int 0), (.int 0), (.int 0), (.int 0), (.int 0), (.int 0), (.int 0), (.int 0), (.int 0)] at A_675
  refine Go.aloadN (pc' := 37) d23_36 rfl rfl rfl ?_
  refine Go.dup (pc' := 38) d23_37 rfl rfl ?_
  refine Go.getF (pc' := 41) (own_w hw 107 rfl) f_684 d23_38 rfl ?_
  refine Go.iconst (pc' := 42) (v := (1 : Int32)) d23_41 rfl rfl ?_
  refine Go.iloadN (pc' := 43) d23_42 rfl rfl ?_
  refine Go.iadd (pc' := 44) d23_43 rfl ?_
  refine Go.iadd (pc' := 45) d23_44 rfl ?_
  generalize es_695 : (0 : Int32) + ((1 : Int32) + n) = s_695
  have k_696 : s_695.toInt = 1 + n.toInt := by
    rw [← es_695]
    have : (0 : Int32).toInt = 0 := by decide
    have : (1 : Int32).toInt = 1 := by decide
    have := c_iadd (1 : Int32) n
    have := rng32 ((1 : Int32) + n)
    have := rng32 n
    have := c_iadd (0 : Int32) ((1 : Int32) + n)
    have := rng32 ((0 : Int32) + ((1 : Int32) + n))
    have : (0 : Int32).toInt = 0 := rfl
    omega
  refine Go.putF (pc' := 48) (ty := .int) (own_w hw 107 rfl) f_684 f_676 (Or.inl (own_w hw 108 rfl)) (own_w hw 15 rfl) (by decide) rfl rfl d23_45 hg rfl ?_
  intro h_697 W_698
  have f_699 : Exa Z h_697 a "com/example/nearword/nearword/internal/index/IntRuns" := Exa.wr W_698 f_676
  have f_700 : Ary Z h_697 e .int [] := f_677.sm (Sm.wr W_698 n_597.symm)
  have f_701 : Ary Z h_697 p .int [] := f_678.sm (Sm.wr W_698 n_598.symm)
  have f_702 : Ary Z h_697 o_636 .int own_m1 := f_686.sm (Sm.wr W_698 n_649.symm)
  have f_703 : Ary Z h_697 o_602 .int [(.int n), (.int 0), (.int 0), (.int 0), (.int 0), (.int 0), (.int 0), (.int 0), (.int 0), (.int 0), (.int 0), (.int 0), (.int 0), (.int 0), (.int 0), (.int 0)] := A_675.sm (Sm.wr W_698 n_614.symm)
  have t_704 : a < h_697.size := Nat.lt_of_lt_of_le t_687 (Nat.le_of_eq W_698.size.symm)
  have t_705 : e < h_697.size := Nat.lt_of_lt_of_le t_688 (Nat.le_of_eq W_698.size.symm)
  have t_706 : p < h_697.size := Nat.lt_of_lt_of_le t_689 (Nat.le_of_eq W_698.size.symm)
  have t_707 : o_602 < h_697.size := Nat.lt_of_lt_of_le t_690 (Nat.le_of_eq W_698.size.symm)
  have t_708 : o_636 < h_697.size := Nat.lt_of_lt_of_le t_691 (Nat.le_of_eq W_698.size.symm)
  have z_709 : n0 ≤ h_697.size := Nat.le_trans z_692 (Nat.le_of_eq W_698.size.symm)
  have b_710 : h0.size ≤ h_697.size := Nat.le_trans b_693 (Nat.le_of_eq W_698.size.symm)
  have K_711 : Keep h0 h_697 [a] := K_694.wr W_698 (Or.inl (List.mem_of_getElem? (i := 0) rfl))
  have f_712 : Fld Z h_697 a "com/example/nearword/nearword/internal/index/IntRuns" "at" "[I" (.ref o_636) := Fld.other W_698 f_679 (Or.inr (slot_ne (Or.inl (own_w hw 25 rfl)) (Or.inl (own_w hw 108 rfl)) (by decide) (t := (.array .int)) (t' := .int) (by decide) (by decide)))
  have f_713 : Fld Z h_697 a "com/example/nearword/nearword/internal/index/IntRuns" "pool" "[I" (.ref o_602) := Fld.other W_698 f_680 (Or.inr (slot_ne (Or.inl (own_w hw 27 rfl)) (Or.inl (own_w hw 108 rfl)) (by decide) (t := (.array .int)) (t' := .int) (by decide) (by decide)))
  have f_714 : Fld Z h_697 a "com/example/nearword/nearword/internal/index/IntRuns" "mostInts" "I" (.int 1048576) := Fld.other W_698 f_681 (Or.inr (slot_ne (Or.inr (own_w hw 29 rfl)) (Or.inl (own_w hw 108 rfl)) (by decide) (t := .int) (t' := .int) (by decide) (by decide)))
  have f_715 : Fld Z h_697 a "com/example/nearword/nearword/internal/index/IntRuns" "keys" "I" (.int ky_637) := Fld.other W_698 f_682 (Or.inr (slot_ne (Or.inl (own_w hw 95 rfl)) (Or.inl (own_w hw 108 rfl)) (by decide) (t := .int) (t' := .int) (by decide) (by decide)))
  have f_716 : Fld Z h_697 a "com/example/nearword/nearword/internal/index/IntRuns" "poolLeft" "I" (.int 0) := Fld.other W_698 f_683 (Or.inr (slot_ne (Or.inl (own_w hw 106 rfl)) (Or.inl (own_w hw 108 rfl)) (by decide) (t := .int) (t' := .int) (by decide) (by decide)))
  have f_717 : Fld Z h_697 a "com/example/nearword/nearword/internal/index/IntRuns" "poolSize" "I" (.int s_695) := Fld.same W_698 f_684
  have f_718 : Fld Z h_697 a "com/example/nearword/nearword/internal/index/IntRuns" "keysToCome" "I" (.int 0) := Fld.other W_698 f_685 (Or.inr (slot_ne (Or.inl (own_w hw 123 rfl)) (Or.inl (own_w hw 108 rfl)) (by decide) (t := .int) (t' := .int) (by decide) (by decide)))
  refine Go.aloadN (pc' := 49) d23_48 rfl rfl rfl ?_
  refine Go.getF (pc' := 52) (own_w hw 24 rfl) f_712 d23_49 rfl ?_
  refine Go.iloadN (pc' := 53) d23_52 rfl rfl ?_
  refine Go.iloadN (pc' := 54) d23_53 rfl rfl ?_
  refine Go.stI (pc' := 55) (k := k.toInt.toNat) f_702 (by omega) (by show _ < (List.replicate 16 _).length; rw [List.length_replicate]; omega) d23_54 g_653 rfl ?_
  intro h_719 W_720 A_721
  have f_722 : Exa Z h_719 a "com/example/nearword/nearword/internal/index/IntRuns" := f_699.sm (Sm.wr W_720 n_649)
  have f_723 : Ary Z h_719 e .int [] := f_700.sm (Sm.wr W_720 n_650)
  have f_724 : Ary Z h_719 p .int [] := f_701.sm (Sm.wr W_720 n_651)
  have f_725 : Ary Z h_719 o_602 .int [(.int n), (.int 0), (.int 0), (.int 0), (.int 0), (.int 0), (.int 0), (.int 0), (.int 0), (.int 0), (.int 0), (.int 0), (.int 0), (.int 0), (.int 0), (.int 0)] := f_703.sm (Sm.wr W_720 n_652)
  have f_726 : Fld Z h_719 a "com/example/nearword/nearword/internal/index/IntRuns" "at" "[I" (.ref o_636) := f_712.sm (Sm.wr W_720 n_649)
  have f_727 : Fld Z h_719 a "com/example/nearword/nearword/internal/index/IntRuns" "pool" "[I" (.ref o_602) := f_713.sm (Sm.wr W_720 n_649)
  have f_728 : Fld Z h_719 a "com/example/nearword/nearword/internal/index/IntRuns" "mostInts" "I" (.int 1048576) := f_714.sm (Sm.wr W_720 n_649)
  have f_729 : Fld Z h_719 a "com/example/nearword/nearword/internal/index/IntRuns" "keys" "I" (.int ky_637) := f_715.sm (Sm.wr W_720 n_649)
  have f_730 : Fld Z h_719 a "com/example/nearword/nearword/internal/index/IntRuns" "poolLeft" "I" (.int 0) := f_716.sm (Sm.wr W_720 n_649)
  have f_731 : Fld Z h_719 a "com/example/nearword/nearword/internal/index/IntRuns" "poolSize" "I" (.int s_695) := f_717.sm (Sm.wr W_720 n_649)
  have f_732 : Fld Z h_719 a "com/example/nearword/nearword/internal/index/IntRuns" "keysToCome" "I" (.int 0) := f_718.sm (Sm.wr W_720 n_649)
  have t_733 : a < h_719.size := Nat.lt_of_lt_of_le t_704 (Nat.le_of_eq W_720.size.symm)
  have t_734 : e < h_719.size := Nat.lt_of_lt_of_le t_705 (Nat.le_of_eq W_720.size.symm)
  have t_735 : p < h_719.size := Nat.lt_of_lt_of_le t_706 (Nat.le_of_eq W_720.size.symm)
  have t_736 : o_602 < h_719.size := Nat.lt_of_lt_of_le t_707 (Nat.le_of_eq W_720.size.symm)
  have t_737 : o_636 < h_719.size := Nat.lt_of_lt_of_le t_708 (Nat.le_of_eq W_720.size.symm)
  have z_738 : n0 ≤ h_719.size := Nat.le_trans z_709 (Nat.le_of_eq W_720.size.symm)
  have b_739 : h0.size ≤ h_719.size := Nat.le_trans b_710 (Nat.le_of_eq W_720.size.symm)
  have K_740 : Keep h0 h_719 [a] := K_711.wr W_720 (Or.inr g_654)
  refine Go.iloadN (pc' := 56) d23_55 rfl rfl ?_
  exact Go.retI d23_56 rfl ⟨rfl, o_636, o_602, ky_637, s_695, K_740, f_726, f_727, f_728, f_729, f_730, f_731, f_732, A_721, f_725, g_654, t_737, g_618, t_736, n_652.symm, by omega⟩ (by decide) (by decide)
set_option maxRecDepth 65536 in
set_option maxHeartbeats 40000000 in
theorem m_pl1 (l : Launch) (Z : State) (a0 : Array Value) (hw : ∀ d ∈ tables_1, d.before a0 Z = true) (a e p : Addr) (ks ps k n : Int32) (A B : List Value) (h0 : Heap) (n0 : Nat) (z0 : n0 ≤ h0.size) (hE : Exa Z h0 a "com/example/nearword/nearword/internal/index/IntRuns") (hF0 : Fld Z h0 a "com/example/nearword/nearword/internal/index/IntRuns" "at" "[I" (.ref e)) (hF1 : Fld Z h0 a "com/example/nearword/nearword/internal/index/IntRuns" "pool" "[I" (.ref p)) (hF2 : Fld Z h0 a "com/example/nearword/nearword/internal/index/IntRuns" "mostInts" "I" (.int 1048576)) (hF3 : Fld Z h0 a "com/example/nearword/nearword/internal/index/IntRuns" "keys" "I" (.int ks)) (hF4 : Fld Z h0 a "com/example/nearword/nearword/internal/index/IntRuns" "poolLeft" "I" (.int 0)) (hF5 : Fld Z h0 a "com/example/nearword/nearword/internal/index/IntRuns" "poolSize" "I" (.int ps)) (hF6 : Fld Z h0 a "com/example/nearword/nearword/internal/index/IntRuns" "keysToCome" "I" (.int 0)) (hg : n0 ≤ a) (hA : Ary Z h0 e .int A) (hA16 : A.length = 16) (hk0 : 0 ≤ k.toInt) (hk : k.toInt ≤ 15) (hAk : A[k.toInt.toNat]? = some (.int (-1 : Int32))) (hge : n0 ≤ e) (hae : a ≠ e) (hB : Ary Z h0 p .int B) (hB16 : B.length = 16) (hgp : n0 ≤ p) (hap : a ≠ p) (hep : e ≠ p) (hps : ps.toInt = 7) (hn0 : 0 ≤ n.toInt) (hn : n.toInt ≤ 6) : Mt false l Z (⟨"com/example/nearword/nearword/internal/index/IntRuns", "place", "(II)I"⟩ : MethodName) prog_42_method_18_code 4 (some .int) ({ frames := 2, cells := 0, slots := 0, locals := 35 } : Room) n0 (fun v h => v = some (.int ps) ∧ ∃ ky s, Keep h0 h [a, e, p] ∧ Fld Z h a "com/example/nearword/nearword/internal/index/IntRuns" "at" "[I" (.ref e) ∧ Fld Z h a "com/example/nearword/nearword/internal/index/IntRuns" "pool" "[I" (.ref p) ∧ Fld Z h a "com/example/nearword/nearword/internal/index/IntRuns" "mostInts" "I" (.int 1048576) ∧ Fld Z h a "com/example/nearword/nearword/internal/index/IntRuns" "keys" "I" (.int ky) ∧ Fld Z h a "com/example/nearword/nearword/internal/index/IntRuns" "poolLeft" "I" (.int 0) ∧ Fld Z h a "com/example/nearword/nearword/internal/index/IntRuns" "poolSize" "I" (.int s) ∧ Fld Z h a "com/example/nearword/nearword/internal/index/IntRuns" "keysToCome" "I" (.int 0) ∧ Ary Z h e .int (A.set k.toInt.toNat (.int ps)) ∧ Ary Z h p .int (B.set 7 (.int n)) ∧ 0 ≤ s.toInt) h0 #[(.ref a), (.int k), (.int n)] := by
  refine Mt.go (Ls := #[.val (.ref a), .val (.int k), .val (.int n), .unset]) (plainFor_of_name pn1) (fun m => by first | (simp [entryFrame, mkF, argsToLocals, Value.category]; done) | rfl) ?_
  show Go _ _ _ _ _ _ _ _ _ _ _ _ h0 0 0 0 #[.val (.ref a), .val (.int k), .val (.int n), .unset] []
  have n_741 : a ≠ e := by obtain ⟨_, Ag, -⟩ := hA; exact ne_arr hE (own_w hw 15 rfl) Ag
  have n_742 : a ≠ p := by obtain ⟨_, Ag, -⟩ := hB; exact ne_arr hE (own_w hw 15 rfl) Ag
  refine Go.aloadN (pc' := 1) d23_0 rfl rfl rfl ?_
  refine Go.aloadN (pc' := 2) d23_1 rfl rfl rfl ?_
  refine Go.getF (pc' := 5) (own_w hw 107 rfl) hF5 d23_2 rfl ?_
  refine Go.i2l (pc' := 6) d23_5 rfl ?_
  refine Go.lconst (pc' := 7) (v := (1 : Int64)) d23_6 rfl rfl ?_
  refine Go.ladd (pc' := 8) d23_7 rfl ?_
  refine Go.iloadN (pc' := 9) d23_8 rfl rfl ?_
  refine Go.i2l (pc' := 10) d23_9 rfl ?_
  refine Go.ladd (pc' := 11) d23_10 rfl ?_
  generalize ex_743 : (ps.toInt64 + (1 : Int64)) + n.toInt64 = x_743
  have k_744 : x_743.toInt = 8 + n.toInt := by
    rw [← ex_743]
    have := c_i2l ps
    have := rng64 ps.toInt64
    have := rng32 ps
    have : (1 : Int64).toInt = 1 := by decide
    have := c_ladd ps.toInt64 (1 : Int64)
    have := rng64 (ps.toInt64 + (1 : Int64))
    have := c_i2l n
    have := rng64 n.toInt64
    have := rng32 n
    have := c_ladd (ps.toInt64 + (1 : Int64)) n.toInt64
    have := rng64 ((ps.toInt64 + (1 : Int64)) + n.toInt64)
    omega
  refine Go.callP (pc' := 14) (argsL := [(.long x_743)]) (rest := []) (W := 0) (own_w hw 118 rfl) (own_w hw 119 rfl) (own_w hw 120 rfl) (own_w hw 16 rfl) (own_w hw 121 rfl) (own_w hw 33 rfl) rfl (by decide) hE (m_mr1 l Z a0 hw a p x_743 B h0 n0 z0 hF1 hB hB16 (by omega)) d23_11 rfl pd11 rfl rfl (Nat.le_of_eq rfl) (by decide) (by decide) (by decide) (by decide) rfl ?_
  rintro _ _ ⟨rfl, rfl⟩
  show Go _ _ _ _ _ _ _ _ _ _ _ _ h0 (0 + 0) (0 + 0) 14 #[.val (.ref a), .val (.int k), .val (.int n), .unset] []
  refine Go.aloadN (pc' := 15) d23_14 rfl rfl rfl ?_
  refine Go.iloadN (pc' := 16) d23_15 rfl rfl ?_
  refine Go.callP (pc' := 19) (argsL := [(.int k)]) (rest := []) (W := 0) (own_w hw 40 rfl) (own_w hw 41 rfl) (own_w hw 42 rfl) (own_w hw 16 rfl) (own_w hw 43 rfl) (own_w hw 33 rfl) rfl (by decide) hE (m_rk1 l Z a0 hw a e p ks ps k A h0 n0 z0 hE hF0 hF1 hF2 hF3 hF4 hF5 hF6 hg hA hA16 hk0 hk) d23_16 rfl pd9 rfl rfl (Nat.le_of_eq rfl) (by decide) (by decide) (by decide) (by decide) rfl ?_
  rintro _ h_745 ⟨rfl, ky_746, K_747, F_748, F_749, F_750, F_751, F_752, F_753, F_754⟩
  have f_755 : Exa Z h_745 a "com/example/nearword/nearword/internal/index/IntRuns" := hE.keep K_747
  have f_763 : Ary Z h_745 e .int A := hA.sm (Sm.keep K_747 (ninS hae.symm nin0))
  have f_764 : Ary Z h_745 p .int B := hB.sm (Sm.keep K_747 (ninS hap.symm nin0))
  have t_765 : a < h_745.size := Nat.lt_of_lt_of_le hE.lt K_747.1
  have t_766 : e < h_745.size := Nat.lt_of_lt_of_le hA.lt K_747.1
  have t_767 : p < h_745.size := Nat.lt_of_lt_of_le hB.lt K_747.1
  have z_768 : n0 ≤ h_745.size := Nat.le_trans z0 K_747.1
  have b_769 : h0.size ≤ h_745.size := Nat.le_trans (Nat.le_refl _) K_747.1
  have K_770 : Keep h0 h_745 [a, e, p] := (Keep.refl _ _).trans K_747 (allS (Or.inl (List.mem_of_getElem? (i := 0) rfl)) all0)
  show Go _ _ _ _ _ _ _ _ _ _ _ _ h_745 (0 + 0 + 0) (0 + 0 + 0) 19 #[.val (.ref a), .val (.int k), .val (.int n), .unset] []
  refine Go.aloadN (pc' := 20) d23_19 rfl rfl rfl ?_
  refine Go.iloadN (pc' := 21) d23_20 rfl rfl ?_
  refine Go.callP (pc' := 24) (argsL := [(.int k)]) (rest := []) (W := 0) (own_w hw 97 rfl) (own_w hw 98 rfl) (own_w hw 99 rfl) (own_w hw 16 rfl) (own_w hw 100 rfl) (own_w hw 33 rfl) rfl (by decide) f_755 (m_lv l Z a0 hw a e k A h_745 n0 z_768 F_748 f_763 hk0 hAk) d23_21 rfl pd9 rfl rfl (Nat.le_of_eq rfl) (by decide) (by decide) (by decide) (by decide) rfl ?_
  rintro _ _ ⟨rfl, rfl⟩
  show Go _ _ _ _ _ _ _ _ _ _ _ _ h_745 (0 + 0 + 0 + 0) (0 + 0 + 0 + 0) 24 #[.val (.ref a), .val (.int k), .val (.int n), .unset] []
  refine Go.aloadN (pc' := 25) d23_24 rfl rfl rfl ?_
  refine Go.getF (pc' := 28) (own_w hw 107 rfl) F_753 d23_25 rfl ?_
  refine Go.istoreN (pc' := 29) (Ls' := #[.val (.ref a), .val (.int k), .val (.int n), .val (.int ps)]) d23_28 rfl rfl ?_
  refine Go.aloadN (pc' := 30) d23_29 rfl rfl rfl ?_
  refine Go.getF (pc' := 33) (own_w hw 26 rfl) F_749 d23_30 rfl ?_
  refine Go.iloadN (pc' := 34) d23_33 rfl rfl ?_
  refine Go.iloadN (pc' := 35) d23_34 rfl rfl ?_
  refine Go.stI (pc' := 36) (k := 7) f_764 (by omega) (by omega) d23_35 hgp rfl ?_
  intro h_771 W_772 A_773
  have f_774 : Exa Z h_771 a "com/example/nearword/nearword/internal/index/IntRuns" := f_755.sm (Sm.wr W_772 hap)
  have f_775 : Ary Z h_771 e .int A := f_763.sm (Sm.wr W_772 hep)
  have f_776 : Fld Z h_771 a "com/example/nearword/nearword/internal/index/IntRuns" "at" "[I" (.ref e) := F_748.sm (Sm.wr W_772 hap)
  have f_777 : Fld Z h_771 a "com/example/nearword/nearword/internal/index/IntRuns" "pool" "[I" (.ref p) := F_749.sm (Sm.wr W_772 hap)
  have f_778 : Fld Z h_771 a "com/example/nearword/nearword/internal/index/IntRuns" "mostInts" "I" (.int 1048576) := F_750.sm (Sm.wr W_772 hap)
  have f_779 : Fld Z h_771 a "com/example/nearword/nearword/internal/index/IntRuns" "keys" "I" (.int ky_746) := F_751.sm (Sm.wr W_772 hap)
  have f_780 : Fld Z h_771 a "com/example/nearword/nearword/internal/index/IntRuns" "poolLeft" "I" (.int 0) := F_752.sm (Sm.wr W_772 hap)
  have f_781 : Fld Z h_771 a "com/example/nearword/nearword/internal/index/IntRuns" "poolSize" "I" (.int ps) := F_753.sm (Sm.wr W_772 hap)
  have f_782 : Fld Z h_771 a "com/example/nearword/nearword/internal/index/IntRuns" "keysToCome" "I" (.int 0) := F_754.sm (Sm.wr W_772 hap)
  have t_783 : a < h_771.size := Nat.lt_of_lt_of_le t_765 (Nat.le_of_eq W_772.size.symm)
  have t_784 : e < h_771.size := Nat.lt_of_lt_of_le t_766 (Nat.le_of_eq W_772.size.symm)
  have t_785 : p < h_771.size := Nat.lt_of_lt_of_le t_767 (Nat.le_of_eq W_772.size.symm)
  have z_786 : n0 ≤ h_771.size := Nat.le_trans z_768 (Nat.le_of_eq W_772.size.symm)
  have b_787 : h0.size ≤ h_771.size := Nat.le_trans b_769 (Nat.le_of_eq W_772.size.symm)
  have K_788 : Keep h0 h_771 [a, e, p] := K_770.wr W_772 (Or.inl (List.mem_of_getElem? (i := 2) rfl))
  refine Go.aloadN (pc' := 37) d23_36 rfl rfl rfl ?_
  refine Go.dup (pc' := 38) d23_37 rfl rfl ?_
  refine Go.getF (pc' := 41) (own_w hw 107 rfl) f_781 d23_38 rfl ?_
  refine Go.iconst (pc' := 42) (v := (1 : Int32)) d23_41 rfl rfl ?_
  refine Go.iloadN (pc' := 43) d23_42 rfl rfl ?_
  refine Go.iadd (pc' := 44) d23_43 rfl ?_
  refine Go.iadd (pc' := 45) d23_44 rfl ?_
  generalize es_789 : ps + ((1 : Int32) + n) = s_789
  have k_790 : s_789.toInt = 8 + n.toInt := by
    rw [← es_789]
    have : (1 : Int32).toInt = 1 := by decide
    have := c_iadd (1 : Int32) n
    have := rng32 ((1 : Int32) + n)
    have := rng32 n
    have := c_iadd ps ((1 : Int32) + n)
    have := rng32 (ps + ((1 : Int32) + n))
    have := rng32 ps
    omega
  refine Go.putF (pc' := 48) (ty := .int) (own_w hw 107 rfl) f_781 f_774 (Or.inl (own_w hw 108 rfl)) (own_w hw 15 rfl) (by decide) rfl rfl d23_45 hg rfl ?_
  intro h_791 W_792
  have f_793 : Exa Z h_791 a "com/example/nearword/nearword/internal/index/IntRuns" := Exa.wr W_792 f_774
  have f_794 : Ary Z h_791 e .int A := f_775.sm (Sm.wr W_792 hae.symm)
  have f_795 : Ary Z h_791 p .int (B.set 7 (.int n)) := A_773.sm (Sm.wr W_792 hap.symm)
  have t_796 : a < h_791.size := Nat.lt_of_lt_of_le t_783 (Nat.le_of_eq W_792.size.symm)
  have t_797 : e < h_791.size := Nat.lt_of_lt_of_le t_784 (Nat.le_of_eq W_792.size.symm)
  have t_798 : p < h_791.size := Nat.lt_of_lt_of_le t_785 (Nat.le_of_eq W_792.size.symm)
  have z_799 : n0 ≤ h_791.size := Nat.le_trans z_786 (Nat.le_of_eq W_792.size.symm)
  have b_800 : h0.size ≤ h_791.size := Nat.le_trans b_787 (Nat.le_of_eq W_792.size.symm)
  have K_801 : Keep h0 h_791 [a, e, p] := K_788.wr W_792 (Or.inl (List.mem_of_getElem? (i := 0) rfl))
  have f_802 : Fld Z h_791 a "com/example/nearword/nearword/internal/index/IntRuns" "at" "[I" (.ref e) := Fld.other W_792 f_776 (Or.inr (slot_ne (Or.inl (own_w hw 25 rfl)) (Or.inl (own_w hw 108 rfl)) (by decide) (t := (.array .int)) (t' := .int) (by decide) (by decide)))
  have f_803 : Fld Z h_791 a "com/example/nearword/nearword/internal/index/IntRuns" "pool" "[I" (.ref p) := Fld.other W_792 f_777 (Or.inr (slot_ne (Or.inl (own_w hw 27 rfl)) (Or.inl (own_w hw 108 rfl)) (by decide) (t := (.array .int)) (t' := .int) (by decide) (by decide)))
  have f_804 : Fld Z h_791 a "com/example/nearword/nearword/internal/index/IntRuns" "mostInts" "I" (.int 1048576) := Fld.other W_792 f_778 (Or.inr (slot_ne (Or.inr (own_w hw 29 rfl)) (Or.inl (own_w hw 108 rfl)) (by decide) (t := .int) (t' := .int) (by decide) (by decide)))
  have f_805 : Fld Z h_791 a "com/example/nearword/nearword/internal/index/IntRuns" "keys" "I" (.int ky_746) := Fld.other W_792 f_779 (Or.inr (slot_ne (Or.inl (own_w hw 95 rfl)) (Or.inl (own_w hw 108 rfl)) (by decide) (t := .int) (t' := .int) (by decide) (by decide)))
  have f_806 : Fld Z h_791 a "com/example/nearword/nearword/internal/index/IntRuns" "poolLeft" "I" (.int 0) := Fld.other W_792 f_780 (Or.inr (slot_ne (Or.inl (own_w hw 106 rfl)) (Or.inl (own_w hw 108 rfl)) (by decide) (t := .int) (t' := .int) (by decide) (by decide)))
  have f_807 : Fld Z h_791 a "com/example/nearword/nearword/internal/index/IntRuns" "poolSize" "I" (.int s_789) := Fld.same W_792 f_781
  have f_808 : Fld Z h_791 a "com/example/nearword/nearword/internal/index/IntRuns" "keysToCome" "I" (.int 0) := Fld.other W_792 f_782 (Or.inr (slot_ne (Or.inl (own_w hw 123 rfl)) (Or.inl (own_w hw 108 rfl)) (by decide) (t := .int) (t' := .int) (by decide) (by decide)))
  refine Go.aloadN (pc' := 49) d23_48 rfl rfl rfl ?_
  refine Go.getF (pc' := 52) (own_w hw 24 rfl) f_802 d23_49 rfl ?_
  refine Go.iloadN (pc' := 53) d23_52 rfl rfl ?_
  refine Go.iloadN (pc' := 54) d23_53 rfl rfl ?_
  refine Go.stI (pc' := 55) (k := k.toInt.toNat) f_794 (by omega) (by omega) d23_54 hge rfl ?_
  intro h_809 W_810 A_811
  have f_812 : Exa Z h_809 a "com/example/nearword/nearword/internal/index/IntRuns" := f_793.sm (Sm.wr W_810 hae)
  have f_813 : Ary Z h_809 p .int (B.set 7 (.int n)) := f_795.sm (Sm.wr W_810 hep.symm)
  have f_814 : Fld Z h_809 a "com/example/nearword/nearword/internal/index/IntRuns" "at" "[I" (.ref e) := f_802.sm (Sm.wr W_810 hae)
  have f_815 : Fld Z h_809 a "com/example/nearword/nearword/internal/index/IntRuns" "pool" "[I" (.ref p) := f_803.sm (Sm.wr W_810 hae)
  have f_816 : Fld Z h_809 a "com/example/nearword/nearword/internal/index/IntRuns" "mostInts" "I" (.int 1048576) := f_804.sm (Sm.wr W_810 hae)
  have f_817 : Fld Z h_809 a "com/example/nearword/nearword/internal/index/IntRuns" "keys" "I" (.int ky_746) := f_805.sm (Sm.wr W_810 hae)
  have f_818 : Fld Z h_809 a "com/example/nearword/nearword/internal/index/IntRuns" "poolLeft" "I" (.int 0) := f_806.sm (Sm.wr W_810 hae)
  have f_819 : Fld Z h_809 a "com/example/nearword/nearword/internal/index/IntRuns" "poolSize" "I" (.int s_789) := f_807.sm (Sm.wr W_810 hae)
  have f_820 : Fld Z h_809 a "com/example/nearword/nearword/internal/index/IntRuns" "keysToCome" "I" (.int 0) := f_808.sm (Sm.wr W_810 hae)
  have t_821 : a < h_809.size := Nat.lt_of_lt_of_le t_796 (Nat.le_of_eq W_810.size.symm)
  have t_822 : e < h_809.size := Nat.lt_of_lt_of_le t_797 (Nat.le_of_eq W_810.size.symm)
  have t_823 : p < h_809.size := Nat.lt_of_lt_of_le t_798 (Nat.le_of_eq W_810.size.symm)
  have z_824 : n0 ≤ h_809.size := Nat.le_trans z_799 (Nat.le_of_eq W_810.size.symm)
  have b_825 : h0.size ≤ h_809.size := Nat.le_trans b_800 (Nat.le_of_eq W_810.size.symm)
  have K_826 : Keep h0 h_809 [a, e, p] := K_801.wr W_810 (Or.inl (List.mem_of_getElem? (i := 1) rfl))
  refine Go.iloadN (pc' := 56) d23_55 rfl rfl ?_
  exact Go.retI d23_56 rfl ⟨rfl, ky_746, s_789, K_826, f_814, f_815, f_816, f_817, f_818, f_819, f_820, A_811, f_813, by omega⟩ (by decide) (by decide)
set_option maxRecDepth 65536 in
set_option maxHeartbeats 40000000 in
theorem m_set0_0 (l : Launch) (Z : State) (a0 : Array Value) (hw : ∀ d ∈ tables_1, d.before a0 Z = true) (a e p r : Addr) (k : Int32) (u0 u1 u2 u3 u4 u5 : Int32) (h0 : Heap) (n0 : Nat) (z0 : n0 ≤ h0.size) (hE : Exa Z h0 a "com/example/nearword/nearword/internal/index/IntRuns") (hF0 : Fld Z h0 a "com/example/nearword/nearword/internal/index/IntRuns" "at" "[I" (.ref e)) (hF1 : Fld Z h0 a "com/example/nearword/nearword/internal/index/IntRuns" "pool" "[I" (.ref p)) (hF2 : Fld Z h0 a "com/example/nearword/nearword/internal/index/IntRuns" "mostInts" "I" (.int 1048576)) (hF3 : Fld Z h0 a "com/example/nearword/nearword/internal/index/IntRuns" "keys" "I" (.int 0)) (hF4 : Fld Z h0 a "com/example/nearword/nearword/internal/index/IntRuns" "poolLeft" "I" (.int 0)) (hF5 : Fld Z h0 a "com/example/nearword/nearword/internal/index/IntRuns" "poolSize" "I" (.int 0)) (hF6 : Fld Z h0 a "com/example/nearword/nearword/internal/index/IntRuns" "keysToCome" "I" (.int 0)) (hg : n0 ≤ a) (hA : Ary Z h0 e .int []) (hB : Ary Z h0 p .int []) (hR : Ary Z h0 r .int [(.int u0), (.int u1), (.int u2), (.int u3), (.int u4), (.int u5)]) (har : a ≠ r) (hk0 : 0 ≤ k.toInt) (hk : k.toInt ≤ 15) : Mt true l Z (⟨"com/example/nearword/nearword/internal/index/IntRuns", "set", "(I[III)V"⟩ : MethodName) prog_42_method_13_code 7 none ({ frames := 6, cells := 6, slots := 208, locals := 115 } : Room) n0 (fun v h => v = none ∧ ∃ o b ky, Keep h0 h [a] ∧ Fld Z h a "com/example/nearword/nearword/internal/index/IntRuns" "at" "[I" (.ref o) ∧ Fld Z h a "com/example/nearword/nearword/internal/index/IntRuns" "pool" "[I" (.ref b) ∧ Fld Z h a "com/example/nearword/nearword/internal/index/IntRuns" "mostInts" "I" (.int 1048576) ∧ Fld Z h a "com/example/nearword/nearword/internal/index/IntRuns" "keys" "I" (.int ky) ∧ Fld Z h a "com/example/nearword/nearword/internal/index/IntRuns" "poolLeft" "I" (.int 0) ∧ Fld Z h a "com/example/nearword/nearword/internal/index/IntRuns" "poolSize" "I" (.int 1) ∧ Fld Z h a "com/example/nearword/nearword/internal/index/IntRuns" "keysToCome" "I" (.int 0) ∧ Ary Z h o .int (own_m1.set k.toInt.toNat (.int 0)) ∧ Ary Z h b .int [(.int 0), (.int 0), (.int 0), (.int 0), (.int 0), (.int 0), (.int 0), (.int 0), (.int 0), (.int 0), (.int 0), (.int 0), (.int 0), (.int 0), (.int 0), (.int 0)] ∧ h0.size ≤ o ∧ o < h.size ∧ h0.size ≤ b ∧ b < h.size ∧ o ≠ b) h0 #[(.ref a), (.int k), (.ref r), (.int 0), (.int 0)] := by
  refine Mt.go (Ls := #[.val (.ref a), .val (.int k), .val (.ref r), .val (.int 0), .val (.int 0), .unset, .unset]) (plainFor_of_name pn1) (fun m => by first | (simp [entryFrame, mkF, argsToLocals, Value.category]; done) | rfl) ?_
  show Go _ _ _ _ _ _ _ _ _ _ _ _ h0 0 0 0 #[.val (.ref a), .val (.int k), .val (.ref r), .val (.int 0), .val (.int 0), .unset, .unset] []
  have n_827 : a ≠ e := by obtain ⟨_, Ag, -⟩ := hA; exact ne_arr hE (own_w hw 15 rfl) Ag
  have n_828 : a ≠ p := by obtain ⟨_, Ag, -⟩ := hB; exact ne_arr hE (own_w hw 15 rfl) Ag
  have n_829 : a ≠ r := by obtain ⟨_, Ag, -⟩ := hR; exact ne_arr hE (own_w hw 15 rfl) Ag
  refine Go.iload (pc' := 2) d6_0 rfl rfl ?_
  refine Go.iloadN (pc' := 3) d6_2 rfl rfl ?_
  refine Go.isub (pc' := 4) d6_3 rfl ?_
  show Go _ _ _ _ _ _ _ _ _ _ _ _ h0 0 0 4 #[.val (.ref a), .val (.int k), .val (.ref r), .val (.int 0), .val (.int 0), .unset, .unset] [(.int 0)]
  refine Go.iconst (pc' := 5) (v := (1 : Int32)) d6_4 rfl rfl ?_
  refine Go.icmp (pc1 := 17) (pc2 := 8) d6_5 (by decide) (by decide) rfl (fun (c_830 : (0 : Int) ≠ (1 : Int)) => ?_) (fun (c_830 : (0 : Int) = (1 : Int)) => ?_)
  rotate_left
  · exact absurd c_830 (by decide)
  refine Go.iload (pc' := 19) d6_17 rfl rfl ?_
  refine Go.iloadN (pc' := 20) d6_19 rfl rfl ?_
  refine Go.isub (pc' := 21) d6_20 rfl ?_
  show Go _ _ _ _ _ _ _ _ _ _ _ _ h0 0 0 21 #[.val (.ref a), .val (.int k), .val (.ref r), .val (.int 0), .val (.int 0), .unset, .unset] [(.int 0)]
  refine Go.istore (pc' := 23) (Ls' := #[.val (.ref a), .val (.int k), .val (.ref r), .val (.int 0), .val (.int 0), .val (.int 0), .unset]) d6_21 rfl rfl ?_
  refine Go.aloadN (pc' := 24) d6_23 rfl rfl rfl ?_
  refine Go.iloadN (pc' := 25) d6_24 rfl rfl ?_
  refine Go.iload (pc' := 27) d6_25 rfl rfl ?_
  refine Go.callPW (pc' := 30) (argsL := [(.int k), (.int 0)]) (rest := []) (W := 0) (own_w hw 114 rfl) (own_w hw 115 rfl) (own_w hw 116 rfl) (own_w hw 16 rfl) (own_w hw 117 rfl) (own_w hw 33 rfl) rfl (by decide) hE (m_pl0 l Z a0 hw a e p k (0 : Int32) h0 n0 z0 hE hF0 hF1 hF2 hF3 hF4 hF5 hF6 hg hA hB hk0 hk (by decide) (by decide)) d6_27 rfl pd2 rfl rfl (Nat.le_of_eq rfl) (by decide) (by decide) (by decide) (by decide) rfl ?_
  rintro _ h_831 ⟨rfl, o_832, b_833, ky_834, s_835, K_836, F_845, F_846, F_847, F_848, F_849, F_850, F_851, A_837, A_838, q_839, t_840, q_841, t_842, ne_843, hs_844⟩
  obtain rfl : s_835 = (1 : Int32) := Int32.toInt_inj.mp (by rw [hs_844]; decide)
  have n_852 : a ≠ o_832 := Nat.ne_of_lt (Nat.lt_of_lt_of_le hE.lt q_839)
  have n_853 : e ≠ o_832 := Nat.ne_of_lt (Nat.lt_of_lt_of_le hA.lt q_839)
  have n_854 : p ≠ o_832 := Nat.ne_of_lt (Nat.lt_of_lt_of_le hB.lt q_839)
  have n_855 : r ≠ o_832 := Nat.ne_of_lt (Nat.lt_of_lt_of_le hR.lt q_839)
  have g_856 : n0 ≤ o_832 := Nat.le_trans z0 q_839
  have g_857 : h0.size ≤ o_832 := Nat.le_trans (Nat.le_refl _) q_839
  have n_858 : a ≠ b_833 := Nat.ne_of_lt (Nat.lt_of_lt_of_le hE.lt q_841)
  have n_859 : e ≠ b_833 := Nat.ne_of_lt (Nat.lt_of_lt_of_le hA.lt q_841)
  have n_860 : p ≠ b_833 := Nat.ne_of_lt (Nat.lt_of_lt_of_le hB.lt q_841)
  have n_861 : r ≠ b_833 := Nat.ne_of_lt (Nat.lt_of_lt_of_le hR.lt q_841)
  have g_862 : n0 ≤ b_833 := Nat.le_trans z0 q_841
  have g_863 : h0.size ≤ b_833 := Nat.le_trans (Nat.le_refl _) q_841
  have f_864 : Exa Z h_831 a "com/example/nearword/nearword/internal/index/IntRuns" := hE.keep K_836
  have f_872 : Ary Z h_831 e .int [] := hA.sm (Sm.keep K_836 (ninS n_827.symm nin0))
  have f_873 : Ary Z h_831 p .int [] := hB.sm (Sm.keep K_836 (ninS n_828.symm nin0))
  have f_874 : Ary Z h_831 r .int [(.int u0), (.int u1), (.int u2), (.int u3), (.int u4), (.int u5)] := hR.sm (Sm.keep K_836 (ninS har.symm nin0))
  have t_875 : a < h_831.size := Nat.lt_of_lt_of_le hE.lt K_836.1
  have t_876 : e < h_831.size := Nat.lt_of_lt_of_le hA.lt K_836.1
  have t_877 : p < h_831.size := Nat.lt_of_lt_of_le hB.lt K_836.1
  have t_878 : r < h_831.size := Nat.lt_of_lt_of_le hR.lt K_836.1
  have z_879 : n0 ≤ h_831.size := Nat.le_trans z0 K_836.1
  have b_880 : h0.size ≤ h_831.size := Nat.le_trans (Nat.le_refl _) K_836.1
  have K_881 : Keep h0 h_831 [a] := (Keep.refl _ _).trans K_836 (allS (Or.inl (List.mem_of_getElem? (i := 0) rfl)) all0)
  show Go _ _ _ _ _ _ _ _ _ _ _ _ h_831 (0 + 6) (0 + 208) 30 #[.val (.ref a), .val (.int k), .val (.ref r), .val (.int 0), .val (.int 0), .val (.int 0), .unset] [(.int 0)]
  refine Go.istore (pc' := 32) (Ls' := #[.val (.ref a), .val (.int k), .val (.ref r), .val (.int 0), .val (.int 0), .val (.int 0), .val (.int 0)]) d6_30 rfl rfl ?_
  refine Go.aloadN (pc' := 33) d6_32 rfl rfl rfl ?_
  refine Go.iloadN (pc' := 34) d6_33 rfl rfl ?_
  refine Go.aloadN (pc' := 35) d6_34 rfl rfl rfl ?_
  refine Go.getF (pc' := 38) (own_w hw 26 rfl) F_846 d6_35 rfl ?_
  refine Go.iload (pc' := 40) d6_38 rfl rfl ?_
  refine Go.iconst (pc' := 41) (v := (1 : Int32)) d6_40 rfl rfl ?_
  refine Go.iadd (pc' := 42) d6_41 rfl ?_
  show Go _ _ _ _ _ _ _ _ _ _ _ _ h_831 (0 + 6) (0 + 208) 42 #[.val (.ref a), .val (.int k), .val (.ref r), .val (.int 0), .val (.int 0), .val (.int 0), .val (.int 0)] [(.int 1), (.ref b_833), (.int 0), (.ref r)]
  refine Go.iload (pc' := 44) d6_42 rfl rfl ?_
  refine Go.acopy (pc' := 47) (i1 := 0) (i2 := 1) (k := 0) (za := (6 : Int32)) (zb := (16 : Int32)) (W := 0) (res := [(.int 0), (.int 0), (.int 0), (.int 0), (.int 0), (.int 0), (.int 0), (.int 0), (.int 0), (.int 0), (.int 0), (.int 0), (.int 0), (.int 0), (.int 0), (.int 0)]) (own_w hw 125 rfl) (own_w hw 87 rfl) (own_w hw 85 rfl) (own_w hw 86 rfl) f_874 A_838 rfl (by intro v hv; simp only [List.mem_cons, List.not_mem_nil, or_false] at hv; rcases hv with rfl | rfl | rfl | rfl | rfl | rfl <;> rfl) (by intro v hv; simp only [List.mem_cons, List.not_mem_nil, or_false] at hv; rcases hv with rfl | rfl | rfl | rfl | rfl | rfl | rfl | rfl | rfl | rfl | rfl | rfl | rfl | rfl | rfl | rfl <;> rfl) rfl rfl rfl rfl rfl (by show 0 + 0 ≤ 6; decide) (by show 1 + 0 ≤ 16; decide) rfl g_862 d6_44 rfl (by decide) (Nat.le_of_eq rfl) (by decide) rfl ?_
  intro h_882 K_883 A_884
  have f_885 : Exa Z h_882 a "com/example/nearword/nearword/internal/index/IntRuns" := f_864.sm (Sm.keep K_883 (ninS n_858 nin0))
  have f_886 : Ary Z h_882 e .int [] := f_872.sm (Sm.keep K_883 (ninS n_859 nin0))
  have f_887 : Ary Z h_882 p .int [] := f_873.sm (Sm.keep K_883 (ninS n_860 nin0))
  have f_888 : Ary Z h_882 r .int [(.int u0), (.int u1), (.int u2), (.int u3), (.int u4), (.int u5)] := f_874.sm (Sm.keep K_883 (ninS n_861 nin0))
  have f_889 : Fld Z h_882 a "com/example/nearword/nearword/internal/index/IntRuns" "at" "[I" (.ref o_832) := F_845.sm (Sm.keep K_883 (ninS n_858 nin0))
  have f_890 : Fld Z h_882 a "com/example/nearword/nearword/internal/index/IntRuns" "pool" "[I" (.ref b_833) := F_846.sm (Sm.keep K_883 (ninS n_858 nin0))
  have f_891 : Fld Z h_882 a "com/example/nearword/nearword/internal/index/IntRuns" "mostInts" "I" (.int 1048576) := F_847.sm (Sm.keep K_883 (ninS n_858 nin0))
  have f_892 : Fld Z h_882 a "com/example/nearword/nearword/internal/index/IntRuns" "keys" "I" (.int ky_834) := F_848.sm (Sm.keep K_883 (ninS n_858 nin0))
  have f_893 : Fld Z h_882 a "com/example/nearword/nearword/internal/index/IntRuns" "poolLeft" "I" (.int 0) := F_849.sm (Sm.keep K_883 (ninS n_858 nin0))
  have f_894 : Fld Z h_882 a "com/example/nearword/nearword/internal/index/IntRuns" "poolSize" "I" (.int 1) := F_850.sm (Sm.keep K_883 (ninS n_858 nin0))
  have f_895 : Fld Z h_882 a "com/example/nearword/nearword/internal/index/IntRuns" "keysToCome" "I" (.int 0) := F_851.sm (Sm.keep K_883 (ninS n_858 nin0))
  have f_896 : Ary Z h_882 o_832 .int (own_m1.set k.toInt.toNat (.int 0)) := A_837.sm (Sm.keep K_883 (ninS ne_843 nin0))
  have t_897 : a < h_882.size := Nat.lt_of_lt_of_le t_875 K_883.1
  have t_898 : e < h_882.size := Nat.lt_of_lt_of_le t_876 K_883.1
  have t_899 : p < h_882.size := Nat.lt_of_lt_of_le t_877 K_883.1
  have t_900 : r < h_882.size := Nat.lt_of_lt_of_le t_878 K_883.1
  have t_901 : o_832 < h_882.size := Nat.lt_of_lt_of_le t_840 K_883.1
  have t_902 : b_833 < h_882.size := Nat.lt_of_lt_of_le t_842 K_883.1
  have z_903 : n0 ≤ h_882.size := Nat.le_trans z_879 K_883.1
  have b_904 : h0.size ≤ h_882.size := Nat.le_trans b_880 K_883.1
  have K_905 : Keep h0 h_882 [a] := K_881.trans K_883 (allS (Or.inr g_863) all0)
  refine Go.aloadN (pc' := 48) d6_47 rfl rfl rfl ?_
  refine Go.callP (pc' := 51) (argsL := []) (rest := []) (W := 0) (own_w hw 101 rfl) (own_w hw 102 rfl) (own_w hw 103 rfl) (own_w hw 16 rfl) (own_w hw 104 rfl) (own_w hw 33 rfl) rfl (by decide) f_885 (m_cp l Z a0 hw a (1 : Int32) h_882 n0 z_903 f_893 f_894 (by decide)) d6_48 rfl pd10 rfl rfl (Nat.le_of_eq rfl) (by decide) (by decide) (by decide) (by decide) rfl ?_
  rintro _ _ ⟨rfl, rfl⟩
  show Go _ _ _ _ _ _ _ _ _ _ _ _ h_882 (0 + 6 + 0) (0 + 208 + 0) 51 #[.val (.ref a), .val (.int k), .val (.ref r), .val (.int 0), .val (.int 0), .val (.int 0), .val (.int 0)] []
  exact Go.ret0 d6_51 rfl ⟨rfl, o_832, b_833, ky_834, K_905, f_889, f_890, f_891, f_892, f_893, f_894, f_895, f_896, A_884, g_857, t_901, g_863, t_902, ne_843⟩ (by decide) (by decide)
set_option maxRecDepth 65536 in
set_option maxHeartbeats 40000000 in
theorem m_set0_1 (l : Launch) (Z : State) (a0 : Array Value) (hw : ∀ d ∈ tables_1, d.before a0 Z = true) (a e p r : Addr) (k : Int32) (u0 u1 u2 u3 u4 u5 : Int32) (h0 : Heap) (n0 : Nat) (z0 : n0 ≤ h0.size) (hE : Exa Z h0 a "com/example/nearword/nearword/internal/index/IntRuns") (hF0 : Fld Z h0 a "com/example/nearword/nearword/internal/index/IntRuns" "at" "[I" (.ref e)) (hF1 : Fld Z h0 a "com/example/nearword/nearword/internal/index/IntRuns" "pool" "[I" (.ref p)) (hF2 : Fld Z h0 a "com/example/nearword/nearword/internal/index/IntRuns" "mostInts" "I" (.int 1048576)) (hF3 : Fld Z h0 a "com/example/nearword/nearword/internal/index/IntRuns" "keys" "I" (.int 0)) (hF4 : Fld Z h0 a "com/example/nearword/nearword/internal/index/IntRuns" "poolLeft" "I" (.int 0)) (hF5 : Fld Z h0 a "com/example/nearword/nearword/internal/index/IntRuns" "poolSize" "I" (.int 0)) (hF6 : Fld Z h0 a "com/example/nearword/nearword/internal/index/IntRuns" "keysToCome" "I" (.int 0)) (hg : n0 ≤ a) (hA : Ary Z h0 e .int []) (hB : Ary Z h0 p .int []) (hR : Ary Z h0 r .int [(.int u0), (.int u1), (.int u2), (.int u3), (.int u4), (.int u5)]) (har : a ≠ r) (hk0 : 0 ≤ k.toInt) (hk : k.toInt ≤ 15) : Mt true l Z (⟨"com/example/nearword/nearword/internal/index/IntRuns", "set", "(I[III)V"⟩ : MethodName) prog_42_method_13_code 7 none ({ frames := 6, cells := 6, slots := 208, locals := 115 } : Room) n0 (fun v h => v = none ∧ ∃ o ky, Keep h0 h [a] ∧ Fld Z h a "com/example/nearword/nearword/internal/index/IntRuns" "at" "[I" (.ref o) ∧ Fld Z h a "com/example/nearword/nearword/internal/index/IntRuns" "pool" "[I" (.ref p) ∧ Fld Z h a "com/example/nearword/nearword/internal/index/IntRuns" "mostInts" "I" (.int 1048576) ∧ Fld Z h a "com/example/nearword/nearword/internal/index/IntRuns" "keys" "I" (.int ky) ∧ Fld Z h a "com/example/nearword/nearword/internal/index/IntRuns" "poolLeft" "I" (.int 0) ∧ Fld Z h a "com/example/nearword/nearword/internal/index/IntRuns" "poolSize" "I" (.int 0) ∧ Fld Z h a "com/example/nearword/nearword/internal/index/IntRuns" "keysToCome" "I" (.int 0) ∧ Ary Z h o .int (own_m1.set k.toInt.toNat (.int ((-2 : Int32) - u0)))) h0 #[(.ref a), (.int k), (.ref r), (.int 0), (.int 1)] := by
  refine Mt.go (Ls := #[.val (.ref a), .val (.int k), .val (.ref r), .val (.int 0), .val (.int 1), .unset, .unset]) (plainFor_of_name pn1) (fun m => by first | (simp [entryFrame, mkF, argsToLocals, Value.category]; done) | rfl) ?_
  show Go _ _ _ _ _ _ _ _ _ _ _ _ h0 0 0 0 #[.val (.ref a), .val (.int k), .val (.ref r), .val (.int 0), .val (.int 1), .unset, .unset] []
  have n_906 : a ≠ e := by obtain ⟨_, Ag, -⟩ := hA; exact ne_arr hE (own_w hw 15 rfl) Ag
  have n_907 : a ≠ p := by obtain ⟨_, Ag, -⟩ := hB; exact ne_arr hE (own_w hw 15 rfl) Ag
  have n_908 : a ≠ r := by obtain ⟨_, Ag, -⟩ := hR; exact ne_arr hE (own_w hw 15 rfl) Ag
  refine Go.iload (pc' := 2) d6_0 rfl rfl ?_
  refine Go.iloadN (pc' := 3) d6_2 rfl rfl ?_
  refine Go.isub (pc' := 4) d6_3 rfl ?_
  show Go _ _ _ _ _ _ _ _ _ _ _ _ h0 0 0 4 #[.val (.ref a), .val (.int k), .val (.ref r), .val (.int 0), .val (.int 1), .unset, .unset] [(.int 1)]
  refine Go.iconst (pc' := 5) (v := (1 : Int32)) d6_4 rfl rfl ?_
  refine Go.icmp (pc1 := 17) (pc2 := 8) d6_5 (by decide) (by decide) rfl (fun (c_909 : (1 : Int) ≠ (1 : Int)) => ?_) (fun (c_909 : (1 : Int) = (1 : Int)) => ?_)
  · exact absurd c_909 (by decide)
  refine Go.aloadN (pc' := 9) d6_8 rfl rfl rfl ?_
  refine Go.iloadN (pc' := 10) d6_9 rfl rfl ?_
  refine Go.aloadN (pc' := 11) d6_10 rfl rfl rfl ?_
  refine Go.iloadN (pc' := 12) d6_11 rfl rfl ?_
  refine Go.ldI (pc' := 13) (k := 0) (v := (.int u0)) hR rfl rfl d6_12 rfl ?_
  refine Go.callVW (pc' := 16) (argsL := [(.int k), (.int u0)]) (rest := []) (W := 0) (own_w hw 35 rfl) (own_w hw 36 rfl) (own_w hw 38 rfl) (own_w hw 37 rfl) (own_w hw 16 rfl) (own_w hw 39 rfl) (by decide) hE (m_one0 l Z a0 hw a e p (0 : Int32) k u0 h0 n0 z0 hE hF0 hF1 hF2 hF3 hF4 hF5 hF6 hg hA hk0 hk (by decide)) d6_13 rfl pd12 rfl rfl (Nat.le_of_eq rfl) (by decide) (by decide) (by decide) (by decide) rfl ?_
  rintro _ h_910 ⟨rfl, o_911, ky_912, K_913, F_917, F_918, F_919, F_920, F_921, F_922, F_923, A_914, q_915, t_916⟩
  have f_924 : Exa Z h_910 a "com/example/nearword/nearword/internal/index/IntRuns" := hE.keep K_913
  have f_932 : Ary Z h_910 e .int [] := hA.sm (Sm.keep K_913 (ninS n_906.symm nin0))
  have f_933 : Ary Z h_910 p .int [] := hB.sm (Sm.keep K_913 (ninS n_907.symm nin0))
  have f_934 : Ary Z h_910 r .int [(.int u0), (.int u1), (.int u2), (.int u3), (.int u4), (.int u5)] := hR.sm (Sm.keep K_913 (ninS har.symm nin0))
  have t_935 : a < h_910.size := Nat.lt_of_lt_of_le hE.lt K_913.1
  have t_936 : e < h_910.size := Nat.lt_of_lt_of_le hA.lt K_913.1
  have t_937 : p < h_910.size := Nat.lt_of_lt_of_le hB.lt K_913.1
  have t_938 : r < h_910.size := Nat.lt_of_lt_of_le hR.lt K_913.1
  have z_939 : n0 ≤ h_910.size := Nat.le_trans z0 K_913.1
  have b_940 : h0.size ≤ h_910.size := Nat.le_trans (Nat.le_refl _) K_913.1
  have K_941 : Keep h0 h_910 [a] := (Keep.refl _ _).trans K_913 (allS (Or.inl (List.mem_of_getElem? (i := 0) rfl)) all0)
  show Go _ _ _ _ _ _ _ _ _ _ _ _ h_910 (0 + 3) (0 + 104) 16 #[.val (.ref a), .val (.int k), .val (.ref r), .val (.int 0), .val (.int 1), .unset, .unset] []
  exact Go.ret0 d6_16 rfl ⟨rfl, o_911, ky_912, K_941, F_917, F_918, F_919, F_920, F_921, F_922, F_923, A_914⟩ (by decide) (by decide)
set_option maxRecDepth 65536 in
set_option maxHeartbeats 40000000 in
theorem m_set0_2 (l : Launch) (Z : State) (a0 : Array Value) (hw : ∀ d ∈ tables_1, d.before a0 Z = true) (a e p r : Addr) (k : Int32) (u0 u1 u2 u3 u4 u5 : Int32) (h0 : Heap) (n0 : Nat) (z0 : n0 ≤ h0.size) (hE : Exa Z h0 a "com/example/nearword/nearword/internal/index/IntRuns") (hF0 : Fld Z h0 a "com/example/nearword/nearword/internal/index/IntRuns" "at" "[I" (.ref e)) (hF1 : Fld Z h0 a "com/example/nearword/nearword/internal/index/IntRuns" "pool" "[I" (.ref p)) (hF2 : Fld Z h0 a "com/example/nearword/nearword/internal/index/IntRuns" "mostInts" "I" (.int 1048576)) (hF3 : Fld Z h0 a "com/example/nearword/nearword/internal/index/IntRuns" "keys" "I" (.int 0)) (hF4 : Fld Z h0 a "com/example/nearword/nearword/internal/index/IntRuns" "poolLeft" "I" (.int 0)) (hF5 : Fld Z h0 a "com/example/nearword/nearword/internal/index/IntRuns" "poolSize" "I" (.int 0)) (hF6 : Fld Z h0 a "com/example/nearword/nearword/internal/index/IntRuns" "keysToCome" "I" (.int 0)) (hg : n0 ≤ a) (hA : Ary Z h0 e .int []) (hB : Ary Z h0 p .int []) (hR : Ary Z h0 r .int [(.int u0), (.int u1), (.int u2), (.int u3), (.int u4), (.int u5)]) (har : a ≠ r) (hk0 : 0 ≤ k.toInt) (hk : k.toInt ≤ 15) : Mt true l Z (⟨"com/example/nearword/nearword/internal/index/IntRuns", "set", "(I[III)V"⟩ : MethodName) prog_42_method_13_code 7 none ({ frames := 6, cells := 6, slots := 208, locals := 115 } : Room) n0 (fun v h => v = none ∧ ∃ o b ky, Keep h0 h [a] ∧ Fld Z h a "com/example/nearword/nearword/internal/index/IntRuns" "at" "[I" (.ref o) ∧ Fld Z h a "com/example/nearword/nearword/internal/index/IntRuns" "pool" "[I" (.ref b) ∧ Fld Z h a "com/example/nearword/nearword/internal/index/IntRuns" "mostInts" "I" (.int 1048576) ∧ Fld Z h a "com/example/nearword/nearword/internal/index/IntRuns" "keys" "I" (.int ky) ∧ Fld Z h a "com/example/nearword/nearword/internal/index/IntRuns" "poolLeft" "I" (.int 0) ∧ Fld Z h a "com/example/nearword/nearword/internal/index/IntRuns" "poolSize" "I" (.int 3) ∧ Fld Z h a "com/example/nearword/nearword/internal/index/IntRuns" "keysToCome" "I" (.int 0) ∧ Ary Z h o .int (own_m1.set k.toInt.toNat (.int 0)) ∧ Ary Z h b .int [(.int 2), (.int u0), (.int u1), (.int 0), (.int 0), (.int 0), (.int 0), (.int 0), (.int 0), (.int 0), (.int 0), (.int 0), (.int 0), (.int 0), (.int 0), (.int 0)] ∧ h0.size ≤ o ∧ o < h.size ∧ h0.size ≤ b ∧ b < h.size ∧ o ≠ b) h0 #[(.ref a), (.int k), (.ref r), (.int 0), (.int 2)] := by
  refine Mt.go (Ls := #[.val (.ref a), .val (.int k), .val (.ref r), .val (.int 0), .val (.int 2), .unset, .unset]) (plainFor_of_name pn1) (fun m => by first | (simp [entryFrame, mkF, argsToLocals, Value.category]; done) | rfl) ?_
  show Go _ _ _ _ _ _ _ _ _ _ _ _ h0 0 0 0 #[.val (.ref a), .val (.int k), .val (.ref r), .val (.int 0), .val (.int 2), .unset, .unset] []
  have n_942 : a ≠ e := by obtain ⟨_, Ag, -⟩ := hA; exact ne_arr hE (own_w hw 15 rfl) Ag
  have n_943 : a ≠ p := by obtain ⟨_, Ag, -⟩ := hB; exact ne_arr hE (own_w hw 15 rfl) Ag
  have n_944 : a ≠ r := by obtain ⟨_, Ag, -⟩ := hR; exact ne_arr hE (own_w hw 15 rfl) Ag
  refine Go.iload (pc' := 2) d6_0 rfl rfl ?_
  refine Go.iloadN (pc' := 3) d6_2 rfl rfl ?_
  refine Go.isub (pc' := 4) d6_3 rfl ?_
  show Go _ _ _ _ _ _ _ _ _ _ _ _ h0 0 0 4 #[.val (.ref a), .val (.int k), .val (.ref r), .val (.int 0), .val (.int 2), .unset, .unset] [(.int 2)]
  refine Go.iconst (pc' := 5) (v := (1 : Int32)) d6_4 rfl rfl ?_
  refine Go.icmp (pc1 := 17) (pc2 := 8) d6_5 (by decide) (by decide) rfl (fun (c_945 : (2 : Int) ≠ (1 : Int)) => ?_) (fun (c_945 : (2 : Int) = (1 : Int)) => ?_)
  rotate_left
  · exact absurd c_945 (by decide)
  refine Go.iload (pc' := 19) d6_17 rfl rfl ?_
  refine Go.iloadN (pc' := 20) d6_19 rfl rfl ?_
  refine Go.isub (pc' := 21) d6_20 rfl ?_
  show Go _ _ _ _ _ _ _ _ _ _ _ _ h0 0 0 21 #[.val (.ref a), .val (.int k), .val (.ref r), .val (.int 0), .val (.int 2), .unset, .unset] [(.int 2)]
  refine Go.istore (pc' := 23) (Ls' := #[.val (.ref a), .val (.int k), .val (.ref r), .val (.int 0), .val (.int 2), .val (.int 2), .unset]) d6_21 rfl rfl ?_
  refine Go.aloadN (pc' := 24) d6_23 rfl rfl rfl ?_
  refine Go.iloadN (pc' := 25) d6_24 rfl rfl ?_
  refine Go.iload (pc' := 27) d6_25 rfl rfl ?_
  refine Go.callPW (pc' := 30) (argsL := [(.int k), (.int 2)]) (rest := []) (W := 0) (own_w hw 114 rfl) (own_w hw 115 rfl) (own_w hw 116 rfl) (own_w hw 16 rfl) (own_w hw 117 rfl) (own_w hw 33 rfl) rfl (by decide) hE (m_pl0 l Z a0 hw a e p k (2 : Int32) h0 n0 z0 hE hF0 hF1 hF2 hF3 hF4 hF5 hF6 hg hA hB hk0 hk (by decide) (by decide)) d6_27 rfl pd2 rfl rfl (Nat.le_of_eq rfl) (by decide) (by decide) (by decide) (by decide) rfl ?_
  rintro _ h_946 ⟨rfl, o_947, b_948, ky_949, s_950, K_951, F_960, F_961, F_962, F_963, F_964, F_965, F_966, A_952, A_953, q_954, t_955, q_956, t_957, ne_958, hs_959⟩
  obtain rfl : s_950 = (3 : Int32) := Int32.toInt_inj.mp (by rw [hs_959]; decide)
  have n_967 : a ≠ o_947 := Nat.ne_of_lt (Nat.lt_of_lt_of_le hE.lt q_954)
  have n_968 : e ≠ o_947 := Nat.ne_of_lt (Nat.lt_of_lt_of_le hA.lt q_954)
  have n_969 : p ≠ o_947 := Nat.ne_of_lt (Nat.lt_of_lt_of_le hB.lt q_954)
  have n_970 : r ≠ o_947 := Nat.ne_of_lt (Nat.lt_of_lt_of_le hR.lt q_954)
  have g_971 : n0 ≤ o_947 := Nat.le_trans z0 q_954
  have g_972 : h0.size ≤ o_947 := Nat.le_trans (Nat.le_refl _) q_954
  have n_973 : a ≠ b_948 := Nat.ne_of_lt (Nat.lt_of_lt_of_le hE.lt q_956)
  have n_974 : e ≠ b_948 := Nat.ne_of_lt (Nat.lt_of_lt_of_le hA.lt q_956)
  have n_975 : p ≠ b_948 := Nat.ne_of_lt (Nat.lt_of_lt_of_le hB.lt q_956)
  have n_976 : r ≠ b_948 := Nat.ne_of_lt (Nat.lt_of_lt_of_le hR.lt q_956)
  have g_977 : n0 ≤ b_948 := Nat.le_trans z0 q_956
  have g_978 : h0.size ≤ b_948 := Nat.le_trans (Nat.le_refl _) q_956
  have f_979 : Exa Z h_946 a "com/example/nearword/nearword/internal/index/IntRuns" := hE.keep K_951
  have f_987 : Ary Z h_946 e .int [] := hA.sm (Sm.keep K_951 (ninS n_942.symm nin0))
  have f_988 : Ary Z h_946 p .int [] := hB.sm (Sm.keep K_951 (ninS n_943.symm nin0))
  have f_989 : Ary Z h_946 r .int [(.int u0), (.int u1), (.int u2), (.int u3), (.int u4), (.int u5)] := hR.sm (Sm.keep K_951 (ninS har.symm nin0))
  have t_990 : a < h_946.size := Nat.lt_of_lt_of_le hE.lt K_951.1
  have t_991 : e < h_946.size := Nat.lt_of_lt_of_le hA.lt K_951.1
  have t_992 : p < h_946.size := Nat.lt_of_lt_of_le hB.lt K_951.1
  have t_993 : r < h_946.size := Nat.lt_of_lt_of_le hR.lt K_951.1
  have z_994 : n0 ≤ h_946.size := Nat.le_trans z0 K_951.1
  have b_995 : h0.size ≤ h_946.size := Nat.le_trans (Nat.le_refl _) K_951.1
  have K_996 : Keep h0 h_946 [a] := (Keep.refl _ _).trans K_951 (allS (Or.inl (List.mem_of_getElem? (i := 0) rfl)) all0)
  show Go _ _ _ _ _ _ _ _ _ _ _ _ h_946 (0 + 6) (0 + 208) 30 #[.val (.ref a), .val (.int k), .val (.ref r), .val (.int 0), .val (.int 2), .val (.int 2), .unset] [(.int 0)]
  refine Go.istore (pc' := 32) (Ls' := #[.val (.ref a), .val (.int k), .val (.ref r), .val (.int 0), .val (.int 2), .val (.int 2), .val (.int 0)]) d6_30 rfl rfl ?_
  refine Go.aloadN (pc' := 33) d6_32 rfl rfl rfl ?_
  refine Go.iloadN (pc' := 34) d6_33 rfl rfl ?_
  refine Go.aloadN (pc' := 35) d6_34 rfl rfl rfl ?_
  refine Go.getF (pc' := 38) (own_w hw 26 rfl) F_961 d6_35 rfl ?_
  refine Go.iload (pc' := 40) d6_38 rfl rfl ?_
  refine Go.iconst (pc' := 41) (v := (1 : Int32)) d6_40 rfl rfl ?_
  refine Go.iadd (pc' := 42) d6_41 rfl ?_
  show Go _ _ _ _ _ _ _ _ _ _ _ _ h_946 (0 + 6) (0 + 208) 42 #[.val (.ref a), .val (.int k), .val (.ref r), .val (.int 0), .val (.int 2), .val (.int 2), .val (.int 0)] [(.int 1), (.ref b_948), (.int 0), (.ref r)]
  refine Go.iload (pc' := 44) d6_42 rfl rfl ?_
  refine Go.acopy (pc' := 47) (i1 := 0) (i2 := 1) (k := 2) (za := (6 : Int32)) (zb := (16 : Int32)) (W := 0) (res := [(.int 2), (.int u0), (.int u1), (.int 0), (.int 0), (.int 0), (.int 0), (.int 0), (.int 0), (.int 0), (.int 0), (.int 0), (.int 0), (.int 0), (.int 0), (.int 0)]) (own_w hw 125 rfl) (own_w hw 87 rfl) (own_w hw 85 rfl) (own_w hw 86 rfl) f_989 A_953 rfl (by intro v hv; simp only [List.mem_cons, List.not_mem_nil, or_false] at hv; rcases hv with rfl | rfl | rfl | rfl | rfl | rfl <;> rfl) (by intro v hv; simp only [List.mem_cons, List.not_mem_nil, or_false] at hv; rcases hv with rfl | rfl | rfl | rfl | rfl | rfl | rfl | rfl | rfl | rfl | rfl | rfl | rfl | rfl | rfl | rfl <;> rfl) rfl rfl rfl rfl rfl (by show 0 + 2 ≤ 6; decide) (by show 1 + 2 ≤ 16; decide) rfl g_977 d6_44 rfl (by decide) (Nat.le_of_eq rfl) (by decide) rfl ?_
  intro h_997 K_998 A_999
  have f_1000 : Exa Z h_997 a "com/example/nearword/nearword/internal/index/IntRuns" := f_979.sm (Sm.keep K_998 (ninS n_973 nin0))
  have f_1001 : Ary Z h_997 e .int [] := f_987.sm (Sm.keep K_998 (ninS n_974 nin0))
  have f_1002 : Ary Z h_997 p .int [] := f_988.sm (Sm.keep K_998 (ninS n_975 nin0))
  have f_1003 : Ary Z h_997 r .int [(.int u0), (.int u1), (.int u2), (.int u3), (.int u4), (.int u5)] := f_989.sm (Sm.keep K_998 (ninS n_976 nin0))
  have f_1004 : Fld Z h_997 a "com/example/nearword/nearword/internal/index/IntRuns" "at" "[I" (.ref o_947) := F_960.sm (Sm.keep K_998 (ninS n_973 nin0))
  have f_1005 : Fld Z h_997 a "com/example/nearword/nearword/internal/index/IntRuns" "pool" "[I" (.ref b_948) := F_961.sm (Sm.keep K_998 (ninS n_973 nin0))
  have f_1006 : Fld Z h_997 a "com/example/nearword/nearword/internal/index/IntRuns" "mostInts" "I" (.int 1048576) := F_962.sm (Sm.keep K_998 (ninS n_973 nin0))
  have f_1007 : Fld Z h_997 a "com/example/nearword/nearword/internal/index/IntRuns" "keys" "I" (.int ky_949) := F_963.sm (Sm.keep K_998 (ninS n_973 nin0))
  have f_1008 : Fld Z h_997 a "com/example/nearword/nearword/internal/index/IntRuns" "poolLeft" "I" (.int 0) := F_964.sm (Sm.keep K_998 (ninS n_973 nin0))
  have f_1009 : Fld Z h_997 a "com/example/nearword/nearword/internal/index/IntRuns" "poolSize" "I" (.int 3) := F_965.sm (Sm.keep K_998 (ninS n_973 nin0))
  have f_1010 : Fld Z h_997 a "com/example/nearword/nearword/internal/index/IntRuns" "keysToCome" "I" (.int 0) := F_966.sm (Sm.keep K_998 (ninS n_973 nin0))
  have f_1011 : Ary Z h_997 o_947 .int (own_m1.set k.toInt.toNat (.int 0)) := A_952.sm (Sm.keep K_998 (ninS ne_958 nin0))
  have t_1012 : a < h_997.size := Nat.lt_of_lt_of_le t_990 K_998.1
  have t_1013 : e < h_997.size := Nat.lt_of_lt_of_le t_991 K_998.1
  have t_1014 : p < h_997.size := Nat.lt_of_lt_of_le t_992 K_998.1
  have t_1015 : r < h_997.size := Nat.lt_of_lt_of_le t_993 K_998.1
  have t_1016 : o_947 < h_997.size := Nat.lt_of_lt_of_le t_955 K_998.1
  have t_1017 : b_948 < h_997.size := Nat.lt_of_lt_of_le t_957 K_998.1
  have z_1018 : n0 ≤ h_997.size := Nat.le_trans z_994 K_998.1
  have b_1019 : h0.size ≤ h_997.size := Nat.le_trans b_995 K_998.1
  have K_1020 : Keep h0 h_997 [a] := K_996.trans K_998 (allS (Or.inr g_978) all0)
  refine Go.aloadN (pc' := 48) d6_47 rfl rfl rfl ?_
  refine Go.callP (pc' := 51) (argsL := []) (rest := []) (W := 0) (own_w hw 101 rfl) (own_w hw 102 rfl) (own_w hw 103 rfl) (own_w hw 16 rfl) (own_w hw 104 rfl) (own_w hw 33 rfl) rfl (by decide) f_1000 (m_cp l Z a0 hw a (3 : Int32) h_997 n0 z_1018 f_1008 f_1009 (by decide)) d6_48 rfl pd10 rfl rfl (Nat.le_of_eq rfl) (by decide) (by decide) (by decide) (by decide) rfl ?_
  rintro _ _ ⟨rfl, rfl⟩
  show Go _ _ _ _ _ _ _ _ _ _ _ _ h_997 (0 + 6 + 0) (0 + 208 + 0) 51 #[.val (.ref a), .val (.int k), .val (.ref r), .val (.int 0), .val (.int 2), .val (.int 2), .val (.int 0)] []
  exact Go.ret0 d6_51 rfl ⟨rfl, o_947, b_948, ky_949, K_1020, f_1004, f_1005, f_1006, f_1007, f_1008, f_1009, f_1010, f_1011, A_999, g_972, t_1016, g_978, t_1017, ne_958⟩ (by decide) (by decide)
set_option maxRecDepth 65536 in
set_option maxHeartbeats 40000000 in
theorem m_set0_3 (l : Launch) (Z : State) (a0 : Array Value) (hw : ∀ d ∈ tables_1, d.before a0 Z = true) (a e p r : Addr) (k : Int32) (u0 u1 u2 u3 u4 u5 : Int32) (h0 : Heap) (n0 : Nat) (z0 : n0 ≤ h0.size) (hE : Exa Z h0 a "com/example/nearword/nearword/internal/index/IntRuns") (hF0 : Fld Z h0 a "com/example/nearword/nearword/internal/index/IntRuns" "at" "[I" (.ref e)) (hF1 : Fld Z h0 a "com/example/nearword/nearword/internal/index/IntRuns" "pool" "[I" (.ref p)) (hF2 : Fld Z h0 a "com/example/nearword/nearword/internal/index/IntRuns" "mostInts" "I" (.int 1048576)) (hF3 : Fld Z h0 a "com/example/nearword/nearword/internal/index/IntRuns" "keys" "I" (.int 0)) (hF4 : Fld Z h0 a "com/example/nearword/nearword/internal/index/IntRuns" "poolLeft" "I" (.int 0)) (hF5 : Fld Z h0 a "com/example/nearword/nearword/internal/index/IntRuns" "poolSize" "I" (.int 0)) (hF6 : Fld Z h0 a "com/example/nearword/nearword/internal/index/IntRuns" "keysToCome" "I" (.int 0)) (hg : n0 ≤ a) (hA : Ary Z h0 e .int []) (hB : Ary Z h0 p .int []) (hR : Ary Z h0 r .int [(.int u0), (.int u1), (.int u2), (.int u3), (.int u4), (.int u5)]) (har : a ≠ r) (hk0 : 0 ≤ k.toInt) (hk : k.toInt ≤ 15) : Mt true l Z (⟨"com/example/nearword/nearword/internal/index/IntRuns", "set", "(I[III)V"⟩ : MethodName) prog_42_method_13_code 7 none ({ frames := 6, cells := 6, slots := 208, locals := 115 } : Room) n0 (fun v h => v = none ∧ ∃ o b ky, Keep h0 h [a] ∧ Fld Z h a "com/example/nearword/nearword/internal/index/IntRuns" "at" "[I" (.ref o) ∧ Fld Z h a "com/example/nearword/nearword/internal/index/IntRuns" "pool" "[I" (.ref b) ∧ Fld Z h a "com/example/nearword/nearword/internal/index/IntRuns" "mostInts" "I" (.int 1048576) ∧ Fld Z h a "com/example/nearword/nearword/internal/index/IntRuns" "keys" "I" (.int ky) ∧ Fld Z h a "com/example/nearword/nearword/internal/index/IntRuns" "poolLeft" "I" (.int 0) ∧ Fld Z h a "com/example/nearword/nearword/internal/index/IntRuns" "poolSize" "I" (.int 4) ∧ Fld Z h a "com/example/nearword/nearword/internal/index/IntRuns" "keysToCome" "I" (.int 0) ∧ Ary Z h o .int (own_m1.set k.toInt.toNat (.int 0)) ∧ Ary Z h b .int [(.int 3), (.int u0), (.int u1), (.int u2), (.int 0), (.int 0), (.int 0), (.int 0), (.int 0), (.int 0), (.int 0), (.int 0), (.int 0), (.int 0), (.int 0), (.int 0)] ∧ h0.size ≤ o ∧ o < h.size ∧ h0.size ≤ b ∧ b < h.size ∧ o ≠ b) h0 #[(.ref a), (.int k), (.ref r), (.int 0), (.int 3)] := by
  refine Mt.go (Ls := #[.val (.ref a), .val (.int k), .val (.ref r), .val (.int 0), .val (.int 3), .unset, .unset]) (plainFor_of_name pn1) (fun m => by first | (simp [entryFrame, mkF, argsToLocals, Value.category]; done) | rfl) ?_
  show Go _ _ _ _ _ _ _ _ _ _ _ _ h0 0 0 0 #[.val (.ref a), .val (.int k), .val (.ref r), .val (.int 0), .val (.int 3), .unset, .unset] []
  have n_1021 : a ≠ e := by obtain ⟨_, Ag, -⟩ := hA; exact ne_arr hE (own_w hw 15 rfl) Ag
  have n_1022 : a ≠ p := by obtain ⟨_, Ag, -⟩ := hB; exact ne_arr hE (own_w hw 15 rfl) Ag
  have n_1023 : a ≠ r := by obtain ⟨_, Ag, -⟩ := hR; exact ne_arr hE (own_w hw 15 rfl) Ag
  refine Go.iload (pc' := 2) d6_0 rfl rfl ?_
  refine Go.iloadN (pc' := 3) d6_2 rfl rfl ?_
  refine Go.isub (pc' := 4) d6_3 rfl ?_
  show Go _ _ _ _ _ _ _ _ _ _ _ _ h0 0 0 4 #[.val (.ref a), .val (.int k), .val (.ref r), .val (.int 0), .val (.int 3), .unset, .unset] [(.int 3)]
  refine Go.iconst (pc' := 5) (v := (1 : Int32)) d6_4 rfl rfl ?_
  refine Go.icmp (pc1 := 17) (pc2 := 8) d6_5 (by decide) (by decide) rfl (fun (c_1024 : (3 : Int) ≠ (1 : Int)) => ?_) (fun (c_1024 : (3 : Int) = (1 : Int)) => ?_)
  rotate_left
  · exact absurd c_1024 (by decide)
  refine Go.iload (pc' := 19) d6_17 rfl rfl ?_
  refine Go.iloadN (pc' := 20) d6_19 rfl rfl ?_
  refine Go.isub (pc' := 21) d6_20 rfl ?_
  show Go _ _ _ _ _ _ _ _ _ _ _ _ h0 0 0 21 #[.val (.ref a), .val (.int k), .val (.ref r), .val (.int 0), .val (.int 3), .unset, .unset] [(.int 3)]
  refine Go.istore (pc' := 23) (Ls' := #[.val (.ref a), .val (.int k), .val (.ref r), .val (.int 0), .val (.int 3), .val (.int 3), .unset]) d6_21 rfl rfl ?_
  refine Go.aloadN (pc' := 24) d6_23 rfl rfl rfl ?_
  refine Go.iloadN (pc' := 25) d6_24 rfl rfl ?_
  refine Go.iload (pc' := 27) d6_25 rfl rfl ?_
  refine Go.callPW (pc' := 30) (argsL := [(.int k), (.int 3)]) (rest := []) (W := 0) (own_w hw 114 rfl) (own_w hw 115 rfl) (own_w hw 116 rfl) (own_w hw 16 rfl) (own_w hw 117 rfl) (own_w hw 33 rfl) rfl (by decide) hE (m_pl0 l Z a0 hw a e p k (3 : Int32) h0 n0 z0 hE hF0 hF1 hF2 hF3 hF4 hF5 hF6 hg hA hB hk0 hk (by decide) (by decide)) d6_27 rfl pd2 rfl rfl (Nat.le_of_eq rfl) (by decide) (by decide) (by decide) (by decide) rfl ?_
  rintro _ h_1025 ⟨rfl, o_1026, b_1027, ky_1028, s_1029, K_1030, F_1039, F_1040, F_1041, F_1042, F_1043, F_1044, F_1045, A_1031, A_1032, q_1033, t_1034, q_1035, t_1036, ne_1037, hs_1038⟩
  obtain rfl : s_1029 = (4 : Int32) := Int32.toInt_inj.mp (by rw [hs_1038]; decide)
  have n_1046 : a ≠ o_1026 := Nat.ne_of_lt (Nat.lt_of_lt_of_le hE.lt q_1033)
  have n_1047 : e ≠ o_1026 := Nat.ne_of_lt (Nat.lt_of_lt_of_le hA.lt q_1033)
  have n_1048 : p ≠ o_1026 := Nat.ne_of_lt (Nat.lt_of_lt_of_le hB.lt q_1033)
  have n_1049 : r ≠ o_1026 := Nat.ne_of_lt (Nat.lt_of_lt_of_le hR.lt q_1033)
  have g_1050 : n0 ≤ o_1026 := Nat.le_trans z0 q_1033
  have g_1051 : h0.size ≤ o_1026 := Nat.le_trans (Nat.le_refl _) q_1033
  have n_1052 : a ≠ b_1027 := Nat.ne_of_lt (Nat.lt_of_lt_of_le hE.lt q_1035)
  have n_1053 : e ≠ b_1027 := Nat.ne_of_lt (Nat.lt_of_lt_of_le hA.lt q_1035)
  have n_1054 : p ≠ b_1027 := Nat.ne_of_lt (Nat.lt_of_lt_of_le hB.lt q_1035)
  have n_1055 : r ≠ b_1027 := Nat.ne_of_lt (Nat.lt_of_lt_of_le hR.lt q_1035)
  have g_1056 : n0 ≤ b_1027 := Nat.le_trans z0 q_1035
  have g_1057 : h0.size ≤ b_1027 := Nat.le_trans (Nat.le_refl _) q_1035
  have f_1058 : Exa Z h_1025 a "com/example/nearword/nearword/internal/index/IntRuns" := hE.keep K_1030
  have f_1066 : Ary Z h_1025 e .int [] := hA.sm (Sm.keep K_1030 (ninS n_1021.symm nin0))
  have f_1067 : Ary Z h_1025 p .int [] := hB.sm (Sm.keep K_1030 (ninS n_1022.symm nin0))
  have f_1068 : Ary Z h_1025 r .int [(.int u0), (.int u1), (.int u2), (.int u3), (.int u4), (.int u5)] := hR.sm (Sm.keep K_1030 (ninS har.symm nin0))
  have t_1069 : a < h_1025.size := Nat.lt_of_lt_of_le hE.lt K_1030.1
  have t_1070 : e < h_1025.size := Nat.lt_of_lt_of_le hA.lt K_1030.1
  have t_1071 : p < h_1025.size := Nat.lt_of_lt_of_le hB.lt K_1030.1
  have t_1072 : r < h_1025.size := Nat.lt_of_lt_of_le hR.lt K_1030.1
  have z_1073 : n0 ≤ h_1025.size := Nat.le_trans z0 K_1030.1
  have b_1074 : h0.size ≤ h_1025.size := Nat.le_trans (Nat.le_refl _) K_1030.1
  have K_1075 : Keep h0 h_1025 [a] := (Keep.refl _ _).trans K_1030 (allS (Or.inl (List.mem_of_getElem? (i := 0) rfl)) all0)
  show Go _ _ _ _ _ _ _ _ _ _ _ _ h_1025 (0 + 6) (0 + 208) 30 #[.val (.ref a), .val (.int k), .val (.ref r), .val (.int 0), .val (.int 3), .val (.int 3), .unset] [(.int 0)]
  refine Go.istore (pc' := 32) (Ls' := #[.val (.ref a), .val (.int k), .val (.ref r), .val (.int 0), .val (.int 3), .val (.int 3), .val (.int 0)]) d6_30 rfl rfl ?_
  refine Go.aloadN (pc' := 33) d6_32 rfl rfl rfl ?_
  refine Go.iloadN (pc' := 34) d6_33 rfl rfl ?_
  refine Go.aloadN (pc' := 35) d6_34 rfl rfl rfl ?_
  refine Go.getF (pc' := 38) (own_w hw 26 rfl) F_1040 d6_35 rfl ?_
  refine Go.iload (pc' := 40) d6_38 rfl rfl ?_
  refine Go.iconst (pc' := 41) (v := (1 : Int32)) d6_40 rfl rfl ?_
  refine Go.iadd (pc' := 42) d6_41 rfl ?_
  show Go _ _ _ _ _ _ _ _ _ _ _ _ h_1025 (0 + 6) (0 + 208) 42 #[.val (.ref a), .val (.int k), .val (.ref r), .val (.int 0), .val (.int 3), .val (.int 3), .val (.int 0)] [(.int 1), (.ref b_1027), (.int 0), (.ref r)]
  refine Go.iload (pc' := 44) d6_42 rfl rfl ?_
  refine Go.acopy (pc' := 47) (i1 := 0) (i2 := 1) (k := 3) (za := (6 : Int32)) (zb := (16 : Int32)) (W := 0) (res := [(.int 3), (.int u0), (.int u1), (.int u2), (.int 0), (.int 0), (.int 0), (.int 0), (.int 0), (.int 0), (.int 0), (.int 0), (.int 0), (.int 0), (.int 0), (.int 0)]) (own_w hw 125 rfl) (own_w hw 87 rfl) (own_w hw 85 rfl) (own_w hw 86 rfl) f_1068 A_1032 rfl (by intro v hv; simp only [List.mem_cons, List.not_mem_nil, or_false] at hv; rcases hv with rfl | rfl | rfl | rfl | rfl | rfl <;> rfl) (by intro v hv; simp only [List.mem_cons, List.not_mem_nil, or_false] at hv; rcases hv with rfl | rfl | rfl | rfl | rfl | rfl | rfl | rfl | rfl | rfl | rfl | rfl | rfl | rfl | rfl | rfl <;> rfl) rfl rfl rfl rfl rfl (by show 0 + 3 ≤ 6; decide) (by show 1 + 3 ≤ 16; decide) rfl g_1056 d6_44 rfl (by decide) (Nat.le_of_eq rfl) (by decide) rfl ?_
  intro h_1076 K_1077 A_1078
  have f_1079 : Exa Z h_1076 a "com/example/nearword/nearword/internal/index/IntRuns" := f_1058.sm (Sm.keep K_1077 (ninS n_1052 nin0))
  have f_1080 : Ary Z h_1076 e .int [] := f_1066.sm (Sm.keep K_1077 (ninS n_1053 nin0))
  have f_1081 : Ary Z h_1076 p .int [] := f_1067.sm (Sm.keep K_1077 (ninS n_1054 nin0))
  have f_1082 : Ary Z h_1076 r .int [(.int u0), (.int u1), (.int u2), (.int u3), (.int u4), (.int u5)] := f_1068.sm (Sm.keep K_1077 (ninS n_1055 nin0))
  have f_1083 : Fld Z h_1076 a "com/example/nearword/nearword/internal/index/IntRuns" "at" "[I" (.ref o_1026) := F_1039.sm (Sm.keep K_1077 (ninS n_1052 nin0))
  have f_1084 : Fld Z h_1076 a "com/example/nearword/nearword/internal/index/IntRuns" "pool" "[I" (.ref b_1027) := F_1040.sm (Sm.keep K_1077 (ninS n_1052 nin0))
  have f_1085 : Fld Z h_1076 a "com/example/nearword/nearword/internal/index/IntRuns" "mostInts" "I" (.int 1048576) := F_1041.sm (Sm.keep K_1077 (ninS n_1052 nin0))
  have f_1086 : Fld Z h_1076 a "com/example/nearword/nearword/internal/index/IntRuns" "keys" "I" (.int ky_1028) := F_1042.sm (Sm.keep K_1077 (ninS n_1052 nin0))
  have f_1087 : Fld Z h_1076 a "com/example/nearword/nearword/internal/index/IntRuns" "poolLeft" "I" (.int 0) := F_1043.sm (Sm.keep K_1077 (ninS n_1052 nin0))
  have f_1088 : Fld Z h_1076 a "com/example/nearword/nearword/internal/index/IntRuns" "poolSize" "I" (.int 4) := F_1044.sm (Sm.keep K_1077 (ninS n_1052 nin0))
  have f_1089 : Fld Z h_1076 a "com/example/nearword/nearword/internal/index/IntRuns" "keysToCome" "I" (.int 0) := F_1045.sm (Sm.keep K_1077 (ninS n_1052 nin0))
  have f_1090 : Ary Z h_1076 o_1026 .int (own_m1.set k.toInt.toNat (.int 0)) := A_1031.sm (Sm.keep K_1077 (ninS ne_1037 nin0))
  have t_1091 : a < h_1076.size := Nat.lt_of_lt_of_le t_1069 K_1077.1
  have t_1092 : e < h_1076.size := Nat.lt_of_lt_of_le t_1070 K_1077.1
  have t_1093 : p < h_1076.size := Nat.lt_of_lt_of_le t_1071 K_1077.1
  have t_1094 : r < h_1076.size := Nat.lt_of_lt_of_le t_1072 K_1077.1
  have t_1095 : o_1026 < h_1076.size := Nat.lt_of_lt_of_le t_1034 K_1077.1
  have t_1096 : b_1027 < h_1076.size := Nat.lt_of_lt_of_le t_1036 K_1077.1
  have z_1097 : n0 ≤ h_1076.size := Nat.le_trans z_1073 K_1077.1
  have b_1098 : h0.size ≤ h_1076.size := Nat.le_trans b_1074 K_1077.1
  have K_1099 : Keep h0 h_1076 [a] := K_1075.trans K_1077 (allS (Or.inr g_1057) all0)
  refine Go.aloadN (pc' := 48) d6_47 rfl rfl rfl ?_
  refine Go.callP (pc' := 51) (argsL := []) (rest := []) (W := 0) (own_w hw 101 rfl) (own_w hw 102 rfl) (own_w hw 103 rfl) (own_w hw 16 rfl) (own_w hw 104 rfl) (own_w hw 33 rfl) rfl (by decide) f_1079 (m_cp l Z a0 hw a (4 : Int32) h_1076 n0 z_1097 f_1087 f_1088 (by decide)) d6_48 rfl pd10 rfl rfl (Nat.le_of_eq rfl) (by decide) (by decide) (by decide) (by decide) rfl ?_
  rintro _ _ ⟨rfl, rfl⟩
  show Go _ _ _ _ _ _ _ _ _ _ _ _ h_1076 (0 + 6 + 0) (0 + 208 + 0) 51 #[.val (.ref a), .val (.int k), .val (.ref r), .val (.int 0), .val (.int 3), .val (.int 3), .val (.int 0)] []
  exact Go.ret0 d6_51 rfl ⟨rfl, o_1026, b_1027, ky_1028, K_1099, f_1083, f_1084, f_1085, f_1086, f_1087, f_1088, f_1089, f_1090, A_1078, g_1051, t_1095, g_1057, t_1096, ne_1037⟩ (by decide) (by decide)
set_option maxRecDepth 65536 in
set_option maxHeartbeats 40000000 in
theorem m_set0_4 (l : Launch) (Z : State) (a0 : Array Value) (hw : ∀ d ∈ tables_1, d.before a0 Z = true) (a e p r : Addr) (k : Int32) (u0 u1 u2 u3 u4 u5 : Int32) (h0 : Heap) (n0 : Nat) (z0 : n0 ≤ h0.size) (hE : Exa Z h0 a "com/example/nearword/nearword/internal/index/IntRuns") (hF0 : Fld Z h0 a "com/example/nearword/nearword/internal/index/IntRuns" "at" "[I" (.ref e)) (hF1 : Fld Z h0 a "com/example/nearword/nearword/internal/index/IntRuns" "pool" "[I" (.ref p)) (hF2 : Fld Z h0 a "com/example/nearword/nearword/internal/index/IntRuns" "mostInts" "I" (.int 1048576)) (hF3 : Fld Z h0 a "com/example/nearword/nearword/internal/index/IntRuns" "keys" "I" (.int 0)) (hF4 : Fld Z h0 a "com/example/nearword/nearword/internal/index/IntRuns" "poolLeft" "I" (.int 0)) (hF5 : Fld Z h0 a "com/example/nearword/nearword/internal/index/IntRuns" "poolSize" "I" (.int 0)) (hF6 : Fld Z h0 a "com/example/nearword/nearword/internal/index/IntRuns" "keysToCome" "I" (.int 0)) (hg : n0 ≤ a) (hA : Ary Z h0 e .int []) (hB : Ary Z h0 p .int []) (hR : Ary Z h0 r .int [(.int u0), (.int u1), (.int u2), (.int u3), (.int u4), (.int u5)]) (har : a ≠ r) (hk0 : 0 ≤ k.toInt) (hk : k.toInt ≤ 15) : Mt true l Z (⟨"com/example/nearword/nearword/internal/index/IntRuns", "set", "(I[III)V"⟩ : MethodName) prog_42_method_13_code 7 none ({ frames := 6, cells := 6, slots := 208, locals := 115 } : Room) n0 (fun v h => v = none ∧ ∃ o b ky, Keep h0 h [a] ∧ Fld Z h a "com/example/nearword/nearword/internal/index/IntRuns" "at" "[I" (.ref o) ∧ Fld Z h a "com/example/nearword/nearword/internal/index/IntRuns" "pool" "[I" (.ref b) ∧ Fld Z h a "com/example/nearword/nearword/internal/index/IntRuns" "mostInts" "I" (.int 1048576) ∧ Fld Z h a "com/example/nearword/nearword/internal/index/IntRuns" "keys" "I" (.int ky) ∧ Fld Z h a "com/example/nearword/nearword/internal/index/IntRuns" "poolLeft" "I" (.int 0) ∧ Fld Z h a "com/example/nearword/nearword/internal/index/IntRuns" "poolSize" "I" (.int 5) ∧ Fld Z h a "com/example/nearword/nearword/internal/index/IntRuns" "keysToCome" "I" (.int 0) ∧ Ary Z h o .int (own_m1.set k.toInt.toNat (.int 0)) ∧ Ary Z h b .int [(.int 4), (.int u0), (.int u1), (.int u2), (.int u3), (.int 0), (.int 0), (.int 0), (.int 0), (.int 0), (.int 0), (.int 0), (.int 0), (.int 0), (.int 0), (.int 0)] ∧ h0.size ≤ o ∧ o < h.size ∧ h0.size ≤ b ∧ b < h.size ∧ o ≠ b) h0 #[(.ref a), (.int k), (.ref r), (.int 0), (.int 4)] := by
  refine Mt.go (Ls := #[.val (.ref a), .val (.int k), .val (.ref r), .val (.int 0), .val (.int 4), .unset, .unset]) (plainFor_of_name pn1) (fun m => by first | (simp [entryFrame, mkF, argsToLocals, Value.category]; done) | rfl) ?_
  show Go _ _ _ _ _ _ _ _ _ _ _ _ h0 0 0 0 #[.val (.ref a), .val (.int k), .val (.ref r), .val (.int 0), .val (.int 4), .unset, .unset] []
  have n_1100 : a ≠ e := by obtain ⟨_, Ag, -⟩ := hA; exact ne_arr hE (own_w hw 15 rfl) Ag
  have n_1101 : a ≠ p := by obtain ⟨_, Ag, -⟩ := hB; exact ne_arr hE (own_w hw 15 rfl) Ag
  have n_1102 : a ≠ r := by obtain ⟨_, Ag, -⟩ := hR; exact ne_arr hE (own_w hw 15 rfl) Ag
  refine Go.iload (pc' := 2) d6_0 rfl rfl ?_
  refine Go.iloadN (pc' := 3) d6_2 rfl rfl ?_
  refine Go.isub (pc' := 4) d6_3 rfl ?_
  show Go _ _ _ _ _ _ _ _ _ _ _ _ h0 0 0 4 #[.val (.ref a), .val (.int k), .val (.ref r), .val (.int 0), .val (.int 4), .unset, .unset] [(.int 4)]
  refine Go.iconst (pc' := 5) (v := (1 : Int32)) d6_4 rfl rfl ?_
  refine Go.icmp (pc1 := 17) (pc2 := 8) d6_5 (by decide) (by decide) rfl (fun (c_1103 : (4 : Int) ≠ (1 : Int)) => ?_) (fun (c_1103 : (4 : Int) = (1 : Int)) => ?_)
  rotate_left
  · exact absurd c_1103 (by decide)
  refine Go.iload (pc' := 19) d6_17 rfl rfl ?_
  refine Go.iloadN (pc' := 20) d6_19 rfl rfl ?_
  refine Go.isub (pc' := 21) d6_20 rfl ?_
  show Go _ _ _ _ _ _ _ _ _ _ _ _ h0 0 0 21 #[.val (.ref a), .val (.int k), .val (.ref r), .val (.int 0), .val (.int 4), .unset, .unset] [(.int 4)]
  refine Go.istore (pc' := 23) (Ls' := #[.val (.ref a), .val (.int k), .val (.ref r), .val (.int 0), .val (.int 4), .val (.int 4), .unset]) d6_21 rfl rfl ?_
  refine Go.aloadN (pc' := 24) d6_23 rfl rfl rfl ?_
  refine Go.iloadN (pc' := 25) d6_24 rfl rfl ?_
  refine Go.iload (pc' := 27) d6_25 rfl rfl ?_
  refine Go.callPW (pc' := 30) (argsL := [(.int k), (.int 4)]) (rest := []) (W := 0) (own_w hw 114 rfl) (own_w hw 115 rfl) (own_w hw 116 rfl) (own_w hw 16 rfl) (own_w hw 117 rfl) (own_w hw 33 rfl) rfl (by decide) hE (m_pl0 l Z a0 hw a e p k (4 : Int32) h0 n0 z0 hE hF0 hF1 hF2 hF3 hF4 hF5 hF6 hg hA hB hk0 hk (by decide) (by decide)) d6_27 rfl pd2 rfl rfl (Nat.le_of_eq rfl) (by decide) (by decide) (by decide) (by decide) rfl ?_
  rintro _ h_1104 ⟨rfl, o_1105, b_1106, ky_1107, s_1108, K_1109, F_1118, F_1119, F_1120, F_1121, F_1122, F_1123, F_1124, A_1110, A_1111, q_1112, t_1113, q_1114, t_1115, ne_1116, hs_1117⟩
  obtain rfl : s_1108 = (5 : Int32) := Int32.toInt_inj.mp (by rw [hs_1117]; decide)
  have n_1125 : a ≠ o_1105 := Nat.ne_of_lt (Nat.lt_of_lt_of_le hE.lt q_1112)
  have n_1126 : e ≠ o_1105 := Nat.ne_of_lt (Nat.lt_of_lt_of_le hA.lt q_1112)
  have n_1127 : p ≠ o_1105 := Nat.ne_of_lt (Nat.lt_of_lt_of_le hB.lt q_1112)
  have n_1128 : r ≠ o_1105 := Nat.ne_of_lt (Nat.lt_of_lt_of_le hR.lt q_1112)
  have g_1129 : n0 ≤ o_1105 := Nat.le_trans z0 q_1112
  have g_1130 : h0.size ≤ o_1105 := Nat.le_trans (Nat.le_refl _) q_1112
  have n_1131 : a ≠ b_1106 := Nat.ne_of_lt (Nat.lt_of_lt_of_le hE.lt q_1114)
  have n_1132 : e ≠ b_1106 := Nat.ne_of_lt (Nat.lt_of_lt_of_le hA.lt q_1114)
  have n_1133 : p ≠ b_1106 := Nat.ne_of_lt (Nat.lt_of_lt_of_le hB.lt q_1114)
  have n_1134 : r ≠ b_1106 := Nat.ne_of_lt (Nat.lt_of_lt_of_le hR.lt q_1114)
  have g_1135 : n0 ≤ b_1106 := Nat.le_trans z0 q_1114
  have g_1136 : h0.size ≤ b_1106 := Nat.le_trans (Nat.le_refl _) q_1114
  have f_1137 : Exa Z h_1104 a "com/example/nearword/nearword/internal/index/IntRuns" := hE.keep K_1109
  have f_1145 : Ary Z h_1104 e .int [] := hA.sm (Sm.keep K_1109 (ninS n_1100.symm nin0))
  have f_1146 : Ary Z h_1104 p .int [] := hB.sm (Sm.keep K_1109 (ninS n_1101.symm nin0))
  have f_1147 : Ary Z h_1104 r .int [(.int u0), (.int u1), (.int u2), (.int u3), (.int u4), (.int u5)] := hR.sm (Sm.keep K_1109 (ninS har.symm nin0))
  have t_1148 : a < h_1104.size := Nat.lt_of_lt_of_le hE.lt K_1109.1
  have t_1149 : e < h_1104.size := Nat.lt_of_lt_of_le hA.lt K_1109.1
  have t_1150 : p < h_1104.size := Nat.lt_of_lt_of_le hB.lt K_1109.1
  have t_1151 : r < h_1104.size := Nat.lt_of_lt_of_le hR.lt K_1109.1
  have z_1152 : n0 ≤ h_1104.size := Nat.le_trans z0 K_1109.1
  have b_1153 : h0.size ≤ h_1104.size := Nat.le_trans (Nat.le_refl _) K_1109.1
  have K_1154 : Keep h0 h_1104 [a] := (Keep.refl _ _).trans K_1109 (allS (Or.inl (List.mem_of_getElem? (i := 0) rfl)) all0)
  show Go _ _ _ _ _ _ _ _ _ _ _ _ h_1104 (0 + 6) (0 + 208) 30 #[.val (.ref a), .val (.int k), .val (.ref r), .val (.int 0), .val (.int 4), .val (.int 4), .unset] [(.int 0)]
  refine Go.istore (pc' := 32) (Ls' := #[.val (.ref a), .val (.int k), .val (.ref r), .val (.int 0), .val (.int 4), .val (.int 4), .val (.int 0)]) d6_30 rfl rfl ?_
  refine Go.aloadN (pc' := 33) d6_32 rfl rfl rfl ?_
  refine Go.iloadN (pc' := 34) d6_33 rfl rfl ?_
  refine Go.aloadN (pc' := 35) d6_34 rfl rfl rfl ?_
  refine Go.getF (pc' := 38) (own_w hw 26 rfl) F_1119 d6_35 rfl ?_
  refine Go.iload (pc' := 40) d6_38 rfl rfl ?_
  refine Go.iconst (pc' := 41) (v := (1 : Int32)) d6_40 rfl rfl ?_
  refine Go.iadd (pc' := 42) d6_41 rfl ?_
  show Go _ _ _ _ _ _ _ _ _ _ _ _ h_1104 (0 + 6) (0 + 208) 42 #[.val (.ref a), .val (.int k), .val (.ref r), .val (.int 0), .val (.int 4), .val (.int 4), .val (.int 0)] [(.int 1), (.ref b_1106), (.int 0), (.ref r)]
  refine Go.iload (pc' := 44) d6_42 rfl rfl ?_
  refine Go.acopy (pc' := 47) (i1 := 0) (i2 := 1) (k := 4) (za := (6 : Int32)) (zb := (16 : Int32)) (W := 0) (res := [(.int 4), (.int u0), (.int u1), (.int u2), (.int u3), (.int 0), (.int 0), (.int 0), (.int 0), (.int 0), (.int 0), (.int 0), (.int 0), (.int 0), (.int 0), (.int 0)]) (own_w hw 125 rfl) (own_w hw 87 rfl) (own_w hw 85 rfl) (own_w hw 86 rfl) f_1147 A_1111 rfl (by intro v hv; simp only [List.mem_cons, List.not_mem_nil, or_false] at hv; rcases hv with rfl | rfl | rfl | rfl | rfl | rfl <;> rfl) (by intro v hv; simp only [List.mem_cons, List.not_mem_nil, or_false] at hv; rcases hv with rfl | rfl | rfl | rfl | rfl | rfl | rfl | rfl | rfl | rfl | rfl | rfl | rfl | rfl | rfl | rfl <;> rfl) rfl rfl rfl rfl rfl (by show 0 + 4 ≤ 6; decide) (by show 1 + 4 ≤ 16; decide) rfl g_1135 d6_44 rfl (by decide) (Nat.le_of_eq rfl) (by decide) rfl ?_
  intro h_1155 K_1156 A_1157
  have f_1158 : Exa Z h_1155 a "com/example/nearword/nearword/internal/index/IntRuns" := f_1137.sm (Sm.keep K_1156 (ninS n_1131 nin0))
  have f_1159 : Ary Z h_1155 e .int [] := f_1145.sm (Sm.keep K_1156 (ninS n_1132 nin0))
  have f_1160 : Ary Z h_1155 p .int [] := f_1146.sm (Sm.keep K_1156 (ninS n_1133 nin0))
  have f_1161 : Ary Z h_1155 r .int [(.int u0), (.int u1), (.int u2), (.int u3), (.int u4), (.int u5)] := f_1147.sm (Sm.keep K_1156 (ninS n_1134 nin0))
  have f_1162 : Fld Z h_1155 a "com/example/nearword/nearword/internal/index/IntRuns" "at" "[I" (.ref o_1105) := F_1118.sm (Sm.keep K_1156 (ninS n_1131 nin0))
  have f_1163 : Fld Z h_1155 a "com/example/nearword/nearword/internal/index/IntRuns" "pool" "[I" (.ref b_1106) := F_1119.sm (Sm.keep K_1156 (ninS n_1131 nin0))
  have f_1164 : Fld Z h_1155 a "com/example/nearword/nearword/internal/index/IntRuns" "mostInts" "I" (.int 1048576) := F_1120.sm (Sm.keep K_1156 (ninS n_1131 nin0))
  have f_1165 : Fld Z h_1155 a "com/example/nearword/nearword/internal/index/IntRuns" "keys" "I" (.int ky_1107) := F_1121.sm (Sm.keep K_1156 (ninS n_1131 nin0))
  have f_1166 : Fld Z h_1155 a "com/example/nearword/nearword/internal/index/IntRuns" "poolLeft" "I" (.int 0) := F_1122.sm (Sm.keep K_1156 (ninS n_1131 nin0))
  have f_1167 : Fld Z h_1155 a "com/example/nearword/nearword/internal/index/IntRuns" "poolSize" "I" (.int 5) := F_1123.sm (Sm.keep K_1156 (ninS n_1131 nin0))
  have f_1168 : Fld Z h_1155 a "com/example/nearword/nearword/internal/index/IntRuns" "keysToCome" "I" (.int 0) := F_1124.sm (Sm.keep K_1156 (ninS n_1131 nin0))
  have f_1169 : Ary Z h_1155 o_1105 .int (own_m1.set k.toInt.toNat (.int 0)) := A_1110.sm (Sm.keep K_1156 (ninS ne_1116 nin0))
  have t_1170 : a < h_1155.size := Nat.lt_of_lt_of_le t_1148 K_1156.1
  have t_1171 : e < h_1155.size := Nat.lt_of_lt_of_le t_1149 K_1156.1
  have t_1172 : p < h_1155.size := Nat.lt_of_lt_of_le t_1150 K_1156.1
  have t_1173 : r < h_1155.size := Nat.lt_of_lt_of_le t_1151 K_1156.1
  have t_1174 : o_1105 < h_1155.size := Nat.lt_of_lt_of_le t_1113 K_1156.1
  have t_1175 : b_1106 < h_1155.size := Nat.lt_of_lt_of_le t_1115 K_1156.1
  have z_1176 : n0 ≤ h_1155.size := Nat.le_trans z_1152 K_1156.1
  have b_1177 : h0.size ≤ h_1155.size := Nat.le_trans b_1153 K_1156.1
  have K_1178 : Keep h0 h_1155 [a] := K_1154.trans K_1156 (allS (Or.inr g_1136) all0)
  refine Go.aloadN (pc' := 48) d6_47 rfl rfl rfl ?_
  refine Go.callP (pc' := 51) (argsL := []) (rest := []) (W := 0) (own_w hw 101 rfl) (own_w hw 102 rfl) (own_w hw 103 rfl) (own_w hw 16 rfl) (own_w hw 104 rfl) (own_w hw 33 rfl) rfl (by decide) f_1158 (m_cp l Z a0 hw a (5 : Int32) h_1155 n0 z_1176 f_1166 f_1167 (by decide)) d6_48 rfl pd10 rfl rfl (Nat.le_of_eq rfl) (by decide) (by decide) (by decide) (by decide) rfl ?_
  rintro _ _ ⟨rfl, rfl⟩
  show Go _ _ _ _ _ _ _ _ _ _ _ _ h_1155 (0 + 6 + 0) (0 + 208 + 0) 51 #[.val (.ref a), .val (.int k), .val (.ref r), .val (.int 0), .val (.int 4), .val (.int 4), .val (.int 0)] []
  exact Go.ret0 d6_51 rfl ⟨rfl, o_1105, b_1106, ky_1107, K_1178, f_1162, f_1163, f_1164, f_1165, f_1166, f_1167, f_1168, f_1169, A_1157, g_1130, t_1174, g_1136, t_1175, ne_1116⟩ (by decide) (by decide)
set_option maxRecDepth 65536 in
set_option maxHeartbeats 40000000 in
theorem m_set0_5 (l : Launch) (Z : State) (a0 : Array Value) (hw : ∀ d ∈ tables_1, d.before a0 Z = true) (a e p r : Addr) (k : Int32) (u0 u1 u2 u3 u4 u5 : Int32) (h0 : Heap) (n0 : Nat) (z0 : n0 ≤ h0.size) (hE : Exa Z h0 a "com/example/nearword/nearword/internal/index/IntRuns") (hF0 : Fld Z h0 a "com/example/nearword/nearword/internal/index/IntRuns" "at" "[I" (.ref e)) (hF1 : Fld Z h0 a "com/example/nearword/nearword/internal/index/IntRuns" "pool" "[I" (.ref p)) (hF2 : Fld Z h0 a "com/example/nearword/nearword/internal/index/IntRuns" "mostInts" "I" (.int 1048576)) (hF3 : Fld Z h0 a "com/example/nearword/nearword/internal/index/IntRuns" "keys" "I" (.int 0)) (hF4 : Fld Z h0 a "com/example/nearword/nearword/internal/index/IntRuns" "poolLeft" "I" (.int 0)) (hF5 : Fld Z h0 a "com/example/nearword/nearword/internal/index/IntRuns" "poolSize" "I" (.int 0)) (hF6 : Fld Z h0 a "com/example/nearword/nearword/internal/index/IntRuns" "keysToCome" "I" (.int 0)) (hg : n0 ≤ a) (hA : Ary Z h0 e .int []) (hB : Ary Z h0 p .int []) (hR : Ary Z h0 r .int [(.int u0), (.int u1), (.int u2), (.int u3), (.int u4), (.int u5)]) (har : a ≠ r) (hk0 : 0 ≤ k.toInt) (hk : k.toInt ≤ 15) : Mt true l Z (⟨"com/example/nearword/nearword/internal/index/IntRuns", "set", "(I[III)V"⟩ : MethodName) prog_42_method_13_code 7 none ({ frames := 6, cells := 6, slots := 208, locals := 115 } : Room) n0 (fun v h => v = none ∧ ∃ o b ky, Keep h0 h [a] ∧ Fld Z h a "com/example/nearword/nearword/internal/index/IntRuns" "at" "[I" (.ref o) ∧ Fld Z h a "com/example/nearword/nearword/internal/index/IntRuns" "pool" "[I" (.ref b) ∧ Fld Z h a "com/example/nearword/nearword/internal/index/IntRuns" "mostInts" "I" (.int 1048576) ∧ Fld Z h a "com/example/nearword/nearword/internal/index/IntRuns" "keys" "I" (.int ky) ∧ Fld Z h a "com/example/nearword/nearword/internal/index/IntRuns" "poolLeft" "I" (.int 0) ∧ Fld Z h a "com/example/nearword/nearword/internal/index/IntRuns" "poolSize" "I" (.int 6) ∧ Fld Z h a "com/example/nearword/nearword/internal/index/IntRuns" "keysToCome" "I" (.int 0) ∧ Ary Z h o .int (own_m1.set k.toInt.toNat (.int 0)) ∧ Ary Z h b .int [(.int 5), (.int u0), (.int u1), (.int u2), (.int u3), (.int u4), (.int 0), (.int 0), (.int 0), (.int 0), (.int 0), (.int 0), (.int 0), (.int 0), (.int 0), (.int 0)] ∧ h0.size ≤ o ∧ o < h.size ∧ h0.size ≤ b ∧ b < h.size ∧ o ≠ b) h0 #[(.ref a), (.int k), (.ref r), (.int 0), (.int 5)] := by
  refine Mt.go (Ls := #[.val (.ref a), .val (.int k), .val (.ref r), .val (.int 0), .val (.int 5), .unset, .unset]) (plainFor_of_name pn1) (fun m => by first | (simp [entryFrame, mkF, argsToLocals, Value.category]; done) | rfl) ?_
  show Go _ _ _ _ _ _ _ _ _ _ _ _ h0 0 0 0 #[.val (.ref a), .val (.int k), .val (.ref r), .val (.int 0), .val (.int 5), .unset, .unset] []
  have n_1179 : a ≠ e := by obtain ⟨_, Ag, -⟩ := hA; exact ne_arr hE (own_w hw 15 rfl) Ag
  have n_1180 : a ≠ p := by obtain ⟨_, Ag, -⟩ := hB; exact ne_arr hE (own_w hw 15 rfl) Ag
  have n_1181 : a ≠ r := by obtain ⟨_, Ag, -⟩ := hR; exact ne_arr hE (own_w hw 15 rfl) Ag
  refine Go.iload (pc' := 2) d6_0 rfl rfl ?_
  refine Go.iloadN (pc' := 3) d6_2 rfl rfl ?_
  refine Go.isub (pc' := 4) d6_3 rfl ?_
  show Go _ _ _ _ _ _ _ _ _ _ _ _ h0 0 0 4 #[.val (.ref a), .val (.int k), .val (.ref r), .val (.int 0), .val (.int 5), .unset, .unset] [(.int 5)]
  refine Go.iconst (pc' := 5) (v := (1 : Int32)) d6_4 rfl rfl ?_
  refine Go.icmp (pc1 := 17) (pc2 := 8) d6_5 (by decide) (by decide) rfl (fun (c_1182 : (5 : Int) ≠ (1 : Int)) => ?_) (fun (c_1182 : (5 : Int) = (1 : Int)) => ?_)
  rotate_left
  · exact absurd c_1182 (by decide)
  refine Go.iload (pc' := 19) d6_17 rfl rfl ?_
  refine Go.iloadN (pc' := 20) d6_19 rfl rfl ?_
  refine Go.isub (pc' := 21) d6_20 rfl ?_
  show Go _ _ _ _ _ _ _ _ _ _ _ _ h0 0 0 21 #[.val (.ref a), .val (.int k), .val (.ref r), .val (.int 0), .val (.int 5), .unset, .unset] [(.int 5)]
  refine Go.istore (pc' := 23) (Ls' := #[.val (.ref a), .val (.int k), .val (.ref r), .val (.int 0), .val (.int 5), .val (.int 5), .unset]) d6_21 rfl rfl ?_
  refine Go.aloadN (pc' := 24) d6_23 rfl rfl rfl ?_
  refine Go.iloadN (pc' := 25) d6_24 rfl rfl ?_
  refine Go.iload (pc' := 27) d6_25 rfl rfl ?_
  refine Go.callPW (pc' := 30) (argsL := [(.int k), (.int 5)]) (rest := []) (W := 0) (own_w hw 114 rfl) (own_w hw 115 rfl) (own_w hw 116 rfl) (own_w hw 16 rfl) (own_w hw 117 rfl) (own_w hw 33 rfl) rfl (by decide) hE (m_pl0 l Z a0 hw a e p k (5 : Int32) h0 n0 z0 hE hF0 hF1 hF2 hF3 hF4 hF5 hF6 hg hA hB hk0 hk (by decide) (by decide)) d6_27 rfl pd2 rfl rfl (Nat.le_of_eq rfl) (by decide) (by decide) (by decide) (by decide) rfl ?_
  rintro _ h_1183 ⟨rfl, o_1184, b_1185, ky_1186, s_1187, K_1188, F_1197, F_1198, F_1199, F_1200, F_1201, F_1202, F_1203, A_1189, A_1190, q_1191, t_1192, q_1193, t_1194, ne_1195, hs_1196⟩
  obtain rfl : s_1187 = (6 : Int32) := Int32.toInt_inj.mp (by rw [hs_1196]; decide)
  have n_1204 : a ≠ o_1184 := Nat.ne_of_lt (Nat.lt_of_lt_of_le hE.lt q_1191)
  have n_1205 : e ≠ o_1184 := Nat.ne_of_lt (Nat.lt_of_lt_of_le hA.lt q_1191)
  have n_1206 : p ≠ o_1184 := Nat.ne_of_lt (Nat.lt_of_lt_of_le hB.lt q_1191)
  have n_1207 : r ≠ o_1184 := Nat.ne_of_lt (Nat.lt_of_lt_of_le hR.lt q_1191)
  have g_1208 : n0 ≤ o_1184 := Nat.le_trans z0 q_1191
  have g_1209 : h0.size ≤ o_1184 := Nat.le_trans (Nat.le_refl _) q_1191
  have n_1210 : a ≠ b_1185 := Nat.ne_of_lt (Nat.lt_of_lt_of_le hE.lt q_1193)
  have n_1211 : e ≠ b_1185 := Nat.ne_of_lt (Nat.lt_of_lt_of_le hA.lt q_1193)
  have n_1212 : p ≠ b_1185 := Nat.ne_of_lt (Nat.lt_of_lt_of_le hB.lt q_1193)
  have n_1213 : r ≠ b_1185 := Nat.ne_of_lt (Nat.lt_of_lt_of_le hR.lt q_1193)
  have g_1214 : n0 ≤ b_1185 := Nat.le_trans z0 q_1193
  have g_1215 : h0.size ≤ b_1185 := Nat.le_trans (Nat.le_refl _) q_1193
  have f_1216 : Exa Z h_1183 a "com/example/nearword/nearword/internal/index/IntRuns" := hE.keep K_1188
  have f_1224 : Ary Z h_1183 e .int [] := hA.sm (Sm.keep K_1188 (ninS n_1179.symm nin0))
  have f_1225 : Ary Z h_1183 p .int [] := hB.sm (Sm.keep K_1188 (ninS n_1180.symm nin0))
  have f_1226 : Ary Z h_1183 r .int [(.int u0), (.int u1), (.int u2), (.int u3), (.int u4), (.int u5)] := hR.sm (Sm.keep K_1188 (ninS har.symm nin0))
  have t_1227 : a < h_1183.size := Nat.lt_of_lt_of_le hE.lt K_1188.1
  have t_1228 : e < h_1183.size := Nat.lt_of_lt_of_le hA.lt K_1188.1
  have t_1229 : p < h_1183.size := Nat.lt_of_lt_of_le hB.lt K_1188.1
  have t_1230 : r < h_1183.size := Nat.lt_of_lt_of_le hR.lt K_1188.1
  have z_1231 : n0 ≤ h_1183.size := Nat.le_trans z0 K_1188.1
  have b_1232 : h0.size ≤ h_1183.size := Nat.le_trans (Nat.le_refl _) K_1188.1
  have K_1233 : Keep h0 h_1183 [a] := (Keep.refl _ _).trans K_1188 (allS (Or.inl (List.mem_of_getElem? (i := 0) rfl)) all0)
  show Go _ _ _ _ _ _ _ _ _ _ _ _ h_1183 (0 + 6) (0 + 208) 30 #[.val (.ref a), .val (.int k), .val (.ref r), .val (.int 0), .val (.int 5), .val (.int 5), .unset] [(.int 0)]
  refine Go.istore (pc' := 32) (Ls' := #[.val (.ref a), .val (.int k), .val (.ref r), .val (.int 0), .val (.int 5), .val (.int 5), .val (.int 0)]) d6_30 rfl rfl ?_
  refine Go.aloadN (pc' := 33) d6_32 rfl rfl rfl ?_
  refine Go.iloadN (pc' := 34) d6_33 rfl rfl ?_
  refine Go.aloadN (pc' := 35) d6_34 rfl rfl rfl ?_
  refine Go.getF (pc' := 38) (own_w hw 26 rfl) F_1198 d6_35 rfl ?_
  refine Go.iload (pc' := 40) d6_38 rfl rfl ?_
  refine Go.iconst (pc' := 41) (v := (1 : Int32)) d6_40 rfl rfl ?_
  refine Go.iadd (pc' := 42) d6_41 rfl ?_
  show Go _ _ _ _ _ _ _ _ _ _ _ _ h_1183 (0 + 6) (0 + 208) 42 #[.val (.ref a), .val (.int k), .val (.ref r), .val (.int 0), .val (.int 5), .val (.int 5), .val (.int 0)] [(.int 1), (.ref b_1185), (.int 0), (.ref r)]
  refine Go.iload (pc' := 44) d6_42 rfl rfl ?_
  refine Go.acopy (pc' := 47) (i1 := 0) (i2 := 1) (k := 5) (za := (6 : Int32)) (zb := (16 : Int32)) (W := 0) (res := [(.int 5), (.int u0), (.int u1), (.int u2), (.int u3), (.int u4), (.int 0), (.int 0), (.int 0), (.int 0), (.int 0), (.int 0), (.int 0), (.int 0), (.int 0), (.int 0)]) (own_w hw 125 rfl) (own_w hw 87 rfl) (own_w hw 85 rfl) (own_w hw 86 rfl) f_1226 A_1190 rfl (by intro v hv; simp only [List.mem_cons, List.not_mem_nil, or_false] at hv; rcases hv with rfl | rfl | rfl | rfl | rfl | rfl <;> rfl) (by intro v hv; simp only [List.mem_cons, List.not_mem_nil, or_false] at hv; rcases hv with rfl | rfl | rfl | rfl | rfl | rfl | rfl | rfl | rfl | rfl | rfl | rfl | rfl | rfl | rfl | rfl <;> rfl) rfl rfl rfl rfl rfl (by show 0 + 5 ≤ 6; decide) (by show 1 + 5 ≤ 16; decide) rfl g_1214 d6_44 rfl (by decide) (Nat.le_of_eq rfl) (by decide) rfl ?_
  intro h_1234 K_1235 A_1236
  have f_1237 : Exa Z h_1234 a "com/example/nearword/nearword/internal/index/IntRuns" := f_1216.sm (Sm.keep K_1235 (ninS n_1210 nin0))
  have f_1238 : Ary Z h_1234 e .int [] := f_1224.sm (Sm.keep K_1235 (ninS n_1211 nin0))
  have f_1239 : Ary Z h_1234 p .int [] := f_1225.sm (Sm.keep K_1235 (ninS n_1212 nin0))
  have f_1240 : Ary Z h_1234 r .int [(.int u0), (.int u1), (.int u2), (.int u3), (.int u4), (.int u5)] := f_1226.sm (Sm.keep K_1235 (ninS n_1213 nin0))
  have f_1241 : Fld Z h_1234 a "com/example/nearword/nearword/internal/index/IntRuns" "at" "[I" (.ref o_1184) := F_1197.sm (Sm.keep K_1235 (ninS n_1210 nin0))
  have f_1242 : Fld Z h_1234 a "com/example/nearword/nearword/internal/index/IntRuns" "pool" "[I" (.ref b_1185) := F_1198.sm (Sm.keep K_1235 (ninS n_1210 nin0))
  have f_1243 : Fld Z h_1234 a "com/example/nearword/nearword/internal/index/IntRuns" "mostInts" "I" (.int 1048576) := F_1199.sm (Sm.keep K_1235 (ninS n_1210 nin0))
  have f_1244 : Fld Z h_1234 a "com/example/nearword/nearword/internal/index/IntRuns" "keys" "I" (.int ky_1186) := F_1200.sm (Sm.keep K_1235 (ninS n_1210 nin0))
  have f_1245 : Fld Z h_1234 a "com/example/nearword/nearword/internal/index/IntRuns" "poolLeft" "I" (.int 0) := F_1201.sm (Sm.keep K_1235 (ninS n_1210 nin0))
  have f_1246 : Fld Z h_1234 a "com/example/nearword/nearword/internal/index/IntRuns" "poolSize" "I" (.int 6) := F_1202.sm (Sm.keep K_1235 (ninS n_1210 nin0))
  have f_1247 : Fld Z h_1234 a "com/example/nearword/nearword/internal/index/IntRuns" "keysToCome" "I" (.int 0) := F_1203.sm (Sm.keep K_1235 (ninS n_1210 nin0))
  have f_1248 : Ary Z h_1234 o_1184 .int (own_m1.set k.toInt.toNat (.int 0)) := A_1189.sm (Sm.keep K_1235 (ninS ne_1195 nin0))
  have t_1249 : a < h_1234.size := Nat.lt_of_lt_of_le t_1227 K_1235.1
  have t_1250 : e < h_1234.size := Nat.lt_of_lt_of_le t_1228 K_1235.1
  have t_1251 : p < h_1234.size := Nat.lt_of_lt_of_le t_1229 K_1235.1
  have t_1252 : r < h_1234.size := Nat.lt_of_lt_of_le t_1230 K_1235.1
  have t_1253 : o_1184 < h_1234.size := Nat.lt_of_lt_of_le t_1192 K_1235.1
  have t_1254 : b_1185 < h_1234.size := Nat.lt_of_lt_of_le t_1194 K_1235.1
  have z_1255 : n0 ≤ h_1234.size := Nat.le_trans z_1231 K_1235.1
  have b_1256 : h0.size ≤ h_1234.size := Nat.le_trans b_1232 K_1235.1
  have K_1257 : Keep h0 h_1234 [a] := K_1233.trans K_1235 (allS (Or.inr g_1215) all0)
  refine Go.aloadN (pc' := 48) d6_47 rfl rfl rfl ?_
  refine Go.callP (pc' := 51) (argsL := []) (rest := []) (W := 0) (own_w hw 101 rfl) (own_w hw 102 rfl) (own_w hw 103 rfl) (own_w hw 16 rfl) (own_w hw 104 rfl) (own_w hw 33 rfl) rfl (by decide) f_1237 (m_cp l Z a0 hw a (6 : Int32) h_1234 n0 z_1255 f_1245 f_1246 (by decide)) d6_48 rfl pd10 rfl rfl (Nat.le_of_eq rfl) (by decide) (by decide) (by decide) (by decide) rfl ?_
  rintro _ _ ⟨rfl, rfl⟩
  show Go _ _ _ _ _ _ _ _ _ _ _ _ h_1234 (0 + 6 + 0) (0 + 208 + 0) 51 #[.val (.ref a), .val (.int k), .val (.ref r), .val (.int 0), .val (.int 5), .val (.int 5), .val (.int 0)] []
  exact Go.ret0 d6_51 rfl ⟨rfl, o_1184, b_1185, ky_1186, K_1257, f_1241, f_1242, f_1243, f_1244, f_1245, f_1246, f_1247, f_1248, A_1236, g_1209, t_1253, g_1215, t_1254, ne_1195⟩ (by decide) (by decide)
set_option maxRecDepth 65536 in
set_option maxHeartbeats 40000000 in
theorem m_set0_6 (l : Launch) (Z : State) (a0 : Array Value) (hw : ∀ d ∈ tables_1, d.before a0 Z = true) (a e p r : Addr) (k : Int32) (u0 u1 u2 u3 u4 u5 : Int32) (h0 : Heap) (n0 : Nat) (z0 : n0 ≤ h0.size) (hE : Exa Z h0 a "com/example/nearword/nearword/internal/index/IntRuns") (hF0 : Fld Z h0 a "com/example/nearword/nearword/internal/index/IntRuns" "at" "[I" (.ref e)) (hF1 : Fld Z h0 a "com/example/nearword/nearword/internal/index/IntRuns" "pool" "[I" (.ref p)) (hF2 : Fld Z h0 a "com/example/nearword/nearword/internal/index/IntRuns" "mostInts" "I" (.int 1048576)) (hF3 : Fld Z h0 a "com/example/nearword/nearword/internal/index/IntRuns" "keys" "I" (.int 0)) (hF4 : Fld Z h0 a "com/example/nearword/nearword/internal/index/IntRuns" "poolLeft" "I" (.int 0)) (hF5 : Fld Z h0 a "com/example/nearword/nearword/internal/index/IntRuns" "poolSize" "I" (.int 0)) (hF6 : Fld Z h0 a "com/example/nearword/nearword/internal/index/IntRuns" "keysToCome" "I" (.int 0)) (hg : n0 ≤ a) (hA : Ary Z h0 e .int []) (hB : Ary Z h0 p .int []) (hR : Ary Z h0 r .int [(.int u0), (.int u1), (.int u2), (.int u3), (.int u4), (.int u5)]) (har : a ≠ r) (hk0 : 0 ≤ k.toInt) (hk : k.toInt ≤ 15) : Mt true l Z (⟨"com/example/nearword/nearword/internal/index/IntRuns", "set", "(I[III)V"⟩ : MethodName) prog_42_method_13_code 7 none ({ frames := 6, cells := 6, slots := 208, locals := 115 } : Room) n0 (fun v h => v = none ∧ ∃ o b ky, Keep h0 h [a] ∧ Fld Z h a "com/example/nearword/nearword/internal/index/IntRuns" "at" "[I" (.ref o) ∧ Fld Z h a "com/example/nearword/nearword/internal/index/IntRuns" "pool" "[I" (.ref b) ∧ Fld Z h a "com/example/nearword/nearword/internal/index/IntRuns" "mostInts" "I" (.int 1048576) ∧ Fld Z h a "com/example/nearword/nearword/internal/index/IntRuns" "keys" "I" (.int ky) ∧ Fld Z h a "com/example/nearword/nearword/internal/index/IntRuns" "poolLeft" "I" (.int 0) ∧ Fld Z h a "com/example/nearword/nearword/internal/index/IntRuns" "poolSize" "I" (.int 7) ∧ Fld Z h a "com/example/nearword/nearword/internal/index/IntRuns" "keysToCome" "I" (.int 0) ∧ Ary Z h o .int (own_m1.set k.toInt.toNat (.int 0)) ∧ Ary Z h b .int [(.int 6), (.int u0), (.int u1), (.int u2), (.int u3), (.int u4), (.int u5), (.int 0), (.int 0), (.int 0), (.int 0), (.int 0), (.int 0), (.int 0), (.int 0), (.int 0)] ∧ h0.size ≤ o ∧ o < h.size ∧ h0.size ≤ b ∧ b < h.size ∧ o ≠ b) h0 #[(.ref a), (.int k), (.ref r), (.int 0), (.int 6)] := by
  refine Mt.go (Ls := #[.val (.ref a), .val (.int k), .val (.ref r), .val (.int 0), .val (.int 6), .unset, .unset]) (plainFor_of_name pn1) (fun m => by first | (simp [entryFrame, mkF, argsToLocals, Value.category]; done) | rfl) ?_
  show Go _ _ _ _ _ _ _ _ _ _ _ _ h0 0 0 0 #[.val (.ref a), .val (.int k), .val (.ref r), .val (.int 0), .val (.int 6), .unset, .unset] []
  have n_1258 : a ≠ e := by obtain ⟨_, Ag, -⟩ := hA; exact ne_arr hE (own_w hw 15 rfl) Ag
  have n_1259 : a ≠ p := by obtain ⟨_, Ag, -⟩ := hB; exact ne_arr hE (own_w hw 15 rfl) Ag
  have n_1260 : a ≠ r := by obtain ⟨_, Ag, -⟩ := hR; exact ne_arr hE (own_w hw 15 rfl) Ag
  refine Go.iload (pc' := 2) d6_0 rfl rfl ?_
  refine Go.iloadN (pc' := 3) d6_2 rfl rfl ?_
  refine Go.isub (pc' := 4) d6_3 rfl ?_
  show Go _ _ _ _ _ _ _ _ _ _ _ _ h0 0 0 4 #[.val (.ref a), .val (.int k), .val (.ref r), .val (.int 0), .val (.int 6), .unset, .unset] [(.int 6)]
  refine Go.iconst (pc' := 5) (v := (1 : Int32)) d6_4 rfl rfl ?_
  refine Go.icmp (pc1 := 17) (pc2 := 8) d6_5 (by decide) (by decide) rfl (fun (c_1261 : (6 : Int) ≠ (1 : Int)) => ?_) (fun (c_1261 : (6 : Int) = (1 : Int)) => ?_)
  rotate_left
  · exact absurd c_1261 (by decide)
  refine Go.iload (pc' := 19) d6_17 rfl rfl ?_
  refine Go.iloadN (pc' := 20) d6_19 rfl rfl ?_
  refine Go.isub (pc' := 21) d6_20 rfl ?_
  show Go _ _ _ _ _ _ _ _ _ _ _ _ h0 0 0 21 #[.val (.ref a), .val (.int k), .val (.ref r), .val (.int 0), .val (.int 6), .unset, .unset] [(.int 6)]
  refine Go.istore (pc' := 23) (Ls' := #[.val (.ref a), .val (.int k), .val (.ref r), .val (.int 0), .val (.int 6), .val (.int 6), .unset]) d6_21 rfl rfl ?_
  refine Go.aloadN (pc' := 24) d6_23 rfl rfl rfl ?_
  refine Go.iloadN (pc' := 25) d6_24 rfl rfl ?_
  refine Go.iload (pc' := 27) d6_25 rfl rfl ?_
  refine Go.callPW (pc' := 30) (argsL := [(.int k), (.int 6)]) (rest := []) (W := 0) (own_w hw 114 rfl) (own_w hw 115 rfl) (own_w hw 116 rfl) (own_w hw 16 rfl) (own_w hw 117 rfl) (own_w hw 33 rfl) rfl (by decide) hE (m_pl0 l Z a0 hw a e p k (6 : Int32) h0 n0 z0 hE hF0 hF1 hF2 hF3 hF4 hF5 hF6 hg hA hB hk0 hk (by decide) (by decide)) d6_27 rfl pd2 rfl rfl (Nat.le_of_eq rfl) (by decide) (by decide) (by decide) (by decide) rfl ?_
  rintro _ h_1262 ⟨rfl, o_1263, b_1264, ky_1265, s_1266, K_1267, F_1276, F_1277, F_1278, F_1279, F_1280, F_1281, F_1282, A_1268, A_1269, q_1270, t_1271, q_1272, t_1273, ne_1274, hs_1275⟩
  obtain rfl : s_1266 = (7 : Int32) := Int32.toInt_inj.mp (by rw [hs_1275]; decide)
  have n_1283 : a ≠ o_1263 := Nat.ne_of_lt (Nat.lt_of_lt_of_le hE.lt q_1270)
  have n_1284 : e ≠ o_1263 := Nat.ne_of_lt (Nat.lt_of_lt_of_le hA.lt q_1270)
  have n_1285 : p ≠ o_1263 := Nat.ne_of_lt (Nat.lt_of_lt_of_le hB.lt q_1270)
  have n_1286 : r ≠ o_1263 := Nat.ne_of_lt (Nat.lt_of_lt_of_le hR.lt q_1270)
  have g_1287 : n0 ≤ o_1263 := Nat.le_trans z0 q_1270
  have g_1288 : h0.size ≤ o_1263 := Nat.le_trans (Nat.le_refl _) q_1270
  have n_1289 : a ≠ b_1264 := Nat.ne_of_lt (Nat.lt_of_lt_of_le hE.lt q_1272)
  have n_1290 : e ≠ b_1264 := Nat.ne_of_lt (Nat.lt_of_lt_of_le hA.lt q_1272)
  have n_1291 : p ≠ b_1264 := Nat.ne_of_lt (Nat.lt_of_lt_of_le hB.lt q_1272)
  have n_1292 : r ≠ b_1264 := Nat.ne_of_lt (Nat.lt_of_lt_of_le hR.lt q_1272)
  have g_1293 : n0 ≤ b_1264 := Nat.le_trans z0 q_1272
  have g_1294 : h0.size ≤ b_1264 := Nat.le_trans (Nat.le_refl _) q_1272
  have f_1295 : Exa Z h_1262 a "com/example/nearword/nearword/internal/index/IntRuns" := hE.keep K_1267
  have f_1303 : Ary Z h_1262 e .int [] := hA.sm (Sm.keep K_1267 (ninS n_1258.symm nin0))
  have f_1304 : Ary Z h_1262 p .int [] := hB.sm (Sm.keep K_1267 (ninS n_1259.symm nin0))
  have f_1305 : Ary Z h_1262 r .int [(.int u0), (.int u1), (.int u2), (.int u3), (.int u4), (.int u5)] := hR.sm (Sm.keep K_1267 (ninS har.symm nin0))
  have t_1306 : a < h_1262.size := Nat.lt_of_lt_of_le hE.lt K_1267.1
  have t_1307 : e < h_1262.size := Nat.lt_of_lt_of_le hA.lt K_1267.1
  have t_1308 : p < h_1262.size := Nat.lt_of_lt_of_le hB.lt K_1267.1
  have t_1309 : r < h_1262.size := Nat.lt_of_lt_of_le hR.lt K_1267.1
  have z_1310 : n0 ≤ h_1262.size := Nat.le_trans z0 K_1267.1
  have b_1311 : h0.size ≤ h_1262.size := Nat.le_trans (Nat.le_refl _) K_1267.1
  have K_1312 : Keep h0 h_1262 [a] := (Keep.refl _ _).trans K_1267 (allS (Or.inl (List.mem_of_getElem? (i := 0) rfl)) all0)
  show Go _ _ _ _ _ _ _ _ _ _ _ _ h_1262 (0 + 6) (0 + 208) 30 #[.val (.ref a), .val (.int k), .val (.ref r), .val (.int 0), .val (.int 6), .val (.int 6), .unset] [(.int 0)]
  refine Go.istore (pc' := 32) (Ls' := #[.val (.ref a), .val (.int k), .val (.ref r), .val (.int 0), .val (.int 6), .val (.int 6), .val (.int 0)]) d6_30 rfl rfl ?_
  refine Go.aloadN (pc' := 33) d6_32 rfl rfl rfl ?_
  refine Go.iloadN (pc' := 34) d6_33 rfl rfl ?_
  refine Go.aloadN (pc' := 35) d6_34 rfl rfl rfl ?_
  refine Go.getF (pc' := 38) (own_w hw 26 rfl) F_1277 d6_35 rfl ?_
  refine Go.iload (pc' := 40) d6_38 rfl rfl ?_
  refine Go.iconst (pc' := 41) (v := (1 : Int32)) d6_40 rfl rfl ?_
  refine Go.iadd (pc' := 42) d6_41 rfl ?_
  show Go _ _ _ _ _ _ _ _ _ _ _ _ h_1262 (0 + 6) (0 + 208) 42 #[.val (.ref a), .val (.int k), .val (.ref r), .val (.int 0), .val (.int 6), .val (.int 6), .val (.int 0)] [(.int 1), (.ref b_1264), (.int 0), (.ref r)]
  refine Go.iload (pc' := 44) d6_42 rfl rfl ?_
  refine Go.acopy (pc' := 47) (i1 := 0) (i2 := 1) (k := 6) (za := (6 : Int32)) (zb := (16 : Int32)) (W := 0) (res := [(.int 6), (.int u0), (.int u1), (.int u2), (.int u3), (.int u4), (.int u5), (.int 0), (.int 0), (.int 0), (.int 0), (.int 0), (.int 0), (.int 0), (.int 0), (.int 0)]) (own_w hw 125 rfl) (own_w hw 87 rfl) (own_w hw 85 rfl) (own_w hw 86 rfl) f_1305 A_1269 rfl (by intro v hv; simp only [List.mem_cons, List.not_mem_nil, or_false] at hv; rcases hv with rfl | rfl | rfl | rfl | rfl | rfl <;> rfl) (by intro v hv; simp only [List.mem_cons, List.not_mem_nil, or_false] at hv; rcases hv with rfl | rfl | rfl | rfl | rfl | rfl | rfl | rfl | rfl | rfl | rfl | rfl | rfl | rfl | rfl | rfl <;> rfl) rfl rfl rfl rfl rfl (by show 0 + 6 ≤ 6; decide) (by show 1 + 6 ≤ 16; decide) rfl g_1293 d6_44 rfl (by decide) (Nat.le_of_eq rfl) (by decide) rfl ?_
  intro h_1313 K_1314 A_1315
  have f_1316 : Exa Z h_1313 a "com/example/nearword/nearword/internal/index/IntRuns" := f_1295.sm (Sm.keep K_1314 (ninS n_1289 nin0))
  have f_1317 : Ary Z h_1313 e .int [] := f_1303.sm (Sm.keep K_1314 (ninS n_1290 nin0))
  have f_1318 : Ary Z h_1313 p .int [] := f_1304.sm (Sm.keep K_1314 (ninS n_1291 nin0))
  have f_1319 : Ary Z h_1313 r .int [(.int u0), (.int u1), (.int u2), (.int u3), (.int u4), (.int u5)] := f_1305.sm (Sm.keep K_1314 (ninS n_1292 nin0))
  have f_1320 : Fld Z h_1313 a "com/example/nearword/nearword/internal/index/IntRuns" "at" "[I" (.ref o_1263) := F_1276.sm (Sm.keep K_1314 (ninS n_1289 nin0))
  have f_1321 : Fld Z h_1313 a "com/example/nearword/nearword/internal/index/IntRuns" "pool" "[I" (.ref b_1264) := F_1277.sm (Sm.keep K_1314 (ninS n_1289 nin0))
  have f_1322 : Fld Z h_1313 a "com/example/nearword/nearword/internal/index/IntRuns" "mostInts" "I" (.int 1048576) := F_1278.sm (Sm.keep K_1314 (ninS n_1289 nin0))
  have f_1323 : Fld Z h_1313 a "com/example/nearword/nearword/internal/index/IntRuns" "keys" "I" (.int ky_1265) := F_1279.sm (Sm.keep K_1314 (ninS n_1289 nin0))
  have f_1324 : Fld Z h_1313 a "com/example/nearword/nearword/internal/index/IntRuns" "poolLeft" "I" (.int 0) := F_1280.sm (Sm.keep K_1314 (ninS n_1289 nin0))
  have f_1325 : Fld Z h_1313 a "com/example/nearword/nearword/internal/index/IntRuns" "poolSize" "I" (.int 7) := F_1281.sm (Sm.keep K_1314 (ninS n_1289 nin0))
  have f_1326 : Fld Z h_1313 a "com/example/nearword/nearword/internal/index/IntRuns" "keysToCome" "I" (.int 0) := F_1282.sm (Sm.keep K_1314 (ninS n_1289 nin0))
  have f_1327 : Ary Z h_1313 o_1263 .int (own_m1.set k.toInt.toNat (.int 0)) := A_1268.sm (Sm.keep K_1314 (ninS ne_1274 nin0))
  have t_1328 : a < h_1313.size := Nat.lt_of_lt_of_le t_1306 K_1314.1
  have t_1329 : e < h_1313.size := Nat.lt_of_lt_of_le t_1307 K_1314.1
  have t_1330 : p < h_1313.size := Nat.lt_of_lt_of_le t_1308 K_1314.1
  have t_1331 : r < h_1313.size := Nat.lt_of_lt_of_le t_1309 K_1314.1
  have t_1332 : o_1263 < h_1313.size := Nat.lt_of_lt_of_le t_1271 K_1314.1
  have t_1333 : b_1264 < h_1313.size := Nat.lt_of_lt_of_le t_1273 K_1314.1
  have z_1334 : n0 ≤ h_1313.size := Nat.le_trans z_1310 K_1314.1
  have b_1335 : h0.size ≤ h_1313.size := Nat.le_trans b_1311 K_1314.1
  have K_1336 : Keep h0 h_1313 [a] := K_1312.trans K_1314 (allS (Or.inr g_1294) all0)
  refine Go.aloadN (pc' := 48) d6_47 rfl rfl rfl ?_
  refine Go.callP (pc' := 51) (argsL := []) (rest := []) (W := 0) (own_w hw 101 rfl) (own_w hw 102 rfl) (own_w hw 103 rfl) (own_w hw 16 rfl) (own_w hw 104 rfl) (own_w hw 33 rfl) rfl (by decide) f_1316 (m_cp l Z a0 hw a (7 : Int32) h_1313 n0 z_1334 f_1324 f_1325 (by decide)) d6_48 rfl pd10 rfl rfl (Nat.le_of_eq rfl) (by decide) (by decide) (by decide) (by decide) rfl ?_
  rintro _ _ ⟨rfl, rfl⟩
  show Go _ _ _ _ _ _ _ _ _ _ _ _ h_1313 (0 + 6 + 0) (0 + 208 + 0) 51 #[.val (.ref a), .val (.int k), .val (.ref r), .val (.int 0), .val (.int 6), .val (.int 6), .val (.int 0)] []
  exact Go.ret0 d6_51 rfl ⟨rfl, o_1263, b_1264, ky_1265, K_1336, f_1320, f_1321, f_1322, f_1323, f_1324, f_1325, f_1326, f_1327, A_1315, g_1288, t_1332, g_1294, t_1333, ne_1274⟩ (by decide) (by decide)
set_option maxRecDepth 65536 in
set_option maxHeartbeats 40000000 in
theorem m_set1_0 (l : Launch) (Z : State) (a0 : Array Value) (hw : ∀ d ∈ tables_1, d.before a0 Z = true) (a e p r : Addr) (ks k : Int32) (u0 u1 u2 u3 u4 u5 : Int32) (w0 w1 w2 w3 w4 w5 : Int32) (A : List Value) (h0 : Heap) (n0 : Nat) (z0 : n0 ≤ h0.size) (hE : Exa Z h0 a "com/example/nearword/nearword/internal/index/IntRuns") (hF0 : Fld Z h0 a "com/example/nearword/nearword/internal/index/IntRuns" "at" "[I" (.ref e)) (hF1 : Fld Z h0 a "com/example/nearword/nearword/internal/index/IntRuns" "pool" "[I" (.ref p)) (hF2 : Fld Z h0 a "com/example/nearword/nearword/internal/index/IntRuns" "mostInts" "I" (.int 1048576)) (hF3 : Fld Z h0 a "com/example/nearword/nearword/internal/index/IntRuns" "keys" "I" (.int ks)) (hF4 : Fld Z h0 a "com/example/nearword/nearword/internal/index/IntRuns" "poolLeft" "I" (.int 0)) (hF5 : Fld Z h0 a "com/example/nearword/nearword/internal/index/IntRuns" "poolSize" "I" (.int 7)) (hF6 : Fld Z h0 a "com/example/nearword/nearword/internal/index/IntRuns" "keysToCome" "I" (.int 0)) (hg : n0 ≤ a) (hA : Ary Z h0 e .int A) (hA16 : A.length = 16) (hk0 : 0 ≤ k.toInt) (hk : k.toInt ≤ 15) (hAk : A[k.toInt.toNat]? = some (.int (-1 : Int32))) (hge : n0 ≤ e) (hae : a ≠ e) (hB : Ary Z h0 p .int [(.int 6), (.int w0), (.int w1), (.int w2), (.int w3), (.int w4), (.int w5), (.int 0), (.int 0), (.int 0), (.int 0), (.int 0), (.int 0), (.int 0), (.int 0), (.int 0)]) (hgp : n0 ≤ p) (hap : a ≠ p) (hep : e ≠ p) (hR : Ary Z h0 r .int [(.int u0), (.int u1), (.int u2), (.int u3), (.int u4), (.int u5)]) (har : a ≠ r) (hre : r ≠ e) (hrp : r ≠ p) : Mt false l Z (⟨"com/example/nearword/nearword/internal/index/IntRuns", "set", "(I[III)V"⟩ : MethodName) prog_42_method_13_code 7 none ({ frames := 3, cells := 0, slots := 0, locals := 60 } : Room) n0 (fun v h => v = none ∧ ∃ ky s, Keep h0 h [a, e, p] ∧ Fld Z h a "com/example/nearword/nearword/internal/index/IntRuns" "at" "[I" (.ref e) ∧ Fld Z h a "com/example/nearword/nearword/internal/index/IntRuns" "pool" "[I" (.ref p) ∧ Fld Z h a "com/example/nearword/nearword/internal/index/IntRuns" "mostInts" "I" (.int 1048576) ∧ Fld Z h a "com/example/nearword/nearword/internal/index/IntRuns" "keys" "I" (.int ky) ∧ Fld Z h a "com/example/nearword/nearword/internal/index/IntRuns" "poolLeft" "I" (.int 0) ∧ Fld Z h a "com/example/nearword/nearword/internal/index/IntRuns" "poolSize" "I" (.int s) ∧ Fld Z h a "com/example/nearword/nearword/internal/index/IntRuns" "keysToCome" "I" (.int 0) ∧ Ary Z h e .int (A.set k.toInt.toNat (.int 7)) ∧ Ary Z h p .int [(.int 6), (.int w0), (.int w1), (.int w2), (.int w3), (.int w4), (.int w5), (.int 0), (.int 0), (.int 0), (.int 0), (.int 0), (.int 0), (.int 0), (.int 0), (.int 0)]) h0 #[(.ref a), (.int k), (.ref r), (.int 0), (.int 0)] := by
  refine Mt.go (Ls := #[.val (.ref a), .val (.int k), .val (.ref r), .val (.int 0), .val (.int 0), .unset, .unset]) (plainFor_of_name pn1) (fun m => by first | (simp [entryFrame, mkF, argsToLocals, Value.category]; done) | rfl) ?_
  show Go _ _ _ _ _ _ _ _ _ _ _ _ h0 0 0 0 #[.val (.ref a), .val (.int k), .val (.ref r), .val (.int 0), .val (.int 0), .unset, .unset] []
  have n_1337 : a ≠ e := by obtain ⟨_, Ag, -⟩ := hA; exact ne_arr hE (own_w hw 15 rfl) Ag
  have n_1338 : a ≠ p := by obtain ⟨_, Ag, -⟩ := hB; exact ne_arr hE (own_w hw 15 rfl) Ag
  have n_1339 : a ≠ r := by obtain ⟨_, Ag, -⟩ := hR; exact ne_arr hE (own_w hw 15 rfl) Ag
  refine Go.iload (pc' := 2) d6_0 rfl rfl ?_
  refine Go.iloadN (pc' := 3) d6_2 rfl rfl ?_
  refine Go.isub (pc' := 4) d6_3 rfl ?_
  show Go _ _ _ _ _ _ _ _ _ _ _ _ h0 0 0 4 #[.val (.ref a), .val (.int k), .val (.ref r), .val (.int 0), .val (.int 0), .unset, .unset] [(.int 0)]
  refine Go.iconst (pc' := 5) (v := (1 : Int32)) d6_4 rfl rfl ?_
  refine Go.icmp (pc1 := 17) (pc2 := 8) d6_5 (by decide) (by decide) rfl (fun (c_1340 : (0 : Int) ≠ (1 : Int)) => ?_) (fun (c_1340 : (0 : Int) = (1 : Int)) => ?_)
  rotate_left
  · exact absurd c_1340 (by decide)
  refine Go.iload (pc' := 19) d6_17 rfl rfl ?_
  refine Go.iloadN (pc' := 20) d6_19 rfl rfl ?_
  refine Go.isub (pc' := 21) d6_20 rfl ?_
  show Go _ _ _ _ _ _ _ _ _ _ _ _ h0 0 0 21 #[.val (.ref a), .val (.int k), .val (.ref r), .val (.int 0), .val (.int 0), .unset, .unset] [(.int 0)]
  refine Go.istore (pc' := 23) (Ls' := #[.val (.ref a), .val (.int k), .val (.ref r), .val (.int 0), .val (.int 0), .val (.int 0), .unset]) d6_21 rfl rfl ?_
  refine Go.aloadN (pc' := 24) d6_23 rfl rfl rfl ?_
  refine Go.iloadN (pc' := 25) d6_24 rfl rfl ?_
  refine Go.iload (pc' := 27) d6_25 rfl rfl ?_
  refine Go.callP (pc' := 30) (argsL := [(.int k), (.int 0)]) (rest := []) (W := 0) (own_w hw 114 rfl) (own_w hw 115 rfl) (own_w hw 116 rfl) (own_w hw 16 rfl) (own_w hw 117 rfl) (own_w hw 33 rfl) rfl (by decide) hE (m_pl1 l Z a0 hw a e p ks (7 : Int32) k (0 : Int32) A [(.int 6), (.int w0), (.int w1), (.int w2), (.int w3), (.int w4), (.int w5), (.int 0), (.int 0), (.int 0), (.int 0), (.int 0), (.int 0), (.int 0), (.int 0), (.int 0)] h0 n0 z0 hE hF0 hF1 hF2 hF3 hF4 hF5 hF6 hg hA hA16 hk0 hk hAk hge hae hB rfl hgp hap hep (by decide) (by decide) (by decide)) d6_27 rfl pd2 rfl rfl (Nat.le_of_eq rfl) (by decide) (by decide) (by decide) (by decide) rfl ?_
  rintro _ h_1341 ⟨rfl, ky_1342, s_1343, K_1344, F_1348, F_1349, F_1350, F_1351, F_1352, F_1353, F_1354, A_1345, A_1346, hs_1347⟩
  have f_1355 : Exa Z h_1341 a "com/example/nearword/nearword/internal/index/IntRuns" := hE.keep K_1344
  have f_1365 : Ary Z h_1341 r .int [(.int u0), (.int u1), (.int u2), (.int u3), (.int u4), (.int u5)] := hR.sm (Sm.keep K_1344 (ninS har.symm (ninS hre (ninS hrp nin0))))
  have t_1366 : a < h_1341.size := Nat.lt_of_lt_of_le hE.lt K_1344.1
  have t_1367 : e < h_1341.size := Nat.lt_of_lt_of_le hA.lt K_1344.1
  have t_1368 : p < h_1341.size := Nat.lt_of_lt_of_le hB.lt K_1344.1
  have t_1369 : r < h_1341.size := Nat.lt_of_lt_of_le hR.lt K_1344.1
  have z_1370 : n0 ≤ h_1341.size := Nat.le_trans z0 K_1344.1
  have b_1371 : h0.size ≤ h_1341.size := Nat.le_trans (Nat.le_refl _) K_1344.1
  have K_1372 : Keep h0 h_1341 [a, e, p] := (Keep.refl _ _).trans K_1344 (allS (Or.inl (List.mem_of_getElem? (i := 0) rfl)) (allS (Or.inl (List.mem_of_getElem? (i := 1) rfl)) (allS (Or.inl (List.mem_of_getElem? (i := 2) rfl)) all0)))
  change Ary Z h_1341 p .int [(.int 6), (.int w0), (.int w1), (.int w2), (.int w3), (.int w4), (.int w5), (.int 0), (.int 0), (.int 0), (.int 0), (.int 0), (.int 0), (.int 0), (.int 0), (.int 0)] at A_1346
  show Go _ _ _ _ _ _ _ _ _ _ _ _ h_1341 (0 + 0) (0 + 0) 30 #[.val (.ref a), .val (.int k), .val (.ref r), .val (.int 0), .val (.int 0), .val (.int 0), .unset] [(.int 7)]
  refine Go.istore (pc' := 32) (Ls' := #[.val (.ref a), .val (.int k), .val (.ref r), .val (.int 0), .val (.int 0), .val (.int 0), .val (.int 7)]) d6_30 rfl rfl ?_
  refine Go.aloadN (pc' := 33) d6_32 rfl rfl rfl ?_
  refine Go.iloadN (pc' := 34) d6_33 rfl rfl ?_
  refine Go.aloadN (pc' := 35) d6_34 rfl rfl rfl ?_
  refine Go.getF (pc' := 38) (own_w hw 26 rfl) F_1349 d6_35 rfl ?_
  refine Go.iload (pc' := 40) d6_38 rfl rfl ?_
  refine Go.iconst (pc' := 41) (v := (1 : Int32)) d6_40 rfl rfl ?_
  refine Go.iadd (pc' := 42) d6_41 rfl ?_
  show Go _ _ _ _ _ _ _ _ _ _ _ _ h_1341 (0 + 0) (0 + 0) 42 #[.val (.ref a), .val (.int k), .val (.ref r), .val (.int 0), .val (.int 0), .val (.int 0), .val (.int 7)] [(.int 8), (.ref p), (.int 0), (.ref r)]
  refine Go.iload (pc' := 44) d6_42 rfl rfl ?_
  refine Go.acopy (pc' := 47) (i1 := 0) (i2 := 8) (k := 0) (za := (6 : Int32)) (zb := (16 : Int32)) (W := 0) (res := [(.int 6), (.int w0), (.int w1), (.int w2), (.int w3), (.int w4), (.int w5), (.int 0), (.int 0), (.int 0), (.int 0), (.int 0), (.int 0), (.int 0), (.int 0), (.int 0)]) (own_w hw 125 rfl) (own_w hw 87 rfl) (own_w hw 85 rfl) (own_w hw 86 rfl) f_1365 A_1346 rfl (by intro v hv; simp only [List.mem_cons, List.not_mem_nil, or_false] at hv; rcases hv with rfl | rfl | rfl | rfl | rfl | rfl <;> rfl) (by intro v hv; simp only [List.mem_cons, List.not_mem_nil, or_false] at hv; rcases hv with rfl | rfl | rfl | rfl | rfl | rfl | rfl | rfl | rfl | rfl | rfl | rfl | rfl | rfl | rfl | rfl <;> rfl) rfl rfl rfl rfl rfl (by show 0 + 0 ≤ 6; decide) (by show 8 + 0 ≤ 16; decide) rfl hgp d6_44 rfl (by decide) (Nat.le_of_eq rfl) (by decide) rfl ?_
  intro h_1373 K_1374 A_1375
  have f_1376 : Exa Z h_1373 a "com/example/nearword/nearword/internal/index/IntRuns" := f_1355.sm (Sm.keep K_1374 (ninS hap nin0))
  have f_1377 : Ary Z h_1373 r .int [(.int u0), (.int u1), (.int u2), (.int u3), (.int u4), (.int u5)] := f_1365.sm (Sm.keep K_1374 (ninS hrp nin0))
  have f_1378 : Fld Z h_1373 a "com/example/nearword/nearword/internal/index/IntRuns" "at" "[I" (.ref e) := F_1348.sm (Sm.keep K_1374 (ninS hap nin0))
  have f_1379 : Fld Z h_1373 a "com/example/nearword/nearword/internal/index/IntRuns" "pool" "[I" (.ref p) := F_1349.sm (Sm.keep K_1374 (ninS hap nin0))
  have f_1380 : Fld Z h_1373 a "com/example/nearword/nearword/internal/index/IntRuns" "mostInts" "I" (.int 1048576) := F_1350.sm (Sm.keep K_1374 (ninS hap nin0))
  have f_1381 : Fld Z h_1373 a "com/example/nearword/nearword/internal/index/IntRuns" "keys" "I" (.int ky_1342) := F_1351.sm (Sm.keep K_1374 (ninS hap nin0))
  have f_1382 : Fld Z h_1373 a "com/example/nearword/nearword/internal/index/IntRuns" "poolLeft" "I" (.int 0) := F_1352.sm (Sm.keep K_1374 (ninS hap nin0))
  have f_1383 : Fld Z h_1373 a "com/example/nearword/nearword/internal/index/IntRuns" "poolSize" "I" (.int s_1343) := F_1353.sm (Sm.keep K_1374 (ninS hap nin0))
  have f_1384 : Fld Z h_1373 a "com/example/nearword/nearword/internal/index/IntRuns" "keysToCome" "I" (.int 0) := F_1354.sm (Sm.keep K_1374 (ninS hap nin0))
  have f_1385 : Ary Z h_1373 e .int (A.set k.toInt.toNat (.int 7)) := A_1345.sm (Sm.keep K_1374 (ninS hep nin0))
  have t_1386 : a < h_1373.size := Nat.lt_of_lt_of_le t_1366 K_1374.1
  have t_1387 : e < h_1373.size := Nat.lt_of_lt_of_le t_1367 K_1374.1
  have t_1388 : p < h_1373.size := Nat.lt_of_lt_of_le t_1368 K_1374.1
  have t_1389 : r < h_1373.size := Nat.lt_of_lt_of_le t_1369 K_1374.1
  have z_1390 : n0 ≤ h_1373.size := Nat.le_trans z_1370 K_1374.1
  have b_1391 : h0.size ≤ h_1373.size := Nat.le_trans b_1371 K_1374.1
  have K_1392 : Keep h0 h_1373 [a, e, p] := K_1372.trans K_1374 (allS (Or.inl (List.mem_of_getElem? (i := 2) rfl)) all0)
  refine Go.aloadN (pc' := 48) d6_47 rfl rfl rfl ?_
  refine Go.callP (pc' := 51) (argsL := []) (rest := []) (W := 0) (own_w hw 101 rfl) (own_w hw 102 rfl) (own_w hw 103 rfl) (own_w hw 16 rfl) (own_w hw 104 rfl) (own_w hw 33 rfl) rfl (by decide) f_1376 (m_cp l Z a0 hw a s_1343 h_1373 n0 z_1390 f_1382 f_1383 hs_1347) d6_48 rfl pd10 rfl rfl (Nat.le_of_eq rfl) (by decide) (by decide) (by decide) (by decide) rfl ?_
  rintro _ _ ⟨rfl, rfl⟩
  show Go _ _ _ _ _ _ _ _ _ _ _ _ h_1373 (0 + 0 + 0) (0 + 0 + 0) 51 #[.val (.ref a), .val (.int k), .val (.ref r), .val (.int 0), .val (.int 0), .val (.int 0), .val (.int 7)] []
  exact Go.ret0 d6_51 rfl ⟨rfl, ky_1342, s_1343, K_1392, f_1378, f_1379, f_1380, f_1381, f_1382, f_1383, f_1384, f_1385, A_1375⟩ (by decide) (by decide)
set_option maxRecDepth 65536 in
set_option maxHeartbeats 40000000 in
theorem m_set1_1 (l : Launch) (Z : State) (a0 : Array Value) (hw : ∀ d ∈ tables_1, d.before a0 Z = true) (a e p r : Addr) (ks k : Int32) (u0 u1 u2 u3 u4 u5 : Int32) (w0 w1 w2 w3 w4 w5 : Int32) (A : List Value) (h0 : Heap) (n0 : Nat) (z0 : n0 ≤ h0.size) (hE : Exa Z h0 a "com/example/nearword/nearword/internal/index/IntRuns") (hF0 : Fld Z h0 a "com/example/nearword/nearword/internal/index/IntRuns" "at" "[I" (.ref e)) (hF1 : Fld Z h0 a "com/example/nearword/nearword/internal/index/IntRuns" "pool" "[I" (.ref p)) (hF2 : Fld Z h0 a "com/example/nearword/nearword/internal/index/IntRuns" "mostInts" "I" (.int 1048576)) (hF3 : Fld Z h0 a "com/example/nearword/nearword/internal/index/IntRuns" "keys" "I" (.int ks)) (hF4 : Fld Z h0 a "com/example/nearword/nearword/internal/index/IntRuns" "poolLeft" "I" (.int 0)) (hF5 : Fld Z h0 a "com/example/nearword/nearword/internal/index/IntRuns" "poolSize" "I" (.int 7)) (hF6 : Fld Z h0 a "com/example/nearword/nearword/internal/index/IntRuns" "keysToCome" "I" (.int 0)) (hg : n0 ≤ a) (hA : Ary Z h0 e .int A) (hA16 : A.length = 16) (hk0 : 0 ≤ k.toInt) (hk : k.toInt ≤ 15) (hAk : A[k.toInt.toNat]? = some (.int (-1 : Int32))) (hge : n0 ≤ e) (hae : a ≠ e) (hB : Ary Z h0 p .int [(.int 6), (.int w0), (.int w1), (.int w2), (.int w3), (.int w4), (.int w5), (.int 0), (.int 0), (.int 0), (.int 0), (.int 0), (.int 0), (.int 0), (.int 0), (.int 0)]) (hgp : n0 ≤ p) (hap : a ≠ p) (hep : e ≠ p) (hR : Ary Z h0 r .int [(.int u0), (.int u1), (.int u2), (.int u3), (.int u4), (.int u5)]) (har : a ≠ r) (hre : r ≠ e) (hrp : r ≠ p) : Mt false l Z (⟨"com/example/nearword/nearword/internal/index/IntRuns", "set", "(I[III)V"⟩ : MethodName) prog_42_method_13_code 7 none ({ frames := 3, cells := 0, slots := 0, locals := 60 } : Room) n0 (fun v h => v = none ∧ ∃ ky s, Keep h0 h [a, e, p] ∧ Fld Z h a "com/example/nearword/nearword/internal/index/IntRuns" "at" "[I" (.ref e) ∧ Fld Z h a "com/example/nearword/nearword/internal/index/IntRuns" "pool" "[I" (.ref p) ∧ Fld Z h a "com/example/nearword/nearword/internal/index/IntRuns" "mostInts" "I" (.int 1048576) ∧ Fld Z h a "com/example/nearword/nearword/internal/index/IntRuns" "keys" "I" (.int ky) ∧ Fld Z h a "com/example/nearword/nearword/internal/index/IntRuns" "poolLeft" "I" (.int 0) ∧ Fld Z h a "com/example/nearword/nearword/internal/index/IntRuns" "poolSize" "I" (.int s) ∧ Fld Z h a "com/example/nearword/nearword/internal/index/IntRuns" "keysToCome" "I" (.int 0) ∧ Ary Z h e .int (A.set k.toInt.toNat (.int ((-2 : Int32) - u0))) ∧ Ary Z h p .int [(.int 6), (.int w0), (.int w1), (.int w2), (.int w3), (.int w4), (.int w5), (.int 0), (.int 0), (.int 0), (.int 0), (.int 0), (.int 0), (.int 0), (.int 0), (.int 0)]) h0 #[(.ref a), (.int k), (.ref r), (.int 0), (.int 1)] := by
  refine Mt.go (Ls := #[.val (.ref a), .val (.int k), .val (.ref r), .val (.int 0), .val (.int 1), .unset, .unset]) (plainFor_of_name pn1) (fun m => by first | (simp [entryFrame, mkF, argsToLocals, Value.category]; done) | rfl) ?_
  show Go _ _ _ _ _ _ _ _ _ _ _ _ h0 0 0 0 #[.val (.ref a), .val (.int k), .val (.ref r), .val (.int 0), .val (.int 1), .unset, .unset] []
  have n_1393 : a ≠ e := by obtain ⟨_, Ag, -⟩ := hA; exact ne_arr hE (own_w hw 15 rfl) Ag
  have n_1394 : a ≠ p := by obtain ⟨_, Ag, -⟩ := hB; exact ne_arr hE (own_w hw 15 rfl) Ag
  have n_1395 : a ≠ r := by obtain ⟨_, Ag, -⟩ := hR; exact ne_arr hE (own_w hw 15 rfl) Ag
  refine Go.iload (pc' := 2) d6_0 rfl rfl ?_
  refine Go.iloadN (pc' := 3) d6_2 rfl rfl ?_
  refine Go.isub (pc' := 4) d6_3 rfl ?_
  show Go _ _ _ _ _ _ _ _ _ _ _ _ h0 0 0 4 #[.val (.ref a), .val (.int k), .val (.ref r), .val (.int 0), .val (.int 1), .unset, .unset] [(.int 1)]
  refine Go.iconst (pc' := 5) (v := (1 : Int32)) d6_4 rfl rfl ?_
  refine Go.icmp (pc1 := 17) (pc2 := 8) d6_5 (by decide) (by decide) rfl (fun (c_1396 : (1 : Int) ≠ (1 : Int)) => ?_) (fun (c_1396 : (1 : Int) = (1 : Int)) => ?_)
  · exact absurd c_1396 (by decide)
  refine Go.aloadN (pc' := 9) d6_8 rfl rfl rfl ?_
  refine Go.iloadN (pc' := 10) d6_9 rfl rfl ?_
  refine Go.aloadN (pc' := 11) d6_10 rfl rfl rfl ?_
  refine Go.iloadN (pc' := 12) d6_11 rfl rfl ?_
  refine Go.ldI (pc' := 13) (k := 0) (v := (.int u0)) hR rfl rfl d6_12 rfl ?_
  refine Go.callV (pc' := 16) (argsL := [(.int k), (.int u0)]) (rest := []) (W := 0) (own_w hw 35 rfl) (own_w hw 36 rfl) (own_w hw 38 rfl) (own_w hw 37 rfl) (own_w hw 16 rfl) (own_w hw 39 rfl) (by decide) hE (m_one1 l Z a0 hw a e p ks (7 : Int32) k u0 A h0 n0 z0 hE hF0 hF1 hF2 hF3 hF4 hF5 hF6 hg hA hA16 hk0 hk hAk hge hae (by decide)) d6_13 rfl pd12 rfl rfl (Nat.le_of_eq rfl) (by decide) (by decide) (by decide) (by decide) rfl ?_
  rintro _ h_1397 ⟨rfl, ky_1398, K_1399, F_1401, F_1402, F_1403, F_1404, F_1405, F_1406, F_1407, A_1400⟩
  have f_1408 : Exa Z h_1397 a "com/example/nearword/nearword/internal/index/IntRuns" := hE.keep K_1399
  have f_1417 : Ary Z h_1397 p .int [(.int 6), (.int w0), (.int w1), (.int w2), (.int w3), (.int w4), (.int w5), (.int 0), (.int 0), (.int 0), (.int 0), (.int 0), (.int 0), (.int 0), (.int 0), (.int 0)] := hB.sm (Sm.keep K_1399 (ninS hap.symm (ninS hep.symm nin0)))
  have f_1418 : Ary Z h_1397 r .int [(.int u0), (.int u1), (.int u2), (.int u3), (.int u4), (.int u5)] := hR.sm (Sm.keep K_1399 (ninS har.symm (ninS hre nin0)))
  have t_1419 : a < h_1397.size := Nat.lt_of_lt_of_le hE.lt K_1399.1
  have t_1420 : e < h_1397.size := Nat.lt_of_lt_of_le hA.lt K_1399.1
  have t_1421 : p < h_1397.size := Nat.lt_of_lt_of_le hB.lt K_1399.1
  have t_1422 : r < h_1397.size := Nat.lt_of_lt_of_le hR.lt K_1399.1
  have z_1423 : n0 ≤ h_1397.size := Nat.le_trans z0 K_1399.1
  have b_1424 : h0.size ≤ h_1397.size := Nat.le_trans (Nat.le_refl _) K_1399.1
  have K_1425 : Keep h0 h_1397 [a, e, p] := (Keep.refl _ _).trans K_1399 (allS (Or.inl (List.mem_of_getElem? (i := 0) rfl)) (allS (Or.inl (List.mem_of_getElem? (i := 1) rfl)) all0))
  show Go _ _ _ _ _ _ _ _ _ _ _ _ h_1397 (0 + 0) (0 + 0) 16 #[.val (.ref a), .val (.int k), .val (.ref r), .val (.int 0), .val (.int 1), .unset, .unset] []
  exact Go.ret0 d6_16 rfl ⟨rfl, ky_1398, (7 : Int32), K_1425, F_1401, F_1402, F_1403, F_1404, F_1405, F_1406, F_1407, A_1400, f_1417⟩ (by decide) (by decide)
set_option maxRecDepth 65536 in
set_option maxHeartbeats 40000000 in
theorem m_set1_2 (l : Launch) (Z : State) (a0 : Array Value) (hw : ∀ d ∈ tables_1, d.before a0 Z = true) (a e p r : Addr) (ks k : Int32) (u0 u1 u2 u3 u4 u5 : Int32) (w0 w1 w2 w3 w4 w5 : Int32) (A : List Value) (h0 : Heap) (n0 : Nat) (z0 : n0 ≤ h0.size) (hE : Exa Z h0 a "com/example/nearword/nearword/internal/index/IntRuns") (hF0 : Fld Z h0 a "com/example/nearword/nearword/internal/index/IntRuns" "at" "[I" (.ref e)) (hF1 : Fld Z h0 a "com/example/nearword/nearword/internal/index/IntRuns" "pool" "[I" (.ref p)) (hF2 : Fld Z h0 a "com/example/nearword/nearword/internal/index/IntRuns" "mostInts" "I" (.int 1048576)) (hF3 : Fld Z h0 a "com/example/nearword/nearword/internal/index/IntRuns" "keys" "I" (.int ks)) (hF4 : Fld Z h0 a "com/example/nearword/nearword/internal/index/IntRuns" "poolLeft" "I" (.int 0)) (hF5 : Fld Z h0 a "com/example/nearword/nearword/internal/index/IntRuns" "poolSize" "I" (.int 7)) (hF6 : Fld Z h0 a "com/example/nearword/nearword/internal/index/IntRuns" "keysToCome" "I" (.int 0)) (hg : n0 ≤ a) (hA : Ary Z h0 e .int A) (hA16 : A.length = 16) (hk0 : 0 ≤ k.toInt) (hk : k.toInt ≤ 15) (hAk : A[k.toInt.toNat]? = some (.int (-1 : Int32))) (hge : n0 ≤ e) (hae : a ≠ e) (hB : Ary Z h0 p .int [(.int 6), (.int w0), (.int w1), (.int w2), (.int w3), (.int w4), (.int w5), (.int 0), (.int 0), (.int 0), (.int 0), (.int 0), (.int 0), (.int 0), (.int 0), (.int 0)]) (hgp : n0 ≤ p) (hap : a ≠ p) (hep : e ≠ p) (hR : Ary Z h0 r .int [(.int u0), (.int u1), (.int u2), (.int u3), (.int u4), (.int u5)]) (har : a ≠ r) (hre : r ≠ e) (hrp : r ≠ p) : Mt false l Z (⟨"com/example/nearword/nearword/internal/index/IntRuns", "set", "(I[III)V"⟩ : MethodName) prog_42_method_13_code 7 none ({ frames := 3, cells := 0, slots := 0, locals := 60 } : Room) n0 (fun v h => v = none ∧ ∃ ky s, Keep h0 h [a, e, p] ∧ Fld Z h a "com/example/nearword/nearword/internal/index/IntRuns" "at" "[I" (.ref e) ∧ Fld Z h a "com/example/nearword/nearword/internal/index/IntRuns" "pool" "[I" (.ref p) ∧ Fld Z h a "com/example/nearword/nearword/internal/index/IntRuns" "mostInts" "I" (.int 1048576) ∧ Fld Z h a "com/example/nearword/nearword/internal/index/IntRuns" "keys" "I" (.int ky) ∧ Fld Z h a "com/example/nearword/nearword/internal/index/IntRuns" "poolLeft" "I" (.int 0) ∧ Fld Z h a "com/example/nearword/nearword/internal/index/IntRuns" "poolSize" "I" (.int s) ∧ Fld Z h a "com/example/nearword/nearword/internal/index/IntRuns" "keysToCome" "I" (.int 0) ∧ Ary Z h e .int (A.set k.toInt.toNat (.int 7)) ∧ Ary Z h p .int [(.int 6), (.int w0), (.int w1), (.int w2), (.int w3), (.int w4), (.int w5), (.int 2), (.int u0), (.int u1), (.int 0), (.int 0), (.int 0), (.int 0), (.int 0), (.int 0)]) h0 #[(.ref a), (.int k), (.ref r), (.int 0), (.int 2)] := by
  refine Mt.go (Ls := #[.val (.ref a), .val (.int k), .val (.ref r), .val (.int 0), .val (.int 2), .unset, .unset]) (plainFor_of_name pn1) (fun m => by first | (simp [entryFrame, mkF, argsToLocals, Value.category]; done) | rfl) ?_
  show Go _ _ _ _ _ _ _ _ _ _ _ _ h0 0 0 0 #[.val (.ref a), .val (.int k), .val (.ref r), .val (.int 0), .val (.int 2), .unset, .unset] []
  have n_1426 : a ≠ e := by obtain ⟨_, Ag, -⟩ := hA; exact ne_arr hE (own_w hw 15 rfl) Ag
  have n_1427 : a ≠ p := by obtain ⟨_, Ag, -⟩ := hB; exact ne_arr hE (own_w hw 15 rfl) Ag
  have n_1428 : a ≠ r := by obtain ⟨_, Ag, -⟩ := hR; exact ne_arr hE (own_w hw 15 rfl) Ag
  refine Go.iload (pc' := 2) d6_0 rfl rfl ?_
  refine Go.iloadN (pc' := 3) d6_2 rfl rfl ?_
  refine Go.isub (pc' := 4) d6_3 rfl ?_
  show Go _ _ _ _ _ _ _ _ _ _ _ _ h0 0 0 4 #[.val (.ref a), .val (.int k), .val (.ref r), .val (.int 0), .val (.int 2), .unset, .unset] [(.int 2)]
  refine Go.iconst (pc' := 5) (v := (1 : Int32)) d6_4 rfl rfl ?_
  refine Go.icmp (pc1 := 17) (pc2 := 8) d6_5 (by decide) (by decide) rfl (fun (c_1429 : (2 : Int) ≠ (1 : Int)) => ?_) (fun (c_1429 : (2 : Int) = (1 : Int)) => ?_)
  rotate_left
  · exact absurd c_1429 (by decide)
  refine Go.iload (pc' := 19) d6_17 rfl rfl ?_
  refine Go.iloadN (pc' := 20) d6_19 rfl rfl ?_
  refine Go.isub (pc' := 21) d6_20 rfl ?_
  show Go _ _ _ _ _ _ _ _ _ _ _ _ h0 0 0 21 #[.val (.ref a), .val (.int k), .val (.ref r), .val (.int 0), .val (.int 2), .unset, .unset] [(.int 2)]
  refine Go.istore (pc' := 23) (Ls' := #[.val (.ref a), .val (.int k), .val (.ref r), .val (.int 0), .val (.int 2), .val (.int 2), .unset]) d6_21 rfl rfl ?_
  refine Go.aloadN (pc' := 24) d6_23 rfl rfl rfl ?_
  refine Go.iloadN (pc' := 25) d6_24 rfl rfl ?_
  refine Go.iload (pc' := 27) d6_25 rfl rfl ?_
  refine Go.callP (pc' := 30) (argsL := [(.int k), (.int 2)]) (rest := []) (W := 0) (own_w hw 114 rfl) (own_w hw 115 rfl) (own_w hw 116 rfl) (own_w hw 16 rfl) (own_w hw 117 rfl) (own_w hw 33 rfl) rfl (by decide) hE (m_pl1 l Z a0 hw a e p ks (7 : Int32) k (2 : Int32) A [(.int 6), (.int w0), (.int w1), (.int w2), (.int w3), (.int w4), (.int w5), (.int 0), (.int 0), (.int 0), (.int 0), (.int 0), (.int 0), (.int 0), (.int 0), (.int 0)] h0 n0 z0 hE hF0 hF1 hF2 hF3 hF4 hF5 hF6 hg hA hA16 hk0 hk hAk hge hae hB rfl hgp hap hep (by decide) (by decide) (by decide)) d6_27 rfl pd2 rfl rfl (Nat.le_of_eq rfl) (by decide) (by decide) (by decide) (by decide) rfl ?_
  rintro _ h_1430 ⟨rfl, ky_1431, s_1432, K_1433, F_1437, F_1438, F_1439, F_1440, F_1441, F_1442, F_1443, A_1434, A_1435, hs_1436⟩
  have f_1444 : Exa Z h_1430 a "com/example/nearword/nearword/internal/index/IntRuns" := hE.keep K_1433
  have f_1454 : Ary Z h_1430 r .int [(.int u0), (.int u1), (.int u2), (.int u3), (.int u4), (.int u5)] := hR.sm (Sm.keep K_1433 (ninS har.symm (ninS hre (ninS hrp nin0))))
  have t_1455 : a < h_1430.size := Nat.lt_of_lt_of_le hE.lt K_1433.1
  have t_1456 : e < h_1430.size := Nat.lt_of_lt_of_le hA.lt K_1433.1
  have t_1457 : p < h_1430.size := Nat.lt_of_lt_of_le hB.lt K_1433.1
  have t_1458 : r < h_1430.size := Nat.lt_of_lt_of_le hR.lt K_1433.1
  have z_1459 : n0 ≤ h_1430.size := Nat.le_trans z0 K_1433.1
  have b_1460 : h0.size ≤ h_1430.size := Nat.le_trans (Nat.le_refl _) K_1433.1
  have K_1461 : Keep h0 h_1430 [a, e, p] := (Keep.refl _ _).trans K_1433 (allS (Or.inl (List.mem_of_getElem? (i := 0) rfl)) (allS (Or.inl (List.mem_of_getElem? (i := 1) rfl)) (allS (Or.inl (List.mem_of_getElem? (i := 2) rfl)) all0)))
  change Ary Z h_1430 p .int [(.int 6), (.int w0), (.int w1), (.int w2), (.int w3), (.int w4), (.int w5), (.int 2), (.int 0), (.int 0), (.int 0), (.int 0), (.int 0), (.int 0), (.int 0), (.int 0)] at A_1435
  show Go _ _ _ _ _ _ _ _ _ _ _ _ h_1430 (0 + 0) (0 + 0) 30 #[.val (.ref a), .val (.int k), .val (.ref r), .val (.int 0), .val (.int 2), .val (.int 2), .unset] [(.int 7)]
  refine Go.istore (pc' := 32) (Ls' := #[.val (.ref a), .val (.int k), .val (.ref r), .val (.int 0), .val (.int 2), .val (.int 2), .val (.int 7)]) d6_30 rfl rfl ?_
  refine Go.aloadN (pc' := 33) d6_32 rfl rfl rfl ?_
  refine Go.iloadN (pc' := 34) d6_33 rfl rfl ?_
  refine Go.aloadN (pc' := 35) d6_34 rfl rfl rfl ?_
  refine Go.getF (pc' := 38) (own_w hw 26 rfl) F_1438 d6_35 rfl ?_
  refine Go.iload (pc' := 40) d6_38 rfl rfl ?_
  refine Go.iconst (pc' := 41) (v := (1 : Int32)) d6_40 rfl rfl ?_
  refine Go.iadd (pc' := 42) d6_41 rfl ?_
  show Go _ _ _ _ _ _ _ _ _ _ _ _ h_1430 (0 + 0) (0 + 0) 42 #[.val (.ref a), .val (.int k), .val (.ref r), .val (.int 0), .val (.int 2), .val (.int 2), .val (.int 7)] [(.int 8), (.ref p), (.int 0), (.ref r)]
  refine Go.iload (pc' := 44) d6_42 rfl rfl ?_
  refine Go.acopy (pc' := 47) (i1 := 0) (i2 := 8) (k := 2) (za := (6 : Int32)) (zb := (16 : Int32)) (W := 0) (res := [(.int 6), (.int w0), (.int w1), (.int w2), (.int w3), (.int w4), (.int w5), (.int 2), (.int u0), (.int u1), (.int 0), (.int 0), (.int 0), (.int 0), (.int 0), (.int 0)]) (own_w hw 125 rfl) (own_w hw 87 rfl) (own_w hw 85 rfl) (own_w hw 86 rfl) f_1454 A_1435 rfl (by intro v hv; simp only [List.mem_cons, List.not_mem_nil, or_false] at hv; rcases hv with rfl | rfl | rfl | rfl | rfl | rfl <;> rfl) (by intro v hv; simp only [List.mem_cons, List.not_mem_nil, or_false] at hv; rcases hv with rfl | rfl | rfl | rfl | rfl | rfl | rfl | rfl | rfl | rfl | rfl | rfl | rfl | rfl | rfl | rfl <;> rfl) rfl rfl rfl rfl rfl (by show 0 + 2 ≤ 6; decide) (by show 8 + 2 ≤ 16; decide) rfl hgp d6_44 rfl (by decide) (Nat.le_of_eq rfl) (by decide) rfl ?_
  intro h_1462 K_1463 A_1464
  have f_1465 : Exa Z h_1462 a "com/example/nearword/nearword/internal/index/IntRuns" := f_1444.sm (Sm.keep K_1463 (ninS hap nin0))
  have f_1466 : Ary Z h_1462 r .int [(.int u0), (.int u1), (.int u2), (.int u3), (.int u4), (.int u5)] := f_1454.sm (Sm.keep K_1463 (ninS hrp nin0))
  have f_1467 : Fld Z h_1462 a "com/example/nearword/nearword/internal/index/IntRuns" "at" "[I" (.ref e) := F_1437.sm (Sm.keep K_1463 (ninS hap nin0))
  have f_1468 : Fld Z h_1462 a "com/example/nearword/nearword/internal/index/IntRuns" "pool" "[I" (.ref p) := F_1438.sm (Sm.keep K_1463 (ninS hap nin0))
  have f_1469 : Fld Z h_1462 a "com/example/nearword/nearword/internal/index/IntRuns" "mostInts" "I" (.int 1048576) := F_1439.sm (Sm.keep K_1463 (ninS hap nin0))
  have f_1470 : Fld Z h_1462 a "com/example/nearword/nearword/internal/index/IntRuns" "keys" "I" (.int ky_1431) := F_1440.sm (Sm.keep K_1463 (ninS hap nin0))
  have f_1471 : Fld Z h_1462 a "com/example/nearword/nearword/internal/index/IntRuns" "poolLeft" "I" (.int 0) := F_1441.sm (Sm.keep K_1463 (ninS hap nin0))
  have f_1472 : Fld Z h_1462 a "com/example/nearword/nearword/internal/index/IntRuns" "poolSize" "I" (.int s_1432) := F_1442.sm (Sm.keep K_1463 (ninS hap nin0))
  have f_1473 : Fld Z h_1462 a "com/example/nearword/nearword/internal/index/IntRuns" "keysToCome" "I" (.int 0) := F_1443.sm (Sm.keep K_1463 (ninS hap nin0))
  have f_1474 : Ary Z h_1462 e .int (A.set k.toInt.toNat (.int 7)) := A_1434.sm (Sm.keep K_1463 (ninS hep nin0))
  have t_1475 : a < h_1462.size := Nat.lt_of_lt_of_le t_1455 K_1463.1
  have t_1476 : e < h_1462.size := Nat.lt_of_lt_of_le t_1456 K_1463.1
  have t_1477 : p < h_1462.size := Nat.lt_of_lt_of_le t_1457 K_1463.1
  have t_1478 : r < h_1462.size := Nat.lt_of_lt_of_le t_1458 K_1463.1
  have z_1479 : n0 ≤ h_1462.size := Nat.le_trans z_1459 K_1463.1
  have b_1480 : h0.size ≤ h_1462.size := Nat.le_trans b_1460 K_1463.1
  have K_1481 : Keep h0 h_1462 [a, e, p] := K_1461.trans K_1463 (allS (Or.inl (List.mem_of_getElem? (i := 2) rfl)) all0)
  refine Go.aloadN (pc' := 48) d6_47 rfl rfl rfl ?_
  refine Go.callP (pc' := 51) (argsL := []) (rest := []) (W := 0) (own_w hw 101 rfl) (own_w hw 102 rfl) (own_w hw 103 rfl) (own_w hw 16 rfl) (own_w hw 104 rfl) (own_w hw 33 rfl) rfl (by decide) f_1465 (m_cp l Z a0 hw a s_1432 h_1462 n0 z_1479 f_1471 f_1472 hs_1436) d6_48 rfl pd10 rfl rfl (Nat.le_of_eq rfl) (by decide) (by decide) (by decide) (by decide) rfl ?_
  rintro _ _ ⟨rfl, rfl⟩
  show Go _ _ _ _ _ _ _ _ _ _ _ _ h_1462 (0 + 0 + 0) (0 + 0 + 0) 51 #[.val (.ref a), .val (.int k), .val (.ref r), .val (.int 0), .val (.int 2), .val (.int 2), .val (.int 7)] []
  exact Go.ret0 d6_51 rfl ⟨rfl, ky_1431, s_1432, K_1481, f_1467, f_1468, f_1469, f_1470, f_1471, f_1472, f_1473, f_1474, A_1464⟩ (by decide) (by decide)
set_option maxRecDepth 65536 in
set_option maxHeartbeats 40000000 in
theorem m_set1_3 (l : Launch) (Z : State) (a0 : Array Value) (hw : ∀ d ∈ tables_1, d.before a0 Z = true) (a e p r : Addr) (ks k : Int32) (u0 u1 u2 u3 u4 u5 : Int32) (w0 w1 w2 w3 w4 w5 : Int32) (A : List Value) (h0 : Heap) (n0 : Nat) (z0 : n0 ≤ h0.size) (hE : Exa Z h0 a "com/example/nearword/nearword/internal/index/IntRuns") (hF0 : Fld Z h0 a "com/example/nearword/nearword/internal/index/IntRuns" "at" "[I" (.ref e)) (hF1 : Fld Z h0 a "com/example/nearword/nearword/internal/index/IntRuns" "pool" "[I" (.ref p)) (hF2 : Fld Z h0 a "com/example/nearword/nearword/internal/index/IntRuns" "mostInts" "I" (.int 1048576)) (hF3 : Fld Z h0 a "com/example/nearword/nearword/internal/index/IntRuns" "keys" "I" (.int ks)) (hF4 : Fld Z h0 a "com/example/nearword/nearword/internal/index/IntRuns" "poolLeft" "I" (.int 0)) (hF5 : Fld Z h0 a "com/example/nearword/nearword/internal/index/IntRuns" "poolSize" "I" (.int 7)) (hF6 : Fld Z h0 a "com/example/nearword/nearword/internal/index/IntRuns" "keysToCome" "I" (.int 0)) (hg : n0 ≤ a) (hA : Ary Z h0 e .int A) (hA16 : A.length = 16) (hk0 : 0 ≤ k.toInt) (hk : k.toInt ≤ 15) (hAk : A[k.toInt.toNat]? = some (.int (-1 : Int32))) (hge : n0 ≤ e) (hae : a ≠ e) (hB : Ary Z h0 p .int [(.int 6), (.int w0), (.int w1), (.int w2), (.int w3), (.int w4), (.int w5), (.int 0), (.int 0), (.int 0), (.int 0), (.int 0), (.int 0), (.int 0), (.int 0), (.int 0)]) (hgp : n0 ≤ p) (hap : a ≠ p) (hep : e ≠ p) (hR : Ary Z h0 r .int [(.int u0), (.int u1), (.int u2), (.int u3), (.int u4), (.int u5)]) (har : a ≠ r) (hre : r ≠ e) (hrp : r ≠ p) : Mt false l Z (⟨"com/example/nearword/nearword/internal/index/IntRuns", "set", "(I[III)V"⟩ : MethodName) prog_42_method_13_code 7 none ({ frames := 3, cells := 0, slots := 0, locals := 60 } : Room) n0 (fun v h => v = none ∧ ∃ ky s, Keep h0 h [a, e, p] ∧ Fld Z h a "com/example/nearword/nearword/internal/index/IntRuns" "at" "[I" (.ref e) ∧ Fld Z h a "com/example/nearword/nearword/internal/index/IntRuns" "pool" "[I" (.ref p) ∧ Fld Z h a "com/example/nearword/nearword/internal/index/IntRuns" "mostInts" "I" (.int 1048576) ∧ Fld Z h a "com/example/nearword/nearword/internal/index/IntRuns" "keys" "I" (.int ky) ∧ Fld Z h a "com/example/nearword/nearword/internal/index/IntRuns" "poolLeft" "I" (.int 0) ∧ Fld Z h a "com/example/nearword/nearword/internal/index/IntRuns" "poolSize" "I" (.int s) ∧ Fld Z h a "com/example/nearword/nearword/internal/index/IntRuns" "keysToCome" "I" (.int 0) ∧ Ary Z h e .int (A.set k.toInt.toNat (.int 7)) ∧ Ary Z h p .int [(.int 6), (.int w0), (.int w1), (.int w2), (.int w3), (.int w4), (.int w5), (.int 3), (.int u0), (.int u1), (.int u2), (.int 0), (.int 0), (.int 0), (.int 0), (.int 0)]) h0 #[(.ref a), (.int k), (.ref r), (.int 0), (.int 3)] := by
  refine Mt.go (Ls := #[.val (.ref a), .val (.int k), .val (.ref r), .val (.int 0), .val (.int 3), .unset, .unset]) (plainFor_of_name pn1) (fun m => by first | (simp [entryFrame, mkF, argsToLocals, Value.category]; done) | rfl) ?_
  show Go _ _ _ _ _ _ _ _ _ _ _ _ h0 0 0 0 #[.val (.ref a), .val (.int k), .val (.ref r), .val (.int 0), .val (.int 3), .unset, .unset] []
  have n_1482 : a ≠ e := by obtain ⟨_, Ag, -⟩ := hA; exact ne_arr hE (own_w hw 15 rfl) Ag
  have n_1483 : a ≠ p := by obtain ⟨_, Ag, -⟩ := hB; exact ne_arr hE (own_w hw 15 rfl) Ag
  have n_1484 : a ≠ r := by obtain ⟨_, Ag, -⟩ := hR; exact ne_arr hE (own_w hw 15 rfl) Ag
  refine Go.iload (pc' := 2) d6_0 rfl rfl ?_
  refine Go.iloadN (pc' := 3) d6_2 rfl rfl ?_
  refine Go.isub (pc' := 4) d6_3 rfl ?_
  show Go _ _ _ _ _ _ _ _ _ _ _ _ h0 0 0 4 #[.val (.ref a), .val (.int k), .val (.ref r), .val (.int 0), .val (.int 3), .unset, .unset] [(.int 3)]
  refine Go.iconst (pc' := 5) (v := (1 : Int32)) d6_4 rfl rfl ?_
  refine Go.icmp (pc1 := 17) (pc2 := 8) d6_5 (by decide) (by decide) rfl (fun (c_1485 : (3 : Int) ≠ (1 : Int)) => ?_) (fun (c_1485 : (3 : Int) = (1 : Int)) => ?_)
  rotate_left
  · exact absurd c_1485 (by decide)
  refine Go.iload (pc' := 19) d6_17 rfl rfl ?_
  refine Go.iloadN (pc' := 20) d6_19 rfl rfl ?_
  refine Go.isub (pc' := 21) d6_20 rfl ?_
  show Go _ _ _ _ _ _ _ _ _ _ _ _ h0 0 0 21 #[.val (.ref a), .val (.int k), .val (.ref r), .val (.int 0), .val (.int 3), .unset, .unset] [(.int 3)]
  refine Go.istore (pc' := 23) (Ls' := #[.val (.ref a), .val (.int k), .val (.ref r), .val (.int 0), .val (.int 3), .val (.int 3), .unset]) d6_21 rfl rfl ?_
  refine Go.aloadN (pc' := 24) d6_23 rfl rfl rfl ?_
  refine Go.iloadN (pc' := 25) d6_24 rfl rfl ?_
  refine Go.iload (pc' := 27) d6_25 rfl rfl ?_
  refine Go.callP (pc' := 30) (argsL := [(.int k), (.int 3)]) (rest := []) (W := 0) (own_w hw 114 rfl) (own_w hw 115 rfl) (own_w hw 116 rfl) (own_w hw 16 rfl) (own_w hw 117 rfl) (own_w hw 33 rfl) rfl (by decide) hE (m_pl1 l Z a0 hw a e p ks (7 : Int32) k (3 : Int32) A [(.int 6), (.int w0), (.int w1), (.int w2), (.int w3), (.int w4), (.int w5), (.int 0), (.int 0), (.int 0), (.int 0), (.int 0), (.int 0), (.int 0), (.int 0), (.int 0)] h0 n0 z0 hE hF0 hF1 hF2 hF3 hF4 hF5 hF6 hg hA hA16 hk0 hk hAk hge hae hB rfl hgp hap hep (by decide) (by decide) (by decide)) d6_27 rfl pd2 rfl rfl (Nat.le_of_eq rfl) (by decide) (by decide) (by decide) (by decide) rfl ?_
  rintro _ h_1486 ⟨rfl, ky_1487, s_1488, K_1489, F_1493, F_1494, F_1495, F_1496, F_1497, F_1498, F_1499, A_1490, A_1491, hs_1492⟩
  have f_1500 : Exa Z h_1486 a "com/example/nearword/nearword/internal/index/IntRuns" := hE.keep K_1489
  have f_1510 : Ary Z h_1486 r .int [(.int u0), (.int u1), (.int u2), (.int u3), (.int u4), (.int u5)] := hR.sm (Sm.keep K_1489 (ninS har.symm (ninS hre (ninS hrp nin0))))
  have t_1511 : a < h_1486.size := Nat.lt_of_lt_of_le hE.lt K_1489.1
  have t_1512 : e < h_1486.size := Nat.lt_of_lt_of_le hA.lt K_1489.1
  have t_1513 : p < h_1486.size := Nat.lt_of_lt_of_le hB.lt K_1489.1
  have t_1514 : r < h_1486.size := Nat.lt_of_lt_of_le hR.lt K_1489.1
  have z_1515 : n0 ≤ h_1486.size := Nat.le_trans z0 K_1489.1
  have b_1516 : h0.size ≤ h_1486.size := Nat.le_trans (Nat.le_refl _) K_1489.1
  have K_1517 : Keep h0 h_1486 [a, e, p] := (Keep.refl _ _).trans K_1489 (allS (Or.inl (List.mem_of_getElem? (i := 0) rfl)) (allS (Or.inl (List.mem_of_getElem? (i := 1) rfl)) (allS (Or.inl (List.mem_of_getElem? (i := 2) rfl)) all0)))
  change Ary Z h_1486 p .int [(.int 6), (.int w0), (.int w1), (.int w2), (.int w3), (.int w4), (.int w5), (.int 3), (.int 0), (.int 0), (.int 0), (.int 0), (.int 0), (.int 0), (.int 0), (.int 0)] at A_1491
  show Go _ _ _ _ _ _ _ _ _ _ _ _ h_1486 (0 + 0) (0 + 0) 30 #[.val (.ref a), .val (.int k), .val (.ref r), .val (.int 0), .val (.int 3), .val (.int 3), .unset] [(.int 7)]
  refine Go.istore (pc' := 32) (Ls' := #[.val (.ref a), .val (.int k), .val (.ref r), .val (.int 0), .val (.int 3), .val (.int 3), .val (.int 7)]) d6_30 rfl rfl ?_
  refine Go.aloadN (pc' := 33) d6_32 rfl rfl rfl ?_
  refine Go.iloadN (pc' := 34) d6_33 rfl rfl ?_
  refine Go.aloadN (pc' := 35) d6_34 rfl rfl rfl ?_
  refine Go.getF (pc' := 38) (own_w hw 26 rfl) F_1494 d6_35 rfl ?_
  refine Go.iload (pc' := 40) d6_38 rfl rfl ?_
  refine Go.iconst (pc' := 41) (v := (1 : Int32)) d6_40 rfl rfl ?_
  refine Go.iadd (pc' := 42) d6_41 rfl ?_
  show Go _ _ _ _ _ _ _ _ _ _ _ _ h_1486 (0 + 0) (0 + 0) 42 #[.val (.ref a), .val (.int k), .val (.ref r), .val (.int 0), .val (.int 3), .val (.int 3), .val (.int 7)] [(.int 8), (.ref p), (.int 0), (.ref r)]
  refine Go.iload (pc' := 44) d6_42 rfl rfl ?_
  refine Go.acopy (pc' := 47) (i1 := 0) (i2 := 8) (k := 3) (za := (6 : Int32)) (zb := (16 : Int32)) (W := 0) (res := [(.int 6), (.int w0), (.int w1), (.int w2), (.int w3), (.int w4), (.int w5), (.int 3), (.int u0), (.int u1), (.int u2), (.int 0), (.int 0), (.int 0), (.int 0), (.int 0)]) (own_w hw 125 rfl) (own_w hw 87 rfl) (own_w hw 85 rfl) (own_w hw 86 rfl) f_1510 A_1491 rfl (by intro v hv; simp only [List.mem_cons, List.not_mem_nil, or_false] at hv; rcases hv with rfl | rfl | rfl | rfl | rfl | rfl <;> rfl) (by intro v hv; simp only [List.mem_cons, List.not_mem_nil, or_false] at hv; rcases hv with rfl | rfl | rfl | rfl | rfl | rfl | rfl | rfl | rfl | rfl | rfl | rfl | rfl | rfl | rfl | rfl <;> rfl) rfl rfl rfl rfl rfl (by show 0 + 3 ≤ 6; decide) (by show 8 + 3 ≤ 16; decide) rfl hgp d6_44 rfl (by decide) (Nat.le_of_eq rfl) (by decide) rfl ?_
  intro h_1518 K_1519 A_1520
  have f_1521 : Exa Z h_1518 a "com/example/nearword/nearword/internal/index/IntRuns" := f_1500.sm (Sm.keep K_1519 (ninS hap nin0))
  have f_1522 : Ary Z h_1518 r .int [(.int u0), (.int u1), (.int u2), (.int u3), (.int u4), (.int u5)] := f_1510.sm (Sm.keep K_1519 (ninS hrp nin0))
  have f_1523 : Fld Z h_1518 a "com/example/nearword/nearword/internal/index/IntRuns" "at" "[I" (.ref e) := F_1493.sm (Sm.keep K_1519 (ninS hap nin0))
  have f_1524 : Fld Z h_1518 a "com/example/nearword/nearword/internal/index/IntRuns" "pool" "[I" (.ref p) := F_1494.sm (Sm.keep K_1519 (ninS hap nin0))
  have f_1525 : Fld Z h_1518 a "com/example/nearword/nearword/internal/index/IntRuns" "mostInts" "I" (.int 1048576) := F_1495.sm (Sm.keep K_1519 (ninS hap nin0))
  have f_1526 : Fld Z h_1518 a "com/example/nearword/nearword/internal/index/IntRuns" "keys" "I" (.int ky_1487) := F_1496.sm (Sm.keep K_1519 (ninS hap nin0))
  have f_1527 : Fld Z h_1518 a "com/example/nearword/nearword/internal/index/IntRuns" "poolLeft" "I" (.int 0) := F_1497.sm (Sm.keep K_1519 (ninS hap nin0))
  have f_1528 : Fld Z h_1518 a "com/example/nearword/nearword/internal/index/IntRuns" "poolSize" "I" (.int s_1488) := F_1498.sm (Sm.keep K_1519 (ninS hap nin0))
  have f_1529 : Fld Z h_1518 a "com/example/nearword/nearword/internal/index/IntRuns" "keysToCome" "I" (.int 0) := F_1499.sm (Sm.keep K_1519 (ninS hap nin0))
  have f_1530 : Ary Z h_1518 e .int (A.set k.toInt.toNat (.int 7)) := A_1490.sm (Sm.keep K_1519 (ninS hep nin0))
  have t_1531 : a < h_1518.size := Nat.lt_of_lt_of_le t_1511 K_1519.1
  have t_1532 : e < h_1518.size := Nat.lt_of_lt_of_le t_1512 K_1519.1
  have t_1533 : p < h_1518.size := Nat.lt_of_lt_of_le t_1513 K_1519.1
  have t_1534 : r < h_1518.size := Nat.lt_of_lt_of_le t_1514 K_1519.1
  have z_1535 : n0 ≤ h_1518.size := Nat.le_trans z_1515 K_1519.1
  have b_1536 : h0.size ≤ h_1518.size := Nat.le_trans b_1516 K_1519.1
  have K_1537 : Keep h0 h_1518 [a, e, p] := K_1517.trans K_1519 (allS (Or.inl (List.mem_of_getElem? (i := 2) rfl)) all0)
  refine Go.aloadN (pc' := 48) d6_47 rfl rfl rfl ?_
  refine Go.callP (pc' := 51) (argsL := []) (rest := []) (W := 0) (own_w hw 101 rfl) (own_w hw 102 rfl) (own_w hw 103 rfl) (own_w hw 16 rfl) (own_w hw 104 rfl) (own_w hw 33 rfl) rfl (by decide) f_1521 (m_cp l Z a0 hw a s_1488 h_1518 n0 z_1535 f_1527 f_1528 hs_1492) d6_48 rfl pd10 rfl rfl (Nat.le_of_eq rfl) (by decide) (by decide) (by decide) (by decide) rfl ?_
  rintro _ _ ⟨rfl, rfl⟩
  show Go _ _ _ _ _ _ _ _ _ _ _ _ h_1518 (0 + 0 + 0) (0 + 0 + 0) 51 #[.val (.ref a), .val (.int k), .val (.ref r), .val (.int 0), .val (.int 3), .val (.int 3), .val (.int 7)] []
  exact Go.ret0 d6_51 rfl ⟨rfl, ky_1487, s_1488, K_1537, f_1523, f_1524, f_1525, f_1526, f_1527, f_1528, f_1529, f_1530, A_1520⟩ (by decide) (by decide)
set_option maxRecDepth 65536 in
set_option maxHeartbeats 40000000 in
theorem m_set1_4 (l : Launch) (Z : State) (a0 : Array Value) (hw : ∀ d ∈ tables_1, d.before a0 Z = true) (a e p r : Addr) (ks k : Int32) (u0 u1 u2 u3 u4 u5 : Int32) (w0 w1 w2 w3 w4 w5 : Int32) (A : List Value) (h0 : Heap) (n0 : Nat) (z0 : n0 ≤ h0.size) (hE : Exa Z h0 a "com/example/nearword/nearword/internal/index/IntRuns") (hF0 : Fld Z h0 a "com/example/nearword/nearword/internal/index/IntRuns" "at" "[I" (.ref e)) (hF1 : Fld Z h0 a "com/example/nearword/nearword/internal/index/IntRuns" "pool" "[I" (.ref p)) (hF2 : Fld Z h0 a "com/example/nearword/nearword/internal/index/IntRuns" "mostInts" "I" (.int 1048576)) (hF3 : Fld Z h0 a "com/example/nearword/nearword/internal/index/IntRuns" "keys" "I" (.int ks)) (hF4 : Fld Z h0 a "com/example/nearword/nearword/internal/index/IntRuns" "poolLeft" "I" (.int 0)) (hF5 : Fld Z h0 a "com/example/nearword/nearword/internal/index/IntRuns" "poolSize" "I" (.int 7)) (hF6 : Fld Z h0 a "com/example/nearword/nearword/internal/index/IntRuns" "keysToCome" "I" (.int 0)) (hg : n0 ≤ a) (hA : Ary Z h0 e .int A) (hA16 : A.length = 16) (hk0 : 0 ≤ k.toInt) (hk : k.toInt ≤ 15) (hAk : A[k.toInt.toNat]? = some (.int (-1 : Int32))) (hge : n0 ≤ e) (hae : a ≠ e) (hB : Ary Z h0 p .int [(.int 6), (.int w0), (.int w1), (.int w2), (.int w3), (.int w4), (.int w5), (.int 0), (.int 0), (.int 0), (.int 0), (.int 0), (.int 0), (.int 0), (.int 0), (.int 0)]) (hgp : n0 ≤ p) (hap : a ≠ p) (hep : e ≠ p) (hR : Ary Z h0 r .int [(.int u0), (.int u1), (.int u2), (.int u3), (.int u4), (.int u5)]) (har : a ≠ r) (hre : r ≠ e) (hrp : r ≠ p) : Mt false l Z (⟨"com/example/nearword/nearword/internal/index/IntRuns", "set", "(I[III)V"⟩ : MethodName) prog_42_method_13_code 7 none ({ frames := 3, cells := 0, slots := 0, locals := 60 } : Room) n0 (fun v h => v = none ∧ ∃ ky s, Keep h0 h [a, e, p] ∧ Fld Z h a "com/example/nearword/nearword/internal/index/IntRuns" "at" "[I" (.ref e) ∧ Fld Z h a "com/example/nearword/nearword/internal/index/IntRuns" "pool" "[I" (.ref p) ∧ Fld Z h a "com/example/nearword/nearword/internal/index/IntRuns" "mostInts" "I" (.int 1048576) ∧ Fld Z h a "com/example/nearword/nearword/internal/index/IntRuns" "keys" "I" (.int ky) ∧ Fld Z h a "com/example/nearword/nearword/internal/index/IntRuns" "poolLeft" "I" (.int 0) ∧ Fld Z h a "com/example/nearword/nearword/internal/index/IntRuns" "poolSize" "I" (.int s) ∧ Fld Z h a "com/example/nearword/nearword/internal/index/IntRuns" "keysToCome" "I" (.int 0) ∧ Ary Z h e .int (A.set k.toInt.toNat (.int 7)) ∧ Ary Z h p .int [(.int 6), (.int w0), (.int w1), (.int w2), (.int w3), (.int w4), (.int w5), (.int 4), (.int u0), (.int u1), (.int u2), (.int u3), (.int 0), (.int 0), (.int 0), (.int 0)]) h0 #[(.ref a), (.int k), (.ref r), (.int 0), (.int 4)] := by
  refine Mt.go (Ls := #[.val (.ref a), .val (.int k), .val (.ref r), .val (.int 0), .val (.int 4), .unset, .unset]) (plainFor_of_name pn1) (fun m => by first | (simp [entryFrame, mkF, argsToLocals, Value.category]; done) | rfl) ?_
  show Go _ _ _ _ _ _ _ _ _ _ _ _ h0 0 0 0 #[.val (.ref a), .val (.int k), .val (.ref r), .val (.int 0), .val (.int 4), .unset, .unset] []
  have n_1538 : a ≠ e := by obtain ⟨_, Ag, -⟩ := hA; exact ne_arr hE (own_w hw 15 rfl) Ag
  have n_1539 : a ≠ p := by obtain ⟨_, Ag, -⟩ := hB; exact ne_arr hE (own_w hw 15 rfl) Ag
  have n_1540 : a ≠ r := by obtain ⟨_, Ag, -⟩ := hR; exact ne_arr hE (own_w hw 15 rfl) Ag
  refine Go.iload (pc' := 2) d6_0 rfl rfl ?_
  refine Go.iloadN (pc' := 3) d6_2 rfl rfl ?_
  refine Go.isub (pc' := 4) d6_3 rfl ?_
  show Go _ _ _ _ _ _ _ _ _ _ _ _ h0 0 0 4 #[.val (.ref a), .val (.int k), .val (.ref r), .val (.int 0), .val (.int 4), .unset, .unset] [(.int 4)]
  refine Go.iconst (pc' := 5) (v := (1 : Int32)) d6_4 rfl rfl ?_
  refine Go.icmp (pc1 := 17) (pc2 := 8) d6_5 (by decide) (by decide) rfl (fun (c_1541 : (4 : Int) ≠ (1 : Int)) => ?_) (fun (c_1541 : (4 : Int) = (1 : Int)) => ?_)
  rotate_left
  · exact absurd c_1541 (by decide)
  refine Go.iload (pc' := 19) d6_17 rfl rfl ?_
  refine Go.iloadN (pc' := 20) d6_19 rfl rfl ?_
  refine Go.isub (pc' := 21) d6_20 rfl ?_
  show Go _ _ _ _ _ _ _ _ _ _ _ _ h0 0 0 21 #[.val (.ref a), .val (.int k), .val (.ref r), .val (.int 0), .val (.int 4), .unset, .unset] [(.int 4)]
  refine Go.istore (pc' := 23) (Ls' := #[.val (.ref a), .val (.int k), .val (.ref r), .val (.int 0), .val (.int 4), .val (.int 4), .unset]) d6_21 rfl rfl ?_
  refine Go.aloadN (pc' := 24) d6_23 rfl rfl rfl ?_
  refine Go.iloadN (pc' := 25) d6_24 rfl rfl ?_
  refine Go.iload (pc' := 27) d6_25 rfl rfl ?_
  refine Go.callP (pc' := 30) (argsL := [(.int k), (.int 4)]) (rest := []) (W := 0) (own_w hw 114 rfl) (own_w hw 115 rfl) (own_w hw 116 rfl) (own_w hw 16 rfl) (own_w hw 117 rfl) (own_w hw 33 rfl) rfl (by decide) hE (m_pl1 l Z a0 hw a e p ks (7 : Int32) k (4 : Int32) A [(.int 6), (.int w0), (.int w1), (.int w2), (.int w3), (.int w4), (.int w5), (.int 0), (.int 0), (.int 0), (.int 0), (.int 0), (.int 0), (.int 0), (.int 0), (.int 0)] h0 n0 z0 hE hF0 hF1 hF2 hF3 hF4 hF5 hF6 hg hA hA16 hk0 hk hAk hge hae hB rfl hgp hap hep (by decide) (by decide) (by decide)) d6_27 rfl pd2 rfl rfl (Nat.le_of_eq rfl) (by decide) (by decide) (by decide) (by decide) rfl ?_
  rintro _ h_1542 ⟨rfl, ky_1543, s_1544, K_1545, F_1549, F_1550, F_1551, F_1552, F_1553, F_1554, F_1555, A_1546, A_1547, hs_1548⟩
  have f_1556 : Exa Z h_1542 a "com/example/nearword/nearword/internal/index/IntRuns" := hE.keep K_1545
  have f_1566 : Ary Z h_1542 r .int [(.int u0), (.int u1), (.int u2), (.int u3), (.int u4), (.int u5)] := hR.sm (Sm.keep K_1545 (ninS har.symm (ninS hre (ninS hrp nin0))))
  have t_1567 : a < h_1542.size := Nat.lt_of_lt_of_le hE.lt K_1545.1
  have t_1568 : e < h_1542.size := Nat.lt_of_lt_of_le hA.lt K_1545.1
  have t_1569 : p < h_1542.size := Nat.lt_of_lt_of_le hB.lt K_1545.1
  have t_1570 : r < h_1542.size := Nat.lt_of_lt_of_le hR.lt K_1545.1
  have z_1571 : n0 ≤ h_1542.size := Nat.le_trans z0 K_1545.1
  have b_1572 : h0.size ≤ h_1542.size := Nat.le_trans (Nat.le_refl _) K_1545.1
  have K_1573 : Keep h0 h_1542 [a, e, p] := (Keep.refl _ _).trans K_1545 (allS (Or.inl (List.mem_of_getElem? (i := 0) rfl)) (allS (Or.inl (List.mem_of_getElem? (i := 1) rfl)) (allS (Or.inl (List.mem_of_getElem? (i := 2) rfl)) all0)))
  change Ary Z h_1542 p .int [(.int 6), (.int w0), (.int w1), (.int w2), (.int w3), (.int w4), (.int w5), (.int 4), (.int 0), (.int 0), (.int 0), (.int 0), (.int 0), (.int 0), (.int 0), (.int 0)] at A_1547
  show Go _ _ _ _ _ _ _ _ _ _ _ _ h_1542 (0 + 0) (0 + 0) 30 #[.val (.ref a), .val (.int k), .val (.ref r), .val (.int 0), .val (.int 4), .val (.int 4), .unset] [(.int 7)]
  refine Go.istore (pc' := 32) (Ls' := #[.val (.ref a), .val (.int k), .val (.ref r), .val (.int 0), .val (.int 4), .val (.int 4), .val (.int 7)]) d6_30 rfl rfl ?_
  refine Go.aloadN (pc' := 33) d6_32 rfl rfl rfl ?_
  refine Go.iloadN (pc' := 34) d6_33 rfl rfl ?_
  refine Go.aloadN (pc' := 35) d6_34 rfl rfl rfl ?_
  refine Go.getF (pc' := 38) (own_w hw 26 rfl) F_1550 d6_35 rfl ?_
  refine Go.iload (pc' := 40) d6_38 rfl rfl ?_
  refine Go.iconst (pc' := 41) (v := (1 : Int32)) d6_40 rfl rfl ?_
  refine Go.iadd (pc' := 42) d6_41 rfl ?_
  show Go _ _ _ _ _ _ _ _ _ _ _ _ h_1542 (0 + 0) (0 + 0) 42 #[.val (.ref a), .val (.int k), .val (.ref r), .val (.int 0), .val (.int 4), .val (.int 4), .val (.int 7)] [(.int 8), (.ref p), (.int 0), (.ref r)]
  refine Go.iload (pc' := 44) d6_42 rfl rfl ?_
  refine Go.acopy (pc' := 47) (i1 := 0) (i2 := 8) (k := 4) (za := (6 : Int32)) (zb := (16 : Int32)) (W := 0) (res := [(.int 6), (.int w0), (.int w1), (.int w2), (.int w3), (.int w4), (.int w5), (.int 4), (.int u0), (.int u1), (.int u2), (.int u3), (.int 0), (.int 0), (.int 0), (.int 0)]) (own_w hw 125 rfl) (own_w hw 87 rfl) (own_w hw 85 rfl) (own_w hw 86 rfl) f_1566 A_1547 rfl (by intro v hv; simp only [List.mem_cons, List.not_mem_nil, or_false] at hv; rcases hv with rfl | rfl | rfl | rfl | rfl | rfl <;> rfl) (by intro v hv; simp only [List.mem_cons, List.not_mem_nil, or_false] at hv; rcases hv with rfl | rfl | rfl | rfl | rfl | rfl | rfl | rfl | rfl | rfl | rfl | rfl | rfl | rfl | rfl | rfl <;> rfl) rfl rfl rfl rfl rfl (by show 0 + 4 ≤ 6; decide) (by show 8 + 4 ≤ 16; decide) rfl hgp d6_44 rfl (by decide) (Nat.le_of_eq rfl) (by decide) rfl ?_
  intro h_1574 K_1575 A_1576
  have f_1577 : Exa Z h_1574 a "com/example/nearword/nearword/internal/index/IntRuns" := f_1556.sm (Sm.keep K_1575 (ninS hap nin0))
  have f_1578 : Ary Z h_1574 r .int [(.int u0), (.int u1), (.int u2), (.int u3), (.int u4), (.int u5)] := f_1566.sm (Sm.keep K_1575 (ninS hrp nin0))
  have f_1579 : Fld Z h_1574 a "com/example/nearword/nearword/internal/index/IntRuns" "at" "[I" (.ref e) := F_1549.sm (Sm.keep K_1575 (ninS hap nin0))
  have f_1580 : Fld Z h_1574 a "com/example/nearword/nearword/internal/index/IntRuns" "pool" "[I" (.ref p) := F_1550.sm (Sm.keep K_1575 (ninS hap nin0))
  have f_1581 : Fld Z h_1574 a "com/example/nearword/nearword/internal/index/IntRuns" "mostInts" "I" (.int 1048576) := F_1551.sm (Sm.keep K_1575 (ninS hap nin0))
  have f_1582 : Fld Z h_1574 a "com/example/nearword/nearword/internal/index/IntRuns" "keys" "I" (.int ky_1543) := F_1552.sm (Sm.keep K_1575 (ninS hap nin0))
  have f_1583 : Fld Z h_1574 a "com/example/nearword/nearword/internal/index/IntRuns" "poolLeft" "I" (.int 0) := F_1553.sm (Sm.keep K_1575 (ninS hap nin0))
  have f_1584 : Fld Z h_1574 a "com/example/nearword/nearword/internal/index/IntRuns" "poolSize" "I" (.int s_1544) := F_1554.sm (Sm.keep K_1575 (ninS hap nin0))
  have f_1585 : Fld Z h_1574 a "com/example/nearword/nearword/internal/index/IntRuns" "keysToCome" "I" (.int 0) := F_1555.sm (Sm.keep K_1575 (ninS hap nin0))
  have f_1586 : Ary Z h_1574 e .int (A.set k.toInt.toNat (.int 7)) := A_1546.sm (Sm.keep K_1575 (ninS hep nin0))
  have t_1587 : a < h_1574.size := Nat.lt_of_lt_of_le t_1567 K_1575.1
  have t_1588 : e < h_1574.size := Nat.lt_of_lt_of_le t_1568 K_1575.1
  have t_1589 : p < h_1574.size := Nat.lt_of_lt_of_le t_1569 K_1575.1
  have t_1590 : r < h_1574.size := Nat.lt_of_lt_of_le t_1570 K_1575.1
  have z_1591 : n0 ≤ h_1574.size := Nat.le_trans z_1571 K_1575.1
  have b_1592 : h0.size ≤ h_1574.size := Nat.le_trans b_1572 K_1575.1
  have K_1593 : Keep h0 h_1574 [a, e, p] := K_1573.trans K_1575 (allS (Or.inl (List.mem_of_getElem? (i := 2) rfl)) all0)
  refine Go.aloadN (pc' := 48) d6_47 rfl rfl rfl ?_
  refine Go.callP (pc' := 51) (argsL := []) (rest := []) (W := 0) (own_w hw 101 rfl) (own_w hw 102 rfl) (own_w hw 103 rfl) (own_w hw 16 rfl) (own_w hw 104 rfl) (own_w hw 33 rfl) rfl (by decide) f_1577 (m_cp l Z a0 hw a s_1544 h_1574 n0 z_1591 f_1583 f_1584 hs_1548) d6_48 rfl pd10 rfl rfl (Nat.le_of_eq rfl) (by decide) (by decide) (by decide) (by decide) rfl ?_
  rintro _ _ ⟨rfl, rfl⟩
  show Go _ _ _ _ _ _ _ _ _ _ _ _ h_1574 (0 + 0 + 0) (0 + 0 + 0) 51 #[.val (.ref a), .val (.int k), .val (.ref r), .val (.int 0), .val (.int 4), .val (.int 4), .val (.int 7)] []
  exact Go.ret0 d6_51 rfl ⟨rfl, ky_1543, s_1544, K_1593, f_1579, f_1580, f_1581, f_1582, f_1583, f_1584, f_1585, f_1586, A_1576⟩ (by decide) (by decide)
set_option maxRecDepth 65536 in
set_option maxHeartbeats 40000000 in
theorem m_set1_5 (l : Launch) (Z : State) (a0 : Array Value) (hw : ∀ d ∈ tables_1, d.before a0 Z = true) (a e p r : Addr) (ks k : Int32) (u0 u1 u2 u3 u4 u5 : Int32) (w0 w1 w2 w3 w4 w5 : Int32) (A : List Value) (h0 : Heap) (n0 : Nat) (z0 : n0 ≤ h0.size) (hE : Exa Z h0 a "com/example/nearword/nearword/internal/index/IntRuns") (hF0 : Fld Z h0 a "com/example/nearword/nearword/internal/index/IntRuns" "at" "[I" (.ref e)) (hF1 : Fld Z h0 a "com/example/nearword/nearword/internal/index/IntRuns" "pool" "[I" (.ref p)) (hF2 : Fld Z h0 a "com/example/nearword/nearword/internal/index/IntRuns" "mostInts" "I" (.int 1048576)) (hF3 : Fld Z h0 a "com/example/nearword/nearword/internal/index/IntRuns" "keys" "I" (.int ks)) (hF4 : Fld Z h0 a "com/example/nearword/nearword/internal/index/IntRuns" "poolLeft" "I" (.int 0)) (hF5 : Fld Z h0 a "com/example/nearword/nearword/internal/index/IntRuns" "poolSize" "I" (.int 7)) (hF6 : Fld Z h0 a "com/example/nearword/nearword/internal/index/IntRuns" "keysToCome" "I" (.int 0)) (hg : n0 ≤ a) (hA : Ary Z h0 e .int A) (hA16 : A.length = 16) (hk0 : 0 ≤ k.toInt) (hk : k.toInt ≤ 15) (hAk : A[k.toInt.toNat]? = some (.int (-1 : Int32))) (hge : n0 ≤ e) (hae : a ≠ e) (hB : Ary Z h0 p .int [(.int 6), (.int w0), (.int w1), (.int w2), (.int w3), (.int w4), (.int w5), (.int 0), (.int 0), (.int 0), (.int 0), (.int 0), (.int 0), (.int 0), (.int 0), (.int 0)]) (hgp : n0 ≤ p) (hap : a ≠ p) (hep : e ≠ p) (hR : Ary Z h0 r .int [(.int u0), (.int u1), (.int u2), (.int u3), (.int u4), (.int u5)]) (har : a ≠ r) (hre : r ≠ e) (hrp : r ≠ p) : Mt false l Z (⟨"com/example/nearword/nearword/internal/index/IntRuns", "set", "(I[III)V"⟩ : MethodName) prog_42_method_13_code 7 none ({ frames := 3, cells := 0, slots := 0, locals := 60 } : Room) n0 (fun v h => v = none ∧ ∃ ky s, Keep h0 h [a, e, p] ∧ Fld Z h a "com/example/nearword/nearword/internal/index/IntRuns" "at" "[I" (.ref e) ∧ Fld Z h a "com/example/nearword/nearword/internal/index/IntRuns" "pool" "[I" (.ref p) ∧ Fld Z h a "com/example/nearword/nearword/internal/index/IntRuns" "mostInts" "I" (.int 1048576) ∧ Fld Z h a "com/example/nearword/nearword/internal/index/IntRuns" "keys" "I" (.int ky) ∧ Fld Z h a "com/example/nearword/nearword/internal/index/IntRuns" "poolLeft" "I" (.int 0) ∧ Fld Z h a "com/example/nearword/nearword/internal/index/IntRuns" "poolSize" "I" (.int s) ∧ Fld Z h a "com/example/nearword/nearword/internal/index/IntRuns" "keysToCome" "I" (.int 0) ∧ Ary Z h e .int (A.set k.toInt.toNat (.int 7)) ∧ Ary Z h p .int [(.int 6), (.int w0), (.int w1), (.int w2), (.int w3), (.int w4), (.int w5), (.int 5), (.int u0), (.int u1), (.int u2), (.int u3), (.int u4), (.int 0), (.int 0), (.int 0)]) h0 #[(.ref a), (.int k), (.ref r), (.int 0), (.int 5)] := by
  refine Mt.go (Ls := #[.val (.ref a), .val (.int k), .val (.ref r), .val (.int 0), .val (.int 5), .unset, .unset]) (plainFor_of_name pn1) (fun m => by first | (simp [entryFrame, mkF, argsToLocals, Value.category]; done) | rfl) ?_
  show Go _ _ _ _ _ _ _ _ _ _ _ _ h0 0 0 0 #[.val (.ref a), .val (.int k), .val (.ref r), .val (.int 0), .val (.int 5), .unset, .unset] []
  have n_1594 : a ≠ e := by obtain ⟨_, Ag, -⟩ := hA; exact ne_arr hE (own_w hw 15 rfl) Ag
  have n_1595 : a ≠ p := by obtain ⟨_, Ag, -⟩ := hB; exact ne_arr hE (own_w hw 15 rfl) Ag
  have n_1596 : a ≠ r := by obtain ⟨_, Ag, -⟩ := hR; exact ne_arr hE (own_w hw 15 rfl) Ag
  refine Go.iload (pc' := 2) d6_0 rfl rfl ?_
  refine Go.iloadN (pc' := 3) d6_2 rfl rfl ?_
  refine Go.isub (pc' := 4) d6_3 rfl ?_
  show Go _ _ _ _ _ _ _ _ _ _ _ _ h0 0 0 4 #[.val (.ref a), .val (.int k), .val (.ref r), .val (.int 0), .val (.int 5), .unset, .unset] [(.int 5)]
  refine Go.iconst (pc' := 5) (v := (1 : Int32)) d6_4 rfl rfl ?_
  refine Go.icmp (pc1 := 17) (pc2 := 8) d6_5 (by decide) (by decide) rfl (fun (c_1597 : (5 : Int) ≠ (1 : Int)) => ?_) (fun (c_1597 : (5 : Int) = (1 : Int)) => ?_)
  rotate_left
  · exact absurd c_1597 (by decide)
  refine Go.iload (pc' := 19) d6_17 rfl rfl ?_
  refine Go.iloadN (pc' := 20) d6_19 rfl rfl ?_
  refine Go.isub (pc' := 21) d6_20 rfl ?_
  show Go _ _ _ _ _ _ _ _ _ _ _ _ h0 0 0 21 #[.val (.ref a), .val (.int k), .val (.ref r), .val (.int 0), .val (.int 5), .unset, .unset] [(.int 5)]
  refine Go.istore (pc' := 23) (Ls' := #[.val (.ref a), .val (.int k), .val (.ref r), .val (.int 0), .val (.int 5), .val (.int 5), .unset]) d6_21 rfl rfl ?_
  refine Go.aloadN (pc' := 24) d6_23 rfl rfl rfl ?_
  refine Go.iloadN (pc' := 25) d6_24 rfl rfl ?_
  refine Go.iload (pc' := 27) d6_25 rfl rfl ?_
  refine Go.callP (pc' := 30) (argsL := [(.int k), (.int 5)]) (rest := []) (W := 0) (own_w hw 114 rfl) (own_w hw 115 rfl) (own_w hw 116 rfl) (own_w hw 16 rfl) (own_w hw 117 rfl) (own_w hw 33 rfl) rfl (by decide) hE (m_pl1 l Z a0 hw a e p ks (7 : Int32) k (5 : Int32) A [(.int 6), (.int w0), (.int w1), (.int w2), (.int w3), (.int w4), (.int w5), (.int 0), (.int 0), (.int 0), (.int 0), (.int 0), (.int 0), (.int 0), (.int 0), (.int 0)] h0 n0 z0 hE hF0 hF1 hF2 hF3 hF4 hF5 hF6 hg hA hA16 hk0 hk hAk hge hae hB rfl hgp hap hep (by decide) (by decide) (by decide)) d6_27 rfl pd2 rfl rfl (Nat.le_of_eq rfl) (by decide) (by decide) (by decide) (by decide) rfl ?_
  rintro _ h_1598 ⟨rfl, ky_1599, s_1600, K_1601, F_1605, F_1606, F_1607, F_1608, F_1609, F_1610, F_1611, A_1602, A_1603, hs_1604⟩
  have f_1612 : Exa Z h_1598 a "com/example/nearword/nearword/internal/index/IntRuns" := hE.keep K_1601
  have f_1622 : Ary Z h_1598 r .int [(.int u0), (.int u1), (.int u2), (.int u3), (.int u4), (.int u5)] := hR.sm (Sm.keep K_1601 (ninS har.symm (ninS hre (ninS hrp nin0))))
  have t_1623 : a < h_1598.size := Nat.lt_of_lt_of_le hE.lt K_1601.1
  have t_1624 : e < h_1598.size := Nat.lt_of_lt_of_le hA.lt K_1601.1
  have t_1625 : p < h_1598.size := Nat.lt_of_lt_of_le hB.lt K_1601.1
  have t_1626 : r < h_1598.size := Nat.lt_of_lt_of_le hR.lt K_1601.1
  have z_1627 : n0 ≤ h_1598.size := Nat.le_trans z0 K_1601.1
  have b_1628 : h0.size ≤ h_1598.size := Nat.le_trans (Nat.le_refl _) K_1601.1
  have K_1629 : Keep h0 h_1598 [a, e, p] := (Keep.refl _ _).trans K_1601 (allS (Or.inl (List.mem_of_getElem? (i := 0) rfl)) (allS (Or.inl (List.mem_of_getElem? (i := 1) rfl)) (allS (Or.inl (List.mem_of_getElem? (i := 2) rfl)) all0)))
  change Ary Z h_1598 p .int [(.int 6), (.int w0), (.int w1), (.int w2), (.int w3), (.int w4), (.int w5), (.int 5), (.int 0), (.int 0), (.int 0), (.int 0), (.int 0), (.int 0), (.int 0), (.int 0)] at A_1603
  show Go _ _ _ _ _ _ _ _ _ _ _ _ h_1598 (0 + 0) (0 + 0) 30 #[.val (.ref a), .val (.int k), .val (.ref r), .val (.int 0), .val (.int 5), .val (.int 5), .unset] [(.int 7)]
  refine Go.istore (pc' := 32) (Ls' := #[.val (.ref a), .val (.int k), .val (.ref r), .val (.int 0), .val (.int 5), .val (.int 5), .val (.int 7)]) d6_30 rfl rfl ?_
  refine Go.aloadN (pc' := 33) d6_32 rfl rfl rfl ?_
  refine Go.iloadN (pc' := 34) d6_33 rfl rfl ?_
  refine Go.aloadN (pc' := 35) d6_34 rfl rfl rfl ?_
  refine Go.getF (pc' := 38) (own_w hw 26 rfl) F_1606 d6_35 rfl ?_
  refine Go.iload (pc' := 40) d6_38 rfl rfl ?_
  refine Go.iconst (pc' := 41) (v := (1 : Int32)) d6_40 rfl rfl ?_
  refine Go.iadd (pc' := 42) d6_41 rfl ?_
  show Go _ _ _ _ _ _ _ _ _ _ _ _ h_1598 (0 + 0) (0 + 0) 42 #[.val (.ref a), .val (.int k), .val (.ref r), .val (.int 0), .val (.int 5), .val (.int 5), .val (.int 7)] [(.int 8), (.ref p), (.int 0), (.ref r)]
  refine Go.iload (pc' := 44) d6_42 rfl rfl ?_
  refine Go.acopy (pc' := 47) (i1 := 0) (i2 := 8) (k := 5) (za := (6 : Int32)) (zb := (16 : Int32)) (W := 0) (res := [(.int 6), (.int w0), (.int w1), (.int w2), (.int w3), (.int w4), (.int w5), (.int 5), (.int u0), (.int u1), (.int u2), (.int u3), (.int u4), (.int 0), (.int 0), (.int 0)]) (own_w hw 125 rfl) (own_w hw 87 rfl) (own_w hw 85 rfl) (own_w hw 86 rfl) f_1622 A_1603 rfl (by intro v hv; simp only [List.mem_cons, List.not_mem_nil, or_false] at hv; rcases hv with rfl | rfl | rfl | rfl | rfl | rfl <;> rfl) (by intro v hv; simp only [List.mem_cons, List.not_mem_nil, or_false] at hv; rcases hv with rfl | rfl | rfl | rfl | rfl | rfl | rfl | rfl | rfl | rfl | rfl | rfl | rfl | rfl | rfl | rfl <;> rfl) rfl rfl rfl rfl rfl (by show 0 + 5 ≤ 6; decide) (by show 8 + 5 ≤ 16; decide) rfl hgp d6_44 rfl (by decide) (Nat.le_of_eq rfl) (by decide) rfl ?_
  intro h_1630 K_1631 A_1632
  have f_1633 : Exa Z h_1630 a "com/example/nearword/nearword/internal/index/IntRuns" := f_1612.sm (Sm.keep K_1631 (ninS hap nin0))
  have f_1634 : Ary Z h_1630 r .int [(.int u0), (.int u1), (.int u2), (.int u3), (.int u4), (.int u5)] := f_1622.sm (Sm.keep K_1631 (ninS hrp nin0))
  have f_1635 : Fld Z h_1630 a "com/example/nearword/nearword/internal/index/IntRuns" "at" "[I" (.ref e) := F_1605.sm (Sm.keep K_1631 (ninS hap nin0))
  have f_1636 : Fld Z h_1630 a "com/example/nearword/nearword/internal/index/IntRuns" "pool" "[I" (.ref p) := F_1606.sm (Sm.keep K_1631 (ninS hap nin0))
  have f_1637 : Fld Z h_1630 a "com/example/nearword/nearword/internal/index/IntRuns" "mostInts" "I" (.int 1048576) := F_1607.sm (Sm.keep K_1631 (ninS hap nin0))
  have f_1638 : Fld Z h_1630 a "com/example/nearword/nearword/internal/index/IntRuns" "keys" "I" (.int ky_1599) := F_1608.sm (Sm.keep K_1631 (ninS hap nin0))
  have f_1639 : Fld Z h_1630 a "com/example/nearword/nearword/internal/index/IntRuns" "poolLeft" "I" (.int 0) := F_1609.sm (Sm.keep K_1631 (ninS hap nin0))
  have f_1640 : Fld Z h_1630 a "com/example/nearword/nearword/internal/index/IntRuns" "poolSize" "I" (.int s_1600) := F_1610.sm (Sm.keep K_1631 (ninS hap nin0))
  have f_1641 : Fld Z h_1630 a "com/example/nearword/nearword/internal/index/IntRuns" "keysToCome" "I" (.int 0) := F_1611.sm (Sm.keep K_1631 (ninS hap nin0))
  have f_1642 : Ary Z h_1630 e .int (A.set k.toInt.toNat (.int 7)) := A_1602.sm (Sm.keep K_1631 (ninS hep nin0))
  have t_1643 : a < h_1630.size := Nat.lt_of_lt_of_le t_1623 K_1631.1
  have t_1644 : e < h_1630.size := Nat.lt_of_lt_of_le t_1624 K_1631.1
  have t_1645 : p < h_1630.size := Nat.lt_of_lt_of_le t_1625 K_1631.1
  have t_1646 : r < h_1630.size := Nat.lt_of_lt_of_le t_1626 K_1631.1
  have z_1647 : n0 ≤ h_1630.size := Nat.le_trans z_1627 K_1631.1
  have b_1648 : h0.size ≤ h_1630.size := Nat.le_trans b_1628 K_1631.1
  have K_1649 : Keep h0 h_1630 [a, e, p] := K_1629.trans K_1631 (allS (Or.inl (List.mem_of_getElem? (i := 2) rfl)) all0)
  refine Go.aloadN (pc' := 48) d6_47 rfl rfl rfl ?_
  refine Go.callP (pc' := 51) (argsL := []) (rest := []) (W := 0) (own_w hw 101 rfl) (own_w hw 102 rfl) (own_w hw 103 rfl) (own_w hw 16 rfl) (own_w hw 104 rfl) (own_w hw 33 rfl) rfl (by decide) f_1633 (m_cp l Z a0 hw a s_1600 h_1630 n0 z_1647 f_1639 f_1640 hs_1604) d6_48 rfl pd10 rfl rfl (Nat.le_of_eq rfl) (by decide) (by decide) (by decide) (by decide) rfl ?_
  rintro _ _ ⟨rfl, rfl⟩
  show Go _ _ _ _ _ _ _ _ _ _ _ _ h_1630 (0 + 0 + 0) (0 + 0 + 0) 51 #[.val (.ref a), .val (.int k), .val (.ref r), .val (.int 0), .val (.int 5), .val (.int 5), .val (.int 7)] []
  exact Go.ret0 d6_51 rfl ⟨rfl, ky_1599, s_1600, K_1649, f_1635, f_1636, f_1637, f_1638, f_1639, f_1640, f_1641, f_1642, A_1632⟩ (by decide) (by decide)
set_option maxRecDepth 65536 in
set_option maxHeartbeats 40000000 in
theorem m_set1_6 (l : Launch) (Z : State) (a0 : Array Value) (hw : ∀ d ∈ tables_1, d.before a0 Z = true) (a e p r : Addr) (ks k : Int32) (u0 u1 u2 u3 u4 u5 : Int32) (w0 w1 w2 w3 w4 w5 : Int32) (A : List Value) (h0 : Heap) (n0 : Nat) (z0 : n0 ≤ h0.size) (hE : Exa Z h0 a "com/example/nearword/nearword/internal/index/IntRuns") (hF0 : Fld Z h0 a "com/example/nearword/nearword/internal/index/IntRuns" "at" "[I" (.ref e)) (hF1 : Fld Z h0 a "com/example/nearword/nearword/internal/index/IntRuns" "pool" "[I" (.ref p)) (hF2 : Fld Z h0 a "com/example/nearword/nearword/internal/index/IntRuns" "mostInts" "I" (.int 1048576)) (hF3 : Fld Z h0 a "com/example/nearword/nearword/internal/index/IntRuns" "keys" "I" (.int ks)) (hF4 : Fld Z h0 a "com/example/nearword/nearword/internal/index/IntRuns" "poolLeft" "I" (.int 0)) (hF5 : Fld Z h0 a "com/example/nearword/nearword/internal/index/IntRuns" "poolSize" "I" (.int 7)) (hF6 : Fld Z h0 a "com/example/nearword/nearword/internal/index/IntRuns" "keysToCome" "I" (.int 0)) (hg : n0 ≤ a) (hA : Ary Z h0 e .int A) (hA16 : A.length = 16) (hk0 : 0 ≤ k.toInt) (hk : k.toInt ≤ 15) (hAk : A[k.toInt.toNat]? = some (.int (-1 : Int32))) (hge : n0 ≤ e) (hae : a ≠ e) (hB : Ary Z h0 p .int [(.int 6), (.int w0), (.int w1), (.int w2), (.int w3), (.int w4), (.int w5), (.int 0), (.int 0), (.int 0), (.int 0), (.int 0), (.int 0), (.int 0), (.int 0), (.int 0)]) (hgp : n0 ≤ p) (hap : a ≠ p) (hep : e ≠ p) (hR : Ary Z h0 r .int [(.int u0), (.int u1), (.int u2), (.int u3), (.int u4), (.int u5)]) (har : a ≠ r) (hre : r ≠ e) (hrp : r ≠ p) : Mt false l Z (⟨"com/example/nearword/nearword/internal/index/IntRuns", "set", "(I[III)V"⟩ : MethodName) prog_42_method_13_code 7 none ({ frames := 3, cells := 0, slots := 0, locals := 60 } : Room) n0 (fun v h => v = none ∧ ∃ ky s, Keep h0 h [a, e, p] ∧ Fld Z h a "com/example/nearword/nearword/internal/index/IntRuns" "at" "[I" (.ref e) ∧ Fld Z h a "com/example/nearword/nearword/internal/index/IntRuns" "pool" "[I" (.ref p) ∧ Fld Z h a "com/example/nearword/nearword/internal/index/IntRuns" "mostInts" "I" (.int 1048576) ∧ Fld Z h a "com/example/nearword/nearword/internal/index/IntRuns" "keys" "I" (.int ky) ∧ Fld Z h a "com/example/nearword/nearword/internal/index/IntRuns" "poolLeft" "I" (.int 0) ∧ Fld Z h a "com/example/nearword/nearword/internal/index/IntRuns" "poolSize" "I" (.int s) ∧ Fld Z h a "com/example/nearword/nearword/internal/index/IntRuns" "keysToCome" "I" (.int 0) ∧ Ary Z h e .int (A.set k.toInt.toNat (.int 7)) ∧ Ary Z h p .int [(.int 6), (.int w0), (.int w1), (.int w2), (.int w3), (.int w4), (.int w5), (.int 6), (.int u0), (.int u1), (.int u2), (.int u3), (.int u4), (.int u5), (.int 0), (.int 0)]) h0 #[(.ref a), (.int k), (.ref r), (.int 0), (.int 6)] := by
  refine Mt.go (Ls := #[.val (.ref a), .val (.int k), .val (.ref r), .val (.int 0), .val (.int 6), .unset, .unset]) (plainFor_of_name pn1) (fun m => by first | (simp [entryFrame, mkF, argsToLocals, Value.category]; done) | rfl) ?_
  show Go _ _ _ _ _ _ _ _ _ _ _ _ h0 0 0 0 #[.val (.ref a), .val (.int k), .val (.ref r), .val (.int 0), .val (.int 6), .unset, .unset] []
  have n_1650 : a ≠ e := by obtain ⟨_, Ag, -⟩ := hA; exact ne_arr hE (own_w hw 15 rfl) Ag
  have n_1651 : a ≠ p := by obtain ⟨_, Ag, -⟩ := hB; exact ne_arr hE (own_w hw 15 rfl) Ag
  have n_1652 : a ≠ r := by obtain ⟨_, Ag, -⟩ := hR; exact ne_arr hE (own_w hw 15 rfl) Ag
  refine Go.iload (pc' := 2) d6_0 rfl rfl ?_
  refine Go.iloadN (pc' := 3) d6_2 rfl rfl ?_
  refine Go.isub (pc' := 4) d6_3 rfl ?_
  show Go _ _ _ _ _ _ _ _ _ _ _ _ h0 0 0 4 #[.val (.ref a), .val (.int k), .val (.ref r), .val (.int 0), .val (.int 6), .unset, .unset] [(.int 6)]
  refine Go.iconst (pc' := 5) (v := (1 : Int32)) d6_4 rfl rfl ?_
  refine Go.icmp (pc1 := 17) (pc2 := 8) d6_5 (by decide) (by decide) rfl (fun (c_1653 : (6 : Int) ≠ (1 : Int)) => ?_) (fun (c_1653 : (6 : Int) = (1 : Int)) => ?_)
  rotate_left
  · exact absurd c_1653 (by decide)
  refine Go.iload (pc' := 19) d6_17 rfl rfl ?_
  refine Go.iloadN (pc' := 20) d6_19 rfl rfl ?_
  refine Go.isub (pc' := 21) d6_20 rfl ?_
  show Go _ _ _ _ _ _ _ _ _ _ _ _ h0 0 0 21 #[.val (.ref a), .val (.int k), .val (.ref r), .val (.int 0), .val (.int 6), .unset, .unset] [(.int 6)]
  refine Go.istore (pc' := 23) (Ls' := #[.val (.ref a), .val (.int k), .val (.ref r), .val (.int 0), .val (.int 6), .val (.int 6), .unset]) d6_21 rfl rfl ?_
  refine Go.aloadN (pc' := 24) d6_23 rfl rfl rfl ?_
  refine Go.iloadN (pc' := 25) d6_24 rfl rfl ?_
  refine Go.iload (pc' := 27) d6_25 rfl rfl ?_
  refine Go.callP (pc' := 30) (argsL := [(.int k), (.int 6)]) (rest := []) (W := 0) (own_w hw 114 rfl) (own_w hw 115 rfl) (own_w hw 116 rfl) (own_w hw 16 rfl) (own_w hw 117 rfl) (own_w hw 33 rfl) rfl (by decide) hE (m_pl1 l Z a0 hw a e p ks (7 : Int32) k (6 : Int32) A [(.int 6), (.int w0), (.int w1), (.int w2), (.int w3), (.int w4), (.int w5), (.int 0), (.int 0), (.int 0), (.int 0), (.int 0), (.int 0), (.int 0), (.int 0), (.int 0)] h0 n0 z0 hE hF0 hF1 hF2 hF3 hF4 hF5 hF6 hg hA hA16 hk0 hk hAk hge hae hB rfl hgp hap hep (by decide) (by decide) (by decide)) d6_27 rfl pd2 rfl rfl (Nat.le_of_eq rfl) (by decide) (by decide) (by decide) (by decide) rfl ?_
  rintro _ h_1654 ⟨rfl, ky_1655, s_1656, K_1657, F_1661, F_1662, F_1663, F_1664, F_1665, F_1666, F_1667, A_1658, A_1659, hs_1660⟩
  have f_1668 : Exa Z h_1654 a "com/example/nearword/nearword/internal/index/IntRuns" := hE.keep K_1657
  have f_1678 : Ary Z h_1654 r .int [(.int u0), (.int u1), (.int u2), (.int u3), (.int u4), (.int u5)] := hR.sm (Sm.keep K_1657 (ninS har.symm (ninS hre (ninS hrp nin0))))
  have t_1679 : a < h_1654.size := Nat.lt_of_lt_of_le hE.lt K_1657.1
  have t_1680 : e < h_1654.size := Nat.lt_of_lt_of_le hA.lt K_1657.1
  have t_1681 : p < h_1654.size := Nat.lt_of_lt_of_le hB.lt K_1657.1
  have t_1682 : r < h_1654.size := Nat.lt_of_lt_of_le hR.lt K_1657.1
  have z_1683 : n0 ≤ h_1654.size := Nat.le_trans z0 K_1657.1
  have b_1684 : h0.size ≤ h_1654.size := Nat.le_trans (Nat.le_refl _) K_1657.1
  have K_1685 : Keep h0 h_1654 [a, e, p] := (Keep.refl _ _).trans K_1657 (allS (Or.inl (List.mem_of_getElem? (i := 0) rfl)) (allS (Or.inl (List.mem_of_getElem? (i := 1) rfl)) (allS (Or.inl (List.mem_of_getElem? (i := 2) rfl)) all0)))
  change Ary Z h_1654 p .int [(.int 6), (.int w0), (.int w1), (.int w2), (.int w3), (.int w4), (.int w5), (.int 6), (.int 0), (.int 0), (.int 0), (.int 0), (.int 0), (.int 0), (.int 0), (.int 0)] at A_1659
  show Go _ _ _ _ _ _ _ _ _ _ _ _ h_1654 (0 + 0) (0 + 0) 30 #[.val (.ref a), .val (.int k), .val (.ref r), .val (.int 0), .val (.int 6), .val (.int 6), .unset] [(.int 7)]
  refine Go.istore (pc' := 32) (Ls' := #[.val (.ref a), .val (.int k), .val (.ref r), .val (.int 0), .val (.int 6), .val (.int 6), .val (.int 7)]) d6_30 rfl rfl ?_
  refine Go.aloadN (pc' := 33) d6_32 rfl rfl rfl ?_
  refine Go.iloadN (pc' := 34) d6_33 rfl rfl ?_
  refine Go.aloadN (pc' := 35) d6_34 rfl rfl rfl ?_
  refine Go.getF (pc' := 38) (own_w hw 26 rfl) F_1662 d6_35 rfl ?_
  refine Go.iload (pc' := 40) d6_38 rfl rfl ?_
  refine Go.iconst (pc' := 41) (v := (1 : Int32)) d6_40 rfl rfl ?_
  refine Go.iadd (pc' := 42) d6_41 rfl ?_
  show Go _ _ _ _ _ _ _ _ _ _ _ _ h_1654 (0 + 0) (0 + 0) 42 #[.val (.ref a), .val (.int k), .val (.ref r), .val (.int 0), .val (.int 6), .val (.int 6), .val (.int 7)] [(.int 8), (.ref p), (.int 0), (.ref r)]
  refine Go.iload (pc' := 44) d6_42 rfl rfl ?_
  refine Go.acopy (pc' := 47) (i1 := 0) (i2 := 8) (k := 6) (za := (6 : Int32)) (zb := (16 : Int32)) (W := 0) (res := [(.int 6), (.int w0), (.int w1), (.int w2), (.int w3), (.int w4), (.int w5), (.int 6), (.int u0), (.int u1), (.int u2), (.int u3), (.int u4), (.int u5), (.int 0), (.int 0)]) (own_w hw 125 rfl) (own_w hw 87 rfl) (own_w hw 85 rfl) (own_w hw 86 rfl) f_1678 A_1659 rfl (by intro v hv; simp only [List.mem_cons, List.not_mem_nil, or_false] at hv; rcases hv with rfl | rfl | rfl | rfl | rfl | rfl <;> rfl) (by intro v hv; simp only [List.mem_cons, List.not_mem_nil, or_false] at hv; rcases hv with rfl | rfl | rfl | rfl | rfl | rfl | rfl | rfl | rfl | rfl | rfl | rfl | rfl | rfl | rfl | rfl <;> rfl) rfl rfl rfl rfl rfl (by show 0 + 6 ≤ 6; decide) (by show 8 + 6 ≤ 16; decide) rfl hgp d6_44 rfl (by decide) (Nat.le_of_eq rfl) (by decide) rfl ?_
  intro h_1686 K_1687 A_1688
  have f_1689 : Exa Z h_1686 a "com/example/nearword/nearword/internal/index/IntRuns" := f_1668.sm (Sm.keep K_1687 (ninS hap nin0))
  have f_1690 : Ary Z h_1686 r .int [(.int u0), (.int u1), (.int u2), (.int u3), (.int u4), (.int u5)] := f_1678.sm (Sm.keep K_1687 (ninS hrp nin0))
  have f_1691 : Fld Z h_1686 a "com/example/nearword/nearword/internal/index/IntRuns" "at" "[I" (.ref e) := F_1661.sm (Sm.keep K_1687 (ninS hap nin0))
  have f_1692 : Fld Z h_1686 a "com/example/nearword/nearword/internal/index/IntRuns" "pool" "[I" (.ref p) := F_1662.sm (Sm.keep K_1687 (ninS hap nin0))
  have f_1693 : Fld Z h_1686 a "com/example/nearword/nearword/internal/index/IntRuns" "mostInts" "I" (.int 1048576) := F_1663.sm (Sm.keep K_1687 (ninS hap nin0))
  have f_1694 : Fld Z h_1686 a "com/example/nearword/nearword/internal/index/IntRuns" "keys" "I" (.int ky_1655) := F_1664.sm (Sm.keep K_1687 (ninS hap nin0))
  have f_1695 : Fld Z h_1686 a "com/example/nearword/nearword/internal/index/IntRuns" "poolLeft" "I" (.int 0) := F_1665.sm (Sm.keep K_1687 (ninS hap nin0))
  have f_1696 : Fld Z h_1686 a "com/example/nearword/nearword/internal/index/IntRuns" "poolSize" "I" (.int s_1656) := F_1666.sm (Sm.keep K_1687 (ninS hap nin0))
  have f_1697 : Fld Z h_1686 a "com/example/nearword/nearword/internal/index/IntRuns" "keysToCome" "I" (.int 0) := F_1667.sm (Sm.keep K_1687 (ninS hap nin0))
  have f_1698 : Ary Z h_1686 e .int (A.set k.toInt.toNat (.int 7)) := A_1658.sm (Sm.keep K_1687 (ninS hep nin0))
  have t_1699 : a < h_1686.size := Nat.lt_of_lt_of_le t_1679 K_1687.1
  have t_1700 : e < h_1686.size := Nat.lt_of_lt_of_le t_1680 K_1687.1
  have t_1701 : p < h_1686.size := Nat.lt_of_lt_of_le t_1681 K_1687.1
  have t_1702 : r < h_1686.size := Nat.lt_of_lt_of_le t_1682 K_1687.1
  have z_1703 : n0 ≤ h_1686.size := Nat.le_trans z_1683 K_1687.1
  have b_1704 : h0.size ≤ h_1686.size := Nat.le_trans b_1684 K_1687.1
  have K_1705 : Keep h0 h_1686 [a, e, p] := K_1685.trans K_1687 (allS (Or.inl (List.mem_of_getElem? (i := 2) rfl)) all0)
  refine Go.aloadN (pc' := 48) d6_47 rfl rfl rfl ?_
  refine Go.callP (pc' := 51) (argsL := []) (rest := []) (W := 0) (own_w hw 101 rfl) (own_w hw 102 rfl) (own_w hw 103 rfl) (own_w hw 16 rfl) (own_w hw 104 rfl) (own_w hw 33 rfl) rfl (by decide) f_1689 (m_cp l Z a0 hw a s_1656 h_1686 n0 z_1703 f_1695 f_1696 hs_1660) d6_48 rfl pd10 rfl rfl (Nat.le_of_eq rfl) (by decide) (by decide) (by decide) (by decide) rfl ?_
  rintro _ _ ⟨rfl, rfl⟩
  show Go _ _ _ _ _ _ _ _ _ _ _ _ h_1686 (0 + 0 + 0) (0 + 0 + 0) 51 #[.val (.ref a), .val (.int k), .val (.ref r), .val (.int 0), .val (.int 6), .val (.int 6), .val (.int 7)] []
  exact Go.ret0 d6_51 rfl ⟨rfl, ky_1655, s_1656, K_1705, f_1691, f_1692, f_1693, f_1694, f_1695, f_1696, f_1697, f_1698, A_1688⟩ (by decide) (by decide)
set_option maxRecDepth 65536 in
set_option maxHeartbeats 40000000 in
theorem m_ca1 (l : Launch) (Z : State) (a0 : Array Value) (hw : ∀ d ∈ tables_1, d.before a0 Z = true) (a e p q : Addr) (k c x : Int32) (A B : List Value) (Q : List Int32) (h0 : Heap) (n0 : Nat) (z0 : n0 ≤ h0.size) (hE : Exa Z h0 a "com/example/nearword/nearword/internal/index/IntRuns") (hF0 : Fld Z h0 a "com/example/nearword/nearword/internal/index/IntRuns" "at" "[I" (.ref e)) (hF1 : Fld Z h0 a "com/example/nearword/nearword/internal/index/IntRuns" "pool" "[I" (.ref p)) (hA : Ary Z h0 e .int A) (hB : Ary Z h0 p .int B) (hQ : Ary Z h0 q .int (Q.map Value.int)) (hk0 : 0 ≤ k.toInt) (hk : A[k.toInt.toNat]? = some (.int c)) (hQ6 : Q.length ≤ 6) (hx0 : 0 ≤ x.toInt) (hc : c.toInt = -2 - x.toInt) : Mt false l Z (⟨"com/example/nearword/nearword/internal/index/IntRuns", "containsAll", "(I[I)Z"⟩ : MethodName) prog_42_method_7_code 10 (some .boolean) ({ frames := 0, cells := 0, slots := 0, locals := 0 } : Room) n0 (fun v h => ∃ r : Int32, v = some (.int r) ∧ h0 = h ∧ (r.toInt = 0 ∨ r.toInt = 1) ∧ (r.toInt = 1 ↔ own_ca [x] Q = true)) h0 #[(.ref a), (.int k), (.ref q)] := by
  refine Mt.go (Ls := #[.val (.ref a), .val (.int k), .val (.ref q), .unset, .unset, .unset, .unset, .unset, .unset, .unset]) (plainFor_of_name pn1) (fun m => by first | (simp [entryFrame, mkF, argsToLocals, Value.category]; done) | rfl) ?_
  show Go _ _ _ _ _ _ _ _ _ _ _ _ h0 0 0 0 #[.val (.ref a), .val (.int k), .val (.ref q), .unset, .unset, .unset, .unset, .unset, .unset, .unset] []
  have n_1706 : a ≠ e := by obtain ⟨_, Ag, -⟩ := hA; exact ne_arr hE (own_w hw 15 rfl) Ag
  have n_1707 : a ≠ p := by obtain ⟨_, Ag, -⟩ := hB; exact ne_arr hE (own_w hw 15 rfl) Ag
  have n_1708 : a ≠ q := by obtain ⟨_, Ag, -⟩ := hQ; exact ne_arr hE (own_w hw 15 rfl) Ag
  refine Go.aloadN (pc' := 1) d22_0 rfl rfl rfl ?_
  refine Go.getF (pc' := 4) (own_w hw 24 rfl) hF0 d22_1 rfl ?_
  refine Go.iloadN (pc' := 5) d22_4 rfl rfl ?_
  refine Go.ldI (pc' := 6) (k := k.toInt.toNat) (v := (.int c)) hA (by omega) hk d22_5 rfl ?_
  refine Go.istoreN (pc' := 7) (Ls' := #[.val (.ref a), .val (.int k), .val (.ref q), .val (.int c), .unset, .unset, .unset, .unset, .unset, .unset]) d22_6 rfl rfl ?_
  refine Go.iloadN (pc' := 8) d22_7 rfl rfl ?_
  refine Go.ifc (pc1 := 38) (pc2 := 11) d22_8 (by decide) (by decide) rfl (fun (c_1709 : 0 ≤ c.toInt) => ?_) (fun (c_1709 : c.toInt < 0) => ?_)
  · exfalso; omega
  refine Go.aloadN (pc' := 12) d22_11 rfl rfl rfl ?_
  obtain ⟨ln, hln⟩ := own_i32 Q.length (by omega)
  refine Go.alen (pc' := 13) (z := ln) hQ (by rw [List.length_map]; exact hln) d22_12 rfl ?_
  refine Go.ifc (pc1 := 32) (pc2 := 16) d22_13 (by decide) (by decide) rfl (fun (c_1710 : ln.toInt = 0) => ?_) (fun (c_1710 : ln.toInt ≠ 0) => ?_)
  · refine Go.iconst (pc' := 33) (v := (1 : Int32)) d22_32 rfl rfl ?_
    refine Go.goto (pc' := 37) d22_33 (by decide) (by decide) ?_
    obtain rfl : Q = [] := List.eq_nil_of_length_eq_zero (by omega)
    exact Go.retN (t := .boolean) d22_37 rfl (by simp) rfl ⟨_, rfl, rfl, Or.inr rfl, ⟨fun _ => own_ca_nil _, fun _ => rfl⟩⟩ (by decide) (by decide)
  · refine Go.aloadN (pc' := 17) d22_16 rfl rfl rfl ?_
    refine Go.alen (pc' := 18) (z := ln) hQ (by rw [List.length_map]; exact hln) d22_17 rfl ?_
    refine Go.iconst (pc' := 19) (v := (1 : Int32)) d22_18 rfl rfl ?_
    refine Go.icmp (pc1 := 36) (pc2 := 22) d22_19 (by decide) (by decide) rfl (fun (c_1711 : ln.toInt ≠ (1 : Int)) => ?_) (fun (c_1711 : ln.toInt = (1 : Int)) => ?_)
    · refine Go.iconst (pc' := 37) (v := (0 : Int32)) d22_36 rfl rfl ?_
      exact Go.retN (t := .boolean) d22_37 rfl (by simp) rfl ⟨_, rfl, rfl, Or.inl rfl, ⟨fun z => absurd z (by decide), fun z => absurd ((own_ca_1m x Q (by omega)).symm.trans z) (by decide)⟩⟩ (by decide) (by decide)
    · obtain ⟨v, rfl⟩ : ∃ v, Q = [v] := List.length_eq_one_iff.mp (by omega)
      refine Go.aloadN (pc' := 23) d22_22 rfl rfl rfl ?_
      refine Go.iconst (pc' := 24) (v := (0 : Int32)) d22_23 rfl rfl ?_
      refine Go.ldI (pc' := 25) (k := 0) (v := (.int v)) hQ rfl rfl d22_24 rfl ?_
      refine Go.bipush (pc' := 27) (v := (-2 : Int32)) d22_25 rfl rfl ?_
      refine Go.iloadN (pc' := 28) d22_27 rfl rfl ?_
      refine Go.isub (pc' := 29) d22_28 rfl ?_
      generalize es_1712 : (-2 : Int32) - c = s_1712
      have k_1713 : s_1712.toInt = x.toInt := by
        rw [← es_1712]
        have : (-2 : Int32).toInt = -2 := by decide
        have := c_isub (-2 : Int32) c
        have := rng32 ((-2 : Int32) - c)
        have := rng32 c
        omega
      refine Go.icmp (pc1 := 36) (pc2 := 32) d22_29 (by decide) (by decide) rfl (fun (c_1714 : v.toInt ≠ s_1712.toInt) => ?_) (fun (c_1714 : v.toInt = s_1712.toInt) => ?_)
      · refine Go.iconst (pc' := 37) (v := (0 : Int32)) d22_36 rfl rfl ?_
        exact Go.retN (t := .boolean) d22_37 rfl (by simp) rfl ⟨_, rfl, rfl, Or.inl rfl, ⟨fun z => absurd z (by decide), fun z => absurd ((own_ca_11f (x := x) (v := v) (by omega)).symm.trans z) (by decide)⟩⟩ (by decide) (by decide)
      · refine Go.iconst (pc' := 33) (v := (1 : Int32)) d22_32 rfl rfl ?_
        refine Go.goto (pc' := 37) d22_33 (by decide) (by decide) ?_
        exact Go.retN (t := .boolean) d22_37 rfl (by simp) rfl ⟨_, rfl, rfl, Or.inr rfl, ⟨fun _ => own_ca_11t (by omega), fun _ => rfl⟩⟩ (by decide) (by decide)
set_option maxRecDepth 65536 in
set_option maxHeartbeats 40000000 in
theorem m_caN (l : Launch) (Z : State) (a0 : Array Value) (hw : ∀ d ∈ tables_1, d.before a0 Z = true) (a e p q : Addr) (k c n : Int32) (A B : List Value) (Q R : List Int32) (h0 : Heap) (n0 : Nat) (z0 : n0 ≤ h0.size) (hE : Exa Z h0 a "com/example/nearword/nearword/internal/index/IntRuns") (hF0 : Fld Z h0 a "com/example/nearword/nearword/internal/index/IntRuns" "at" "[I" (.ref e)) (hF1 : Fld Z h0 a "com/example/nearword/nearword/internal/index/IntRuns" "pool" "[I" (.ref p)) (hA : Ary Z h0 e .int A) (hB : Ary Z h0 p .int B) (hQ : Ary Z h0 q .int (Q.map Value.int)) (hk0 : 0 ≤ k.toInt) (hk : A[k.toInt.toNat]? = some (.int c)) (hQ6 : Q.length ≤ 6) (hc0 : 0 ≤ c.toInt) (hc : c.toInt ≤ 7) (hP0 : B[c.toInt.toNat]? = some (.int n)) (hn : n.toInt = (R.length : Int)) (hR6 : R.length ≤ 6) (hPn : ∀ (t : Nat) (x : Int32), R[t]? = some x → B[c.toInt.toNat + 1 + t]? = some (.int x)) : Mt false l Z (⟨"com/example/nearword/nearword/internal/index/IntRuns", "containsAll", "(I[I)Z"⟩ : MethodName) prog_42_method_7_code 10 (some .boolean) ({ frames := 0, cells := 0, slots := 0, locals := 0 } : Room) n0 (fun v h => ∃ r : Int32, v = some (.int r) ∧ h0 = h ∧ (r.toInt = 0 ∨ r.toInt = 1) ∧ (r.toInt = 1 ↔ own_ca R Q = true)) h0 #[(.ref a), (.int k), (.ref q)] := by
  refine Mt.go (Ls := #[.val (.ref a), .val (.int k), .val (.ref q), .unset, .unset, .unset, .unset, .unset, .unset, .unset]) (plainFor_of_name pn1) (fun m => by first | (simp [entryFrame, mkF, argsToLocals, Value.category]; done) | rfl) ?_
  show Go _ _ _ _ _ _ _ _ _ _ _ _ h0 0 0 0 #[.val (.ref a), .val (.int k), .val (.ref q), .unset, .unset, .unset, .unset, .unset, .unset, .unset] []
  have n_1715 : a ≠ e := by obtain ⟨_, Ag, -⟩ := hA; exact ne_arr hE (own_w hw 15 rfl) Ag
  have n_1716 : a ≠ p := by obtain ⟨_, Ag, -⟩ := hB; exact ne_arr hE (own_w hw 15 rfl) Ag
  have n_1717 : a ≠ q := by obtain ⟨_, Ag, -⟩ := hQ; exact ne_arr hE (own_w hw 15 rfl) Ag
  refine Go.aloadN (pc' := 1) d22_0 rfl rfl rfl ?_
  refine Go.getF (pc' := 4) (own_w hw 24 rfl) hF0 d22_1 rfl ?_
  refine Go.iloadN (pc' := 5) d22_4 rfl rfl ?_
  refine Go.ldI (pc' := 6) (k := k.toInt.toNat) (v := (.int c)) hA (by omega) hk d22_5 rfl ?_
  refine Go.istoreN (pc' := 7) (Ls' := #[.val (.ref a), .val (.int k), .val (.ref q), .val (.int c), .unset, .unset, .unset, .unset, .unset, .unset]) d22_6 rfl rfl ?_
  refine Go.iloadN (pc' := 8) d22_7 rfl rfl ?_
  refine Go.ifc (pc1 := 38) (pc2 := 11) d22_8 (by decide) (by decide) rfl (fun (c_1718 : 0 ≤ c.toInt) => ?_) (fun (c_1718 : c.toInt < 0) => ?_)
  rotate_left
  · exfalso; omega
  refine Go.iloadN (pc' := 39) d22_38 rfl rfl ?_
  refine Go.iconst (pc' := 40) (v := (1 : Int32)) d22_39 rfl rfl ?_
  refine Go.iadd (pc' := 41) d22_40 rfl ?_
  refine Go.aloadN (pc' := 42) d22_41 rfl rfl rfl ?_
  refine Go.getF (pc' := 45) (own_w hw 26 rfl) hF1 d22_42 rfl ?_
  refine Go.iloadN (pc' := 46) d22_45 rfl rfl ?_
  refine Go.ldI (pc' := 47) (k := c.toInt.toNat) (v := (.int n)) hB (by omega) hP0 d22_46 rfl ?_
  refine Go.iadd (pc' := 48) d22_47 rfl ?_
  generalize een_1719 : (c + (1 : Int32)) + n = en_1719
  have k_1720 : en_1719.toInt = c.toInt + 1 + n.toInt := by
    rw [← een_1719]
    have : (1 : Int32).toInt = 1 := by decide
    have := c_iadd c (1 : Int32)
    have := rng32 (c + (1 : Int32))
    have := rng32 c
    have := c_iadd (c + (1 : Int32)) n
    have := rng32 ((c + (1 : Int32)) + n)
    have := rng32 n
    omega
  refine Go.istore (pc' := 50) (Ls' := #[.val (.ref a), .val (.int k), .val (.ref q), .val (.int c), .val (.int en_1719), .unset, .unset, .unset, .unset, .unset]) d22_48 rfl rfl ?_
  refine Go.iloadN (pc' := 51) d22_50 rfl rfl ?_
  refine Go.iconst (pc' := 52) (v := (1 : Int32)) d22_51 rfl rfl ?_
  refine Go.iadd (pc' := 53) d22_52 rfl ?_
  generalize ei_1721 : c + (1 : Int32) = i_1721
  have k_1722 : i_1721.toInt = c.toInt + 1 := by
    rw [← ei_1721]
    have : (1 : Int32).toInt = 1 := by decide
    have := c_iadd c (1 : Int32)
    have := rng32 (c + (1 : Int32))
    have := rng32 c
    omega
  refine Go.istore (pc' := 55) (Ls' := #[.val (.ref a), .val (.int k), .val (.ref q), .val (.int c), .val (.int en_1719), .val (.int i_1721), .unset, .unset, .unset, .unset]) d22_53 rfl rfl ?_
  refine Go.aloadN (pc' := 56) d22_55 rfl rfl rfl ?_
  refine Go.astore (pc' := 58) (Ls' := #[.val (.ref a), .val (.int k), .val (.ref q), .val (.int c), .val (.int en_1719), .val (.int i_1721), .val (.ref q), .unset, .unset, .unset]) d22_56 rfl rfl rfl ?_
  refine Go.aload (pc' := 60) d22_58 rfl rfl rfl ?_
  obtain ⟨ln, hln⟩ := own_i32 Q.length (by omega)
  refine Go.alen (pc' := 61) (z := ln) hQ (by rw [List.length_map]; exact hln) d22_60 rfl ?_
  refine Go.istore (pc' := 63) (Ls' := #[.val (.ref a), .val (.int k), .val (.ref q), .val (.int c), .val (.int en_1719), .val (.int i_1721), .val (.ref q), .val (.int ln), .unset, .unset]) d22_61 rfl rfl ?_
  refine Go.iconst (pc' := 64) (v := (0 : Int32)) d22_63 rfl rfl ?_
  refine Go.istore (pc' := 66) (Ls' := #[.val (.ref a), .val (.int k), .val (.ref q), .val (.int c), .val (.int en_1719), .val (.int i_1721), .val (.ref q), .val (.int ln), .val (.int 0), .unset]) d22_64 rfl rfl ?_
  have outer : ∀ (Qr : List Int32) (i : Nat) (i8 i5 : Int32) (Rr : List Int32) (s9 : Slot), (s9 = .unset ∨ ∃ w9 : Int32, s9 = .val (.int w9)) → i8.toInt = (i : Int) → Q.drop i = Qr → i5.toInt + (Rr.length : Int) = en_1719.toInt → 0 ≤ i5.toInt → (∀ (t : Nat) (x : Int32), Rr[t]? = some x → B[i5.toInt.toNat + t]? = some (.int x)) → own_ca R Q = own_ca Rr Qr → (Go false l ({ frames := 0, cells := 0, slots := 0, locals := 0 } : Room) Z (⟨"com/example/nearword/nearword/internal/index/IntRuns", "containsAll", "(I[I)Z"⟩ : MethodName) prog_42_method_7_code 10 (some .boolean) n0 0 0 (fun v h => ∃ r : Int32, v = some (.int r) ∧ h0 = h ∧ (r.toInt = 0 ∨ r.toInt = 1) ∧ (r.toInt = 1 ↔ own_ca R Q = true))) h0 0 0 66 #[.val (.ref a), .val (.int k), .val (.ref q), .val (.int c), .val (.int en_1719), .val (.int i5), .val (.ref q), .val (.int ln), .val (.int i8), s9] [] := by
    intro Qr
    induction Qr with
    | nil =>
      intro i i8 i5 Rr s9 h9 h1 h2 h3 h4 h5 h6
      have hq : Q.length ≤ i := List.drop_eq_nil_iff.mp h2
      refine Go.iload (pc' := 68) d22_66 rfl rfl ?_
      refine Go.iload (pc' := 70) d22_68 rfl rfl ?_
      refine Go.icmp (pc1 := 135) (pc2 := 73) d22_70 (by decide) (by decide) rfl (fun (c_1723 : ln.toInt ≤ i8.toInt) => ?_) (fun (c_1723 : i8.toInt < ln.toInt) => ?_)
      rotate_left
      · exfalso; omega
      refine Go.iconst (pc' := 136) (v := (1 : Int32)) d22_135 rfl rfl ?_
      exact Go.retN (t := .boolean) d22_136 rfl (by simp) rfl ⟨_, rfl, rfl, Or.inr rfl, ⟨fun _ => h6.trans (own_ca_nil _), fun _ => rfl⟩⟩ (by decide) (by decide)
    | cons v Qr ih =>
      intro i i8 i5 Rr s9 h9 h1 h2 h3 h4 h5 h6
      have hq : Q[i]? = some v := by
        have q := congrArg (fun l : List Int32 => l[0]?) h2
        simpa using q
      have hlt : i < Q.length := (List.getElem?_eq_some_iff.mp hq).1
      have hd : Q.drop (i + 1) = Qr := by rw [← List.tail_drop, h2]; rfl
      refine Go.iload (pc' := 68) d22_66 rfl rfl ?_
      refine Go.iload (pc' := 70) d22_68 rfl rfl ?_
      refine Go.icmp (pc1 := 135) (pc2 := 73) d22_70 (by decide) (by decide) rfl (fun (c_1724 : ln.toInt ≤ i8.toInt) => ?_) (fun (c_1724 : i8.toInt < ln.toInt) => ?_)
      · exfalso; omega
      refine Go.aload (pc' := 75) d22_73 rfl rfl rfl ?_
      refine Go.iload (pc' := 77) d22_75 rfl rfl ?_
      refine Go.ldI (pc' := 78) (k := i) (v := (.int v)) hQ h1 (by rw [List.getElem?_map, hq]; rfl) d22_77 rfl ?_
      refine Go.istore (pc' := 80) (Ls' := #[.val (.ref a), .val (.int k), .val (.ref q), .val (.int c), .val (.int en_1719), .val (.int i5), .val (.ref q), .val (.int ln), .val (.int i8), .val (.int v)]) d22_78 (by rcases h9 with rfl | ⟨w9, rfl⟩ <;> rfl) rfl ?_
      clear h2 hq
      have inner : ∀ (Rr : List Int32) (i5 : Int32), i5.toInt + (Rr.length : Int) = en_1719.toInt → 0 ≤ i5.toInt → (∀ (t : Nat) (x : Int32), Rr[t]? = some x → B[i5.toInt.toNat + t]? = some (.int x)) → own_ca R Q = own_ca Rr (v :: Qr) → (Go false l ({ frames := 0, cells := 0, slots := 0, locals := 0 } : Room) Z (⟨"com/example/nearword/nearword/internal/index/IntRuns", "containsAll", "(I[I)Z"⟩ : MethodName) prog_42_method_7_code 10 (some .boolean) n0 0 0 (fun v h => ∃ r : Int32, v = some (.int r) ∧ h0 = h ∧ (r.toInt = 0 ∨ r.toInt = 1) ∧ (r.toInt = 1 ↔ own_ca R Q = true))) h0 0 0 80 #[.val (.ref a), .val (.int k), .val (.ref q), .val (.int c), .val (.int en_1719), .val (.int i5), .val (.ref q), .val (.int ln), .val (.int i8), .val (.int v)] [] := by
        intro Rr
        induction Rr with
        | nil =>
          intro i5 g3 g4 g5 g6
          have g0 : i5.toInt = en_1719.toInt := by simpa using g3
          refine Go.iload (pc' := 82) d22_80 rfl rfl ?_
          refine Go.iload (pc' := 84) d22_82 rfl rfl ?_
          refine Go.icmp (pc1 := 105) (pc2 := 87) d22_84 (by decide) (by decide) rfl (fun (c_1725 : en_1719.toInt ≤ i5.toInt) => ?_) (fun (c_1725 : i5.toInt < en_1719.toInt) => ?_)
          rotate_left
          · exfalso; omega
          refine Go.iload (pc' := 107) d22_105 rfl rfl ?_
          refine Go.iload (pc' := 109) d22_107 rfl rfl ?_
          refine Go.icmp (pc1 := 124) (pc2 := 112) d22_109 (by decide) (by decide) rfl (fun (c_1726 : i5.toInt = en_1719.toInt) => ?_) (fun (c_1726 : i5.toInt ≠ en_1719.toInt) => ?_)
          rotate_left
          · exfalso; omega
          refine Go.iconst (pc' := 125) (v := (0 : Int32)) d22_124 rfl rfl ?_
          exact Go.retN (t := .boolean) d22_125 rfl (by simp) rfl ⟨_, rfl, rfl, Or.inl rfl, ⟨fun z => absurd z (by decide), fun z => absurd ((g6.trans (own_ca_e _ _)).symm.trans z) (by decide)⟩⟩ (by decide) (by decide)
        | cons r Rr ihR =>
          intro i5 g3 g4 g5 g6
          have gl : i5.toInt + (Rr.length : Int) + 1 = en_1719.toInt := by simp only [List.length_cons] at g3; omega
          have gr : B[i5.toInt.toNat]? = some (.int r) := g5 0 r rfl
          have e1 : (i5 + (1 : Int32)).toInt = i5.toInt + 1 := by
            have := c_iadd i5 (1 : Int32)
            have := rng32 (i5 + (1 : Int32))
            have o : (1 : Int32).toInt = 1 := rfl
            omega
          have e8 : (i8 + (1 : Int32)).toInt = ((i + 1 : Nat) : Int) := by
            have := c_iadd i8 (1 : Int32)
            have := rng32 (i8 + (1 : Int32))
            have o : (1 : Int32).toInt = 1 := rfl
            omega
          have gs : (∀ (t : Nat) (x : Int32), Rr[t]? = some x → B[(i5 + (1 : Int32)).toInt.toNat + t]? = some (.int x)) := fun t x hx => by
            have q := g5 (t + 1) x hx
            rw [show (i5 + (1 : Int32)).toInt.toNat + t = i5.toInt.toNat + (t + 1) by omega]
            exact q
          refine Go.iload (pc' := 82) d22_80 rfl rfl ?_
          refine Go.iload (pc' := 84) d22_82 rfl rfl ?_
          refine Go.icmp (pc1 := 105) (pc2 := 87) d22_84 (by decide) (by decide) rfl (fun (c_1727 : en_1719.toInt ≤ i5.toInt) => ?_) (fun (c_1727 : i5.toInt < en_1719.toInt) => ?_)
          · exfalso; omega
          refine Go.aloadN (pc' := 88) d22_87 rfl rfl rfl ?_
          refine Go.getF (pc' := 91) (own_w hw 26 rfl) hF1 d22_88 rfl ?_
          refine Go.iload (pc' := 93) d22_91 rfl rfl ?_
          refine Go.ldI (pc' := 94) (k := i5.toInt.toNat) (v := (.int r)) hB (by omega) gr d22_93 rfl ?_
          refine Go.iload (pc' := 96) d22_94 rfl rfl ?_
          refine Go.icmp (pc1 := 105) (pc2 := 99) d22_96 (by decide) (by decide) rfl (fun (c_1728 : v.toInt ≤ r.toInt) => ?_) (fun (c_1728 : r.toInt < v.toInt) => ?_)
          · refine Go.iload (pc' := 107) d22_105 rfl rfl ?_
            refine Go.iload (pc' := 109) d22_107 rfl rfl ?_
            refine Go.icmp (pc1 := 124) (pc2 := 112) d22_109 (by decide) (by decide) rfl (fun (c_1729 : i5.toInt = en_1719.toInt) => ?_) (fun (c_1729 : i5.toInt ≠ en_1719.toInt) => ?_)
            · exfalso; omega
            refine Go.aloadN (pc' := 113) d22_112 rfl rfl rfl ?_
            refine Go.getF (pc' := 116) (own_w hw 26 rfl) hF1 d22_113 rfl ?_
            refine Go.iload (pc' := 118) d22_116 rfl rfl ?_
            refine Go.ldI (pc' := 119) (k := i5.toInt.toNat) (v := (.int r)) hB (by omega) gr d22_118 rfl ?_
            refine Go.iload (pc' := 121) d22_119 rfl rfl ?_
            refine Go.icmp (pc1 := 126) (pc2 := 124) d22_121 (by decide) (by decide) rfl (fun (c_1731 : r.toInt = v.toInt) => ?_) (fun (c_1731 : r.toInt ≠ v.toInt) => ?_)
            · refine Go.iinc (pc' := 129) (w := i5 + (1 : Int32)) (Ls' := #[.val (.ref a), .val (.int k), .val (.ref q), .val (.int c), .val (.int en_1719), .val (.int (i5 + (1 : Int32))), .val (.ref q), .val (.int ln), .val (.int i8), .val (.int v)]) d22_126 rfl rfl rfl rfl ?_
              refine Go.iinc (pc' := 132) (w := i8 + (1 : Int32)) (Ls' := #[.val (.ref a), .val (.int k), .val (.ref q), .val (.int c), .val (.int en_1719), .val (.int (i5 + (1 : Int32))), .val (.ref q), .val (.int ln), .val (.int (i8 + (1 : Int32))), .val (.int v)]) d22_129 rfl rfl rfl rfl ?_
              refine Go.goto (pc' := 66) d22_132 (by decide) (by decide) ?_
              exact ih (i + 1) _ _ Rr _ (Or.inr ⟨_, rfl⟩) e8 hd (by omega) (by omega) gs (g6.trans (own_ca_eq _ _ c_1731))
            · refine Go.iconst (pc' := 125) (v := (0 : Int32)) d22_124 rfl rfl ?_
              exact Go.retN (t := .boolean) d22_125 rfl (by simp) rfl ⟨_, rfl, rfl, Or.inl rfl, ⟨fun z => absurd z (by decide), fun z => absurd ((g6.trans (own_ca_gt _ _ (by omega))).symm.trans z) (by decide)⟩⟩ (by decide) (by decide)
          · refine Go.iinc (pc' := 102) (w := i5 + (1 : Int32)) (Ls' := #[.val (.ref a), .val (.int k), .val (.ref q), .val (.int c), .val (.int en_1719), .val (.int (i5 + (1 : Int32))), .val (.ref q), .val (.int ln), .val (.int i8), .val (.int v)]) d22_99 rfl rfl rfl rfl ?_
            refine Go.goto (pc' := 80) d22_102 (by decide) (by decide) ?_
            exact ihR (i5 + (1 : Int32)) (by omega) (by omega) gs (g6.trans (own_ca_lt _ _ c_1728))
      exact inner Rr i5 h3 h4 h5 h6
  exact outer Q 0 _ i_1721 R _ (Or.inl rfl) rfl rfl (by omega) (by omega) (fun t x hx => by rw [show i_1721.toInt.toNat + t = c.toInt.toNat + 1 + t by omega]; exact hPn t x hx) rfl
set_option maxRecDepth 65536 in
set_option maxHeartbeats 40000000 in
theorem m_pick (l : Launch) (Z : State) (a0 : Array Value) (hw : ∀ d ∈ tables_1, d.before a0 Z = true) (c o : Addr) (m : Int32) (v0 v1 v2 v3 v4 v5 : Int32) (h0 : Heap) (n0 : Nat) (z0 : n0 ≤ h0.size) (hC : Ary Z h0 c .int [(.int v0), (.int v1), (.int v2), (.int v3), (.int v4), (.int v5)]) (hO : Ary Z h0 o .int [(.int 0), (.int 0), (.int 0), (.int 0), (.int 0), (.int 0)]) (hg : n0 ≤ o) (hco : c ≠ o) : Mt false l Z (⟨"com/example/nearword/nearword/internal/index/IntRunsContainsAllPinLaw", "pick", "([II[I)I"⟩ : MethodName) method_3_code 4 (some .int) ({ frames := 0, cells := 0, slots := 0, locals := 0 } : Room) n0 (fun v h => ∃ n : Int32, v = some (.int n) ∧ Keep h0 h [o] ∧ Ary Z h o .int (own_pad (own_pk m v0 v1 v2 v3 v4 v5)) ∧ n.toInt = ((own_pk m v0 v1 v2 v3 v4 v5).length : Int) ∧ (own_pk m v0 v1 v2 v3 v4 v5).length ≤ 6) h0 #[(.ref c), (.int m), (.ref o)] := by
  refine Mt.go (Ls := #[.val (.ref c), .val (.int m), .val (.ref o), .unset]) (plainFor_of_name pn2) (fun m => by first | (simp [entryFrame, mkF, argsToLocals, Value.category]; done) | rfl) ?_
  show Go _ _ _ _ _ _ _ _ _ _ _ _ h0 0 0 0 #[.val (.ref c), .val (.int m), .val (.ref o), .unset] []
  refine Go.iconst (pc' := 1) (v := (0 : Int32)) d2_0 rfl rfl ?_
  refine Go.istoreN (pc' := 2) (Ls' := #[.val (.ref c), .val (.int m), .val (.ref o), .val (.int 0)]) d2_1 rfl rfl ?_
  have J6 : ∀ (h1 : Heap) (n : Int32) (L : List Int32), n0 ≤ h1.size → Keep h0 h1 [o] → Ary Z h1 c .int [(.int v0), (.int v1), (.int v2), (.int v3), (.int v4), (.int v5)] → Ary Z h1 o .int (own_pad L) → n.toInt = (L.length : Int) → L.length ≤ 6 → own_pk m v0 v1 v2 v3 v4 v5 = L → (Go false l ({ frames := 0, cells := 0, slots := 0, locals := 0 } : Room) Z (⟨"com/example/nearword/nearword/internal/index/IntRunsContainsAllPinLaw", "pick", "([II[I)I"⟩ : MethodName) method_3_code 4 (some .int) n0 0 0 (fun v h => ∃ n : Int32, v = some (.int n) ∧ Keep h0 h [o] ∧ Ary Z h o .int (own_pad (own_pk m v0 v1 v2 v3 v4 v5)) ∧ n.toInt = ((own_pk m v0 v1 v2 v3 v4 v5).length : Int) ∧ (own_pk m v0 v1 v2 v3 v4 v5).length ≤ 6)) h1 0 0 95 #[.val (.ref c), .val (.int m), .val (.ref o), .val (.int n)] [] := by
    intro h1 n L z1 K1 hC1 hO1 hn hL hf
    refine Go.iloadN (pc' := 96) d2_95 rfl rfl ?_
    exact Go.retI d2_96 rfl ⟨_, rfl, K1, hf ▸ hO1, by rw [hf]; exact hn, by rw [hf]; exact hL⟩ (by decide) (by decide)
  have J5 : ∀ (h1 : Heap) (n : Int32) (L : List Int32), n0 ≤ h1.size → Keep h0 h1 [o] → Ary Z h1 c .int [(.int v0), (.int v1), (.int v2), (.int v3), (.int v4), (.int v5)] → Ary Z h1 o .int (own_pad L) → n.toInt = (L.length : Int) → L.length ≤ 5 → own_pk m v0 v1 v2 v3 v4 v5 = own_ap (own_bit m (32 : Int32)) L v5 → (Go false l ({ frames := 0, cells := 0, slots := 0, locals := 0 } : Room) Z (⟨"com/example/nearword/nearword/internal/index/IntRunsContainsAllPinLaw", "pick", "([II[I)I"⟩ : MethodName) method_3_code 4 (some .int) n0 0 0 (fun v h => ∃ n : Int32, v = some (.int n) ∧ Keep h0 h [o] ∧ Ary Z h o .int (own_pad (own_pk m v0 v1 v2 v3 v4 v5)) ∧ n.toInt = ((own_pk m v0 v1 v2 v3 v4 v5).length : Int) ∧ (own_pk m v0 v1 v2 v3 v4 v5).length ≤ 6)) h1 0 0 79 #[.val (.ref c), .val (.int m), .val (.ref o), .val (.int n)] [] := by
    intro h1 n L z1 K1 hC1 hO1 hn hL hf
    refine Go.iloadN (pc' := 80) d2_79 rfl rfl ?_
    refine Go.bipush (pc' := 82) (v := (32 : Int32)) d2_80 rfl rfl ?_
    refine Go.iand (pc' := 83) d2_82 rfl ?_
    refine Go.ifc (pc1 := 95) (pc2 := 86) d2_83 (by decide) (by decide) rfl (fun (c_1732 : (m &&& (32 : Int32)).toInt = 0) => ?_) (fun (c_1732 : (m &&& (32 : Int32)).toInt ≠ 0) => ?_)
    · exact J6 h1 n L z1 K1 hC1 hO1 hn (by omega) (hf.trans (congrArg (fun b => b) (own_ap_f c_1732 L v5)))
    · refine Go.aloadN (pc' := 87) d2_86 rfl rfl rfl ?_
      refine Go.iloadN (pc' := 88) d2_87 rfl rfl ?_
      refine Go.aloadN (pc' := 89) d2_88 rfl rfl rfl ?_
      refine Go.iconst (pc' := 90) (v := (5 : Int32)) d2_89 rfl rfl ?_
      refine Go.ldI (pc' := 91) (k := 5) (v := (.int v5)) hC1 rfl rfl d2_90 rfl ?_
      refine Go.stI (pc' := 92) (k := L.length) hO1 hn (by rw [own_pad_len L (by omega)]; omega) d2_91 hg rfl ?_
      intro h_1733 W_1734 A_1735
      have f_1736 : Ary Z h_1733 c .int [(.int v0), (.int v1), (.int v2), (.int v3), (.int v4), (.int v5)] := hC1.sm (Sm.wr W_1734 hco)
      have t_1737 : c < h_1733.size := Nat.lt_of_lt_of_le hC1.lt (Nat.le_of_eq W_1734.size.symm)
      have t_1738 : o < h_1733.size := Nat.lt_of_lt_of_le hO1.lt (Nat.le_of_eq W_1734.size.symm)
      have z_1739 : n0 ≤ h_1733.size := Nat.le_trans z1 (Nat.le_of_eq W_1734.size.symm)
      have b_1740 : h0.size ≤ h_1733.size := Nat.le_trans K1.1 (Nat.le_of_eq W_1734.size.symm)
      have K_1741 : Keep h0 h_1733 [o] := K1.wr W_1734 (Or.inl (List.mem_of_getElem? (i := 0) rfl))
      have y_1742 : Ary Z h_1733 o .int (own_pad (L ++ [v5])) := A_1735.eq (own_pad_set L v5 (by omega))
      refine Go.iinc (pc' := 95) (w := n + (1 : Int32)) (Ls' := #[.val (.ref c), .val (.int m), .val (.ref o), .val (.int (n + (1 : Int32)))]) d2_92 rfl rfl rfl rfl ?_
      have en : (n + (1 : Int32)).toInt = ((L ++ [v5]).length : Int) := by
        have := c_iadd n (1 : Int32)
        have := rng32 (n + (1 : Int32))
        have o1 : (1 : Int32).toInt = 1 := rfl
        rw [List.length_append]; simp only [List.length_cons, List.length_nil]; omega
      exact J6 h_1733 _ (L ++ [v5]) z_1739 K_1741 f_1736 y_1742 en (by rw [List.length_append]; simp only [List.length_cons, List.length_nil]; omega) (hf.trans (congrArg (fun b => b) (own_ap_t c_1732 L v5)))
  have J4 : ∀ (h1 : Heap) (n : Int32) (L : List Int32), n0 ≤ h1.size → Keep h0 h1 [o] → Ary Z h1 c .int [(.int v0), (.int v1), (.int v2), (.int v3), (.int v4), (.int v5)] → Ary Z h1 o .int (own_pad L) → n.toInt = (L.length : Int) → L.length ≤ 4 → own_pk m v0 v1 v2 v3 v4 v5 = own_ap (own_bit m (32 : Int32)) (own_ap (own_bit m (16 : Int32)) L v4) v5 → (Go false l ({ frames := 0, cells := 0, slots := 0, locals := 0 } : Room) Z (⟨"com/example/nearword/nearword/internal/index/IntRunsContainsAllPinLaw", "pick", "([II[I)I"⟩ : MethodName) method_3_code 4 (some .int) n0 0 0 (fun v h => ∃ n : Int32, v = some (.int n) ∧ Keep h0 h [o] ∧ Ary Z h o .int (own_pad (own_pk m v0 v1 v2 v3 v4 v5)) ∧ n.toInt = ((own_pk m v0 v1 v2 v3 v4 v5).length : Int) ∧ (own_pk m v0 v1 v2 v3 v4 v5).length ≤ 6)) h1 0 0 63 #[.val (.ref c), .val (.int m), .val (.ref o), .val (.int n)] [] := by
    intro h1 n L z1 K1 hC1 hO1 hn hL hf
    refine Go.iloadN (pc' := 64) d2_63 rfl rfl ?_
    refine Go.bipush (pc' := 66) (v := (16 : Int32)) d2_64 rfl rfl ?_
    refine Go.iand (pc' := 67) d2_66 rfl ?_
    refine Go.ifc (pc1 := 79) (pc2 := 70) d2_67 (by decide) (by decide) rfl (fun (c_1743 : (m &&& (16 : Int32)).toInt = 0) => ?_) (fun (c_1743 : (m &&& (16 : Int32)).toInt ≠ 0) => ?_)
    · exact J5 h1 n L z1 K1 hC1 hO1 hn (by omega) (hf.trans (congrArg (fun b => own_ap (own_bit m (32 : Int32)) b v5) (own_ap_f c_1743 L v4)))
    · refine Go.aloadN (pc' := 71) d2_70 rfl rfl rfl ?_
      refine Go.iloadN (pc' := 72) d2_71 rfl rfl ?_
      refine Go.aloadN (pc' := 73) d2_72 rfl rfl rfl ?_
      refine Go.iconst (pc' := 74) (v := (4 : Int32)) d2_73 rfl rfl ?_
      refine Go.ldI (pc' := 75) (k := 4) (v := (.int v4)) hC1 rfl rfl d2_74 rfl ?_
      refine Go.stI (pc' := 76) (k := L.length) hO1 hn (by rw [own_pad_len L (by omega)]; omega) d2_75 hg rfl ?_
      intro h_1744 W_1745 A_1746
      have f_1747 : Ary Z h_1744 c .int [(.int v0), (.int v1), (.int v2), (.int v3), (.int v4), (.int v5)] := hC1.sm (Sm.wr W_1745 hco)
      have t_1748 : c < h_1744.size := Nat.lt_of_lt_of_le hC1.lt (Nat.le_of_eq W_1745.size.symm)
      have t_1749 : o < h_1744.size := Nat.lt_of_lt_of_le hO1.lt (Nat.le_of_eq W_1745.size.symm)
      have z_1750 : n0 ≤ h_1744.size := Nat.le_trans z1 (Nat.le_of_eq W_1745.size.symm)
      have b_1751 : h0.size ≤ h_1744.size := Nat.le_trans K1.1 (Nat.le_of_eq W_1745.size.symm)
      have K_1752 : Keep h0 h_1744 [o] := K1.wr W_1745 (Or.inl (List.mem_of_getElem? (i := 0) rfl))
      have y_1753 : Ary Z h_1744 o .int (own_pad (L ++ [v4])) := A_1746.eq (own_pad_set L v4 (by omega))
      refine Go.iinc (pc' := 79) (w := n + (1 : Int32)) (Ls' := #[.val (.ref c), .val (.int m), .val (.ref o), .val (.int (n + (1 : Int32)))]) d2_76 rfl rfl rfl rfl ?_
      have en : (n + (1 : Int32)).toInt = ((L ++ [v4]).length : Int) := by
        have := c_iadd n (1 : Int32)
        have := rng32 (n + (1 : Int32))
        have o1 : (1 : Int32).toInt = 1 := rfl
        rw [List.length_append]; simp only [List.length_cons, List.length_nil]; omega
      exact J5 h_1744 _ (L ++ [v4]) z_1750 K_1752 f_1747 y_1753 en (by rw [List.length_append]; simp only [List.length_cons, List.length_nil]; omega) (hf.trans (congrArg (fun b => own_ap (own_bit m (32 : Int32)) b v5) (own_ap_t c_1743 L v4)))
  have J3 : ∀ (h1 : Heap) (n : Int32) (L : List Int32), n0 ≤ h1.size → Keep h0 h1 [o] → Ary Z h1 c .int [(.int v0), (.int v1), (.int v2), (.int v3), (.int v4), (.int v5)] → Ary Z h1 o .int (own_pad L) → n.toInt = (L.length : Int) → L.length ≤ 3 → own_pk m v0 v1 v2 v3 v4 v5 = own_ap (own_bit m (32 : Int32)) (own_ap (own_bit m (16 : Int32)) (own_ap (own_bit m (8 : Int32)) L v3) v4) v5 → (Go false l ({ frames := 0, cells := 0, slots := 0, locals := 0 } : Room) Z (⟨"com/example/nearword/nearword/internal/index/IntRunsContainsAllPinLaw", "pick", "([II[I)I"⟩ : MethodName) method_3_code 4 (some .int) n0 0 0 (fun v h => ∃ n : Int32, v = some (.int n) ∧ Keep h0 h [o] ∧ Ary Z h o .int (own_pad (own_pk m v0 v1 v2 v3 v4 v5)) ∧ n.toInt = ((own_pk m v0 v1 v2 v3 v4 v5).length : Int) ∧ (own_pk m v0 v1 v2 v3 v4 v5).length ≤ 6)) h1 0 0 47 #[.val (.ref c), .val (.int m), .val (.ref o), .val (.int n)] [] := by
    intro h1 n L z1 K1 hC1 hO1 hn hL hf
    refine Go.iloadN (pc' := 48) d2_47 rfl rfl ?_
    refine Go.bipush (pc' := 50) (v := (8 : Int32)) d2_48 rfl rfl ?_
    refine Go.iand (pc' := 51) d2_50 rfl ?_
    refine Go.ifc (pc1 := 63) (pc2 := 54) d2_51 (by decide) (by decide) rfl (fun (c_1754 : (m &&& (8 : Int32)).toInt = 0) => ?_) (fun (c_1754 : (m &&& (8 : Int32)).toInt ≠ 0) => ?_)
    · exact J4 h1 n L z1 K1 hC1 hO1 hn (by omega) (hf.trans (congrArg (fun b => own_ap (own_bit m (32 : Int32)) (own_ap (own_bit m (16 : Int32)) b v4) v5) (own_ap_f c_1754 L v3)))
    · refine Go.aloadN (pc' := 55) d2_54 rfl rfl rfl ?_
      refine Go.iloadN (pc' := 56) d2_55 rfl rfl ?_
      refine Go.aloadN (pc' := 57) d2_56 rfl rfl rfl ?_
      refine Go.iconst (pc' := 58) (v := (3 : Int32)) d2_57 rfl rfl ?_
      refine Go.ldI (pc' := 59) (k := 3) (v := (.int v3)) hC1 rfl rfl d2_58 rfl ?_
      refine Go.stI (pc' := 60) (k := L.length) hO1 hn (by rw [own_pad_len L (by omega)]; omega) d2_59 hg rfl ?_
      intro h_1755 W_1756 A_1757
      have f_1758 : Ary Z h_1755 c .int [(.int v0), (.int v1), (.int v2), (.int v3), (.int v4), (.int v5)] := hC1.sm (Sm.wr W_1756 hco)
      have t_1759 : c < h_1755.size := Nat.lt_of_lt_of_le hC1.lt (Nat.le_of_eq W_1756.size.symm)
      have t_1760 : o < h_1755.size := Nat.lt_of_lt_of_le hO1.lt (Nat.le_of_eq W_1756.size.symm)
      have z_1761 : n0 ≤ h_1755.size := Nat.le_trans z1 (Nat.le_of_eq W_1756.size.symm)
      have b_1762 : h0.size ≤ h_1755.size := Nat.le_trans K1.1 (Nat.le_of_eq W_1756.size.symm)
      have K_1763 : Keep h0 h_1755 [o] := K1.wr W_1756 (Or.inl (List.mem_of_getElem? (i := 0) rfl))
      have y_1764 : Ary Z h_1755 o .int (own_pad (L ++ [v3])) := A_1757.eq (own_pad_set L v3 (by omega))
      refine Go.iinc (pc' := 63) (w := n + (1 : Int32)) (Ls' := #[.val (.ref c), .val (.int m), .val (.ref o), .val (.int (n + (1 : Int32)))]) d2_60 rfl rfl rfl rfl ?_
      have en : (n + (1 : Int32)).toInt = ((L ++ [v3]).length : Int) := by
        have := c_iadd n (1 : Int32)
        have := rng32 (n + (1 : Int32))
        have o1 : (1 : Int32).toInt = 1 := rfl
        rw [List.length_append]; simp only [List.length_cons, List.length_nil]; omega
      exact J4 h_1755 _ (L ++ [v3]) z_1761 K_1763 f_1758 y_1764 en (by rw [List.length_append]; simp only [List.length_cons, List.length_nil]; omega) (hf.trans (congrArg (fun b => own_ap (own_bit m (32 : Int32)) (own_ap (own_bit m (16 : Int32)) b v4) v5) (own_ap_t c_1754 L v3)))
  have J2 : ∀ (h1 : Heap) (n : Int32) (L : List Int32), n0 ≤ h1.size → Keep h0 h1 [o] → Ary Z h1 c .int [(.int v0), (.int v1), (.int v2), (.int v3), (.int v4), (.int v5)] → Ary Z h1 o .int (own_pad L) → n.toInt = (L.length : Int) → L.length ≤ 2 → own_pk m v0 v1 v2 v3 v4 v5 = own_ap (own_bit m (32 : Int32)) (own_ap (own_bit m (16 : Int32)) (own_ap (own_bit m (8 : Int32)) (own_ap (own_bit m (4 : Int32)) L v2) v3) v4) v5 → (Go false l ({ frames := 0, cells := 0, slots := 0, locals := 0 } : Room) Z (⟨"com/example/nearword/nearword/internal/index/IntRunsContainsAllPinLaw", "pick", "([II[I)I"⟩ : MethodName) method_3_code 4 (some .int) n0 0 0 (fun v h => ∃ n : Int32, v = some (.int n) ∧ Keep h0 h [o] ∧ Ary Z h o .int (own_pad (own_pk m v0 v1 v2 v3 v4 v5)) ∧ n.toInt = ((own_pk m v0 v1 v2 v3 v4 v5).length : Int) ∧ (own_pk m v0 v1 v2 v3 v4 v5).length ≤ 6)) h1 0 0 32 #[.val (.ref c), .val (.int m), .val (.ref o), .val (.int n)] [] := by
    intro h1 n L z1 K1 hC1 hO1 hn hL hf
    refine Go.iloadN (pc' := 33) d2_32 rfl rfl ?_
    refine Go.iconst (pc' := 34) (v := (4 : Int32)) d2_33 rfl rfl ?_
    refine Go.iand (pc' := 35) d2_34 rfl ?_
    refine Go.ifc (pc1 := 47) (pc2 := 38) d2_35 (by decide) (by decide) rfl (fun (c_1765 : (m &&& (4 : Int32)).toInt = 0) => ?_) (fun (c_1765 : (m &&& (4 : Int32)).toInt ≠ 0) => ?_)
    · exact J3 h1 n L z1 K1 hC1 hO1 hn (by omega) (hf.trans (congrArg (fun b => own_ap (own_bit m (32 : Int32)) (own_ap (own_bit m (16 : Int32)) (own_ap (own_bit m (8 : Int32)) b v3) v4) v5) (own_ap_f c_1765 L v2)))
    · refine Go.aloadN (pc' := 39) d2_38 rfl rfl rfl ?_
      refine Go.iloadN (pc' := 40) d2_39 rfl rfl ?_
      refine Go.aloadN (pc' := 41) d2_40 rfl rfl rfl ?_
      refine Go.iconst (pc' := 42) (v := (2 : Int32)) d2_41 rfl rfl ?_
      refine Go.ldI (pc' := 43) (k := 2) (v := (.int v2)) hC1 rfl rfl d2_42 rfl ?_
      refine Go.stI (pc' := 44) (k := L.length) hO1 hn (by rw [own_pad_len L (by omega)]; omega) d2_43 hg rfl ?_
      intro h_1766 W_1767 A_1768
      have f_1769 : Ary Z h_1766 c .int [(.int v0), (.int v1), (.int v2), (.int v3), (.int v4), (.int v5)] := hC1.sm (Sm.wr W_1767 hco)
      have t_1770 : c < h_1766.size := Nat.lt_of_lt_of_le hC1.lt (Nat.le_of_eq W_1767.size.symm)
      have t_1771 : o < h_1766.size := Nat.lt_of_lt_of_le hO1.lt (Nat.le_of_eq W_1767.size.symm)
      have z_1772 : n0 ≤ h_1766.size := Nat.le_trans z1 (Nat.le_of_eq W_1767.size.symm)
      have b_1773 : h0.size ≤ h_1766.size := Nat.le_trans K1.1 (Nat.le_of_eq W_1767.size.symm)
      have K_1774 : Keep h0 h_1766 [o] := K1.wr W_1767 (Or.inl (List.mem_of_getElem? (i := 0) rfl))
      have y_1775 : Ary Z h_1766 o .int (own_pad (L ++ [v2])) := A_1768.eq (own_pad_set L v2 (by omega))
      refine Go.iinc (pc' := 47) (w := n + (1 : Int32)) (Ls' := #[.val (.ref c), .val (.int m), .val (.ref o), .val (.int (n + (1 : Int32)))]) d2_44 rfl rfl rfl rfl ?_
      have en : (n + (1 : Int32)).toInt = ((L ++ [v2]).length : Int) := by
        have := c_iadd n (1 : Int32)
        have := rng32 (n + (1 : Int32))
        have o1 : (1 : Int32).toInt = 1 := rfl
        rw [List.length_append]; simp only [List.length_cons, List.length_nil]; omega
      exact J3 h_1766 _ (L ++ [v2]) z_1772 K_1774 f_1769 y_1775 en (by rw [List.length_append]; simp only [List.length_cons, List.length_nil]; omega) (hf.trans (congrArg (fun b => own_ap (own_bit m (32 : Int32)) (own_ap (own_bit m (16 : Int32)) (own_ap (own_bit m (8 : Int32)) b v3) v4) v5) (own_ap_t c_1765 L v2)))
  have J1 : ∀ (h1 : Heap) (n : Int32) (L : List Int32), n0 ≤ h1.size → Keep h0 h1 [o] → Ary Z h1 c .int [(.int v0), (.int v1), (.int v2), (.int v3), (.int v4), (.int v5)] → Ary Z h1 o .int (own_pad L) → n.toInt = (L.length : Int) → L.length ≤ 1 → own_pk m v0 v1 v2 v3 v4 v5 = own_ap (own_bit m (32 : Int32)) (own_ap (own_bit m (16 : Int32)) (own_ap (own_bit m (8 : Int32)) (own_ap (own_bit m (4 : Int32)) (own_ap (own_bit m (2 : Int32)) L v1) v2) v3) v4) v5 → (Go false l ({ frames := 0, cells := 0, slots := 0, locals := 0 } : Room) Z (⟨"com/example/nearword/nearword/internal/index/IntRunsContainsAllPinLaw", "pick", "([II[I)I"⟩ : MethodName) method_3_code 4 (some .int) n0 0 0 (fun v h => ∃ n : Int32, v = some (.int n) ∧ Keep h0 h [o] ∧ Ary Z h o .int (own_pad (own_pk m v0 v1 v2 v3 v4 v5)) ∧ n.toInt = ((own_pk m v0 v1 v2 v3 v4 v5).length : Int) ∧ (own_pk m v0 v1 v2 v3 v4 v5).length ≤ 6)) h1 0 0 17 #[.val (.ref c), .val (.int m), .val (.ref o), .val (.int n)] [] := by
    intro h1 n L z1 K1 hC1 hO1 hn hL hf
    refine Go.iloadN (pc' := 18) d2_17 rfl rfl ?_
    refine Go.iconst (pc' := 19) (v := (2 : Int32)) d2_18 rfl rfl ?_
    refine Go.iand (pc' := 20) d2_19 rfl ?_
    refine Go.ifc (pc1 := 32) (pc2 := 23) d2_20 (by decide) (by decide) rfl (fun (c_1776 : (m &&& (2 : Int32)).toInt = 0) => ?_) (fun (c_1776 : (m &&& (2 : Int32)).toInt ≠ 0) => ?_)
    · exact J2 h1 n L z1 K1 hC1 hO1 hn (by omega) (hf.trans (congrArg (fun b => own_ap (own_bit m (32 : Int32)) (own_ap (own_bit m (16 : Int32)) (own_ap (own_bit m (8 : Int32)) (own_ap (own_bit m (4 : Int32)) b v2) v3) v4) v5) (own_ap_f c_1776 L v1)))
    · refine Go.aloadN (pc' := 24) d2_23 rfl rfl rfl ?_
      refine Go.iloadN (pc' := 25) d2_24 rfl rfl ?_
      refine Go.aloadN (pc' := 26) d2_25 rfl rfl rfl ?_
      refine Go.iconst (pc' := 27) (v := (1 : Int32)) d2_26 rfl rfl ?_
      refine Go.ldI (pc' := 28) (k := 1) (v := (.int v1)) hC1 rfl rfl d2_27 rfl ?_
      refine Go.stI (pc' := 29) (k := L.length) hO1 hn (by rw [own_pad_len L (by omega)]; omega) d2_28 hg rfl ?_
      intro h_1777 W_1778 A_1779
      have f_1780 : Ary Z h_1777 c .int [(.int v0), (.int v1), (.int v2), (.int v3), (.int v4), (.int v5)] := hC1.sm (Sm.wr W_1778 hco)
      have t_1781 : c < h_1777.size := Nat.lt_of_lt_of_le hC1.lt (Nat.le_of_eq W_1778.size.symm)
      have t_1782 : o < h_1777.size := Nat.lt_of_lt_of_le hO1.lt (Nat.le_of_eq W_1778.size.symm)
      have z_1783 : n0 ≤ h_1777.size := Nat.le_trans z1 (Nat.le_of_eq W_1778.size.symm)
      have b_1784 : h0.size ≤ h_1777.size := Nat.le_trans K1.1 (Nat.le_of_eq W_1778.size.symm)
      have K_1785 : Keep h0 h_1777 [o] := K1.wr W_1778 (Or.inl (List.mem_of_getElem? (i := 0) rfl))
      have y_1786 : Ary Z h_1777 o .int (own_pad (L ++ [v1])) := A_1779.eq (own_pad_set L v1 (by omega))
      refine Go.iinc (pc' := 32) (w := n + (1 : Int32)) (Ls' := #[.val (.ref c), .val (.int m), .val (.ref o), .val (.int (n + (1 : Int32)))]) d2_29 rfl rfl rfl rfl ?_
      have en : (n + (1 : Int32)).toInt = ((L ++ [v1]).length : Int) := by
        have := c_iadd n (1 : Int32)
        have := rng32 (n + (1 : Int32))
        have o1 : (1 : Int32).toInt = 1 := rfl
        rw [List.length_append]; simp only [List.length_cons, List.length_nil]; omega
      exact J2 h_1777 _ (L ++ [v1]) z_1783 K_1785 f_1780 y_1786 en (by rw [List.length_append]; simp only [List.length_cons, List.length_nil]; omega) (hf.trans (congrArg (fun b => own_ap (own_bit m (32 : Int32)) (own_ap (own_bit m (16 : Int32)) (own_ap (own_bit m (8 : Int32)) (own_ap (own_bit m (4 : Int32)) b v2) v3) v4) v5) (own_ap_t c_1776 L v1)))
  have J0 : ∀ (h1 : Heap) (n : Int32) (L : List Int32), n0 ≤ h1.size → Keep h0 h1 [o] → Ary Z h1 c .int [(.int v0), (.int v1), (.int v2), (.int v3), (.int v4), (.int v5)] → Ary Z h1 o .int (own_pad L) → n.toInt = (L.length : Int) → L.length ≤ 0 → own_pk m v0 v1 v2 v3 v4 v5 = own_ap (own_bit m (32 : Int32)) (own_ap (own_bit m (16 : Int32)) (own_ap (own_bit m (8 : Int32)) (own_ap (own_bit m (4 : Int32)) (own_ap (own_bit m (2 : Int32)) (own_ap (own_bit m (1 : Int32)) L v0) v1) v2) v3) v4) v5 → (Go false l ({ frames := 0, cells := 0, slots := 0, locals := 0 } : Room) Z (⟨"com/example/nearword/nearword/internal/index/IntRunsContainsAllPinLaw", "pick", "([II[I)I"⟩ : MethodName) method_3_code 4 (some .int) n0 0 0 (fun v h => ∃ n : Int32, v = some (.int n) ∧ Keep h0 h [o] ∧ Ary Z h o .int (own_pad (own_pk m v0 v1 v2 v3 v4 v5)) ∧ n.toInt = ((own_pk m v0 v1 v2 v3 v4 v5).length : Int) ∧ (own_pk m v0 v1 v2 v3 v4 v5).length ≤ 6)) h1 0 0 2 #[.val (.ref c), .val (.int m), .val (.ref o), .val (.int n)] [] := by
    intro h1 n L z1 K1 hC1 hO1 hn hL hf
    refine Go.iloadN (pc' := 3) d2_2 rfl rfl ?_
    refine Go.iconst (pc' := 4) (v := (1 : Int32)) d2_3 rfl rfl ?_
    refine Go.iand (pc' := 5) d2_4 rfl ?_
    refine Go.ifc (pc1 := 17) (pc2 := 8) d2_5 (by decide) (by decide) rfl (fun (c_1787 : (m &&& (1 : Int32)).toInt = 0) => ?_) (fun (c_1787 : (m &&& (1 : Int32)).toInt ≠ 0) => ?_)
    · exact J1 h1 n L z1 K1 hC1 hO1 hn (by omega) (hf.trans (congrArg (fun b => own_ap (own_bit m (32 : Int32)) (own_ap (own_bit m (16 : Int32)) (own_ap (own_bit m (8 : Int32)) (own_ap (own_bit m (4 : Int32)) (own_ap (own_bit m (2 : Int32)) b v1) v2) v3) v4) v5) (own_ap_f c_1787 L v0)))
    · refine Go.aloadN (pc' := 9) d2_8 rfl rfl rfl ?_
      refine Go.iloadN (pc' := 10) d2_9 rfl rfl ?_
      refine Go.aloadN (pc' := 11) d2_10 rfl rfl rfl ?_
      refine Go.iconst (pc' := 12) (v := (0 : Int32)) d2_11 rfl rfl ?_
      refine Go.ldI (pc' := 13) (k := 0) (v := (.int v0)) hC1 rfl rfl d2_12 rfl ?_
      refine Go.stI (pc' := 14) (k := L.length) hO1 hn (by rw [own_pad_len L (by omega)]; omega) d2_13 hg rfl ?_
      intro h_1788 W_1789 A_1790
      have f_1791 : Ary Z h_1788 c .int [(.int v0), (.int v1), (.int v2), (.int v3), (.int v4), (.int v5)] := hC1.sm (Sm.wr W_1789 hco)
      have t_1792 : c < h_1788.size := Nat.lt_of_lt_of_le hC1.lt (Nat.le_of_eq W_1789.size.symm)
      have t_1793 : o < h_1788.size := Nat.lt_of_lt_of_le hO1.lt (Nat.le_of_eq W_1789.size.symm)
      have z_1794 : n0 ≤ h_1788.size := Nat.le_trans z1 (Nat.le_of_eq W_1789.size.symm)
      have b_1795 : h0.size ≤ h_1788.size := Nat.le_trans K1.1 (Nat.le_of_eq W_1789.size.symm)
      have K_1796 : Keep h0 h_1788 [o] := K1.wr W_1789 (Or.inl (List.mem_of_getElem? (i := 0) rfl))
      have y_1797 : Ary Z h_1788 o .int (own_pad (L ++ [v0])) := A_1790.eq (own_pad_set L v0 (by omega))
      refine Go.iinc (pc' := 17) (w := n + (1 : Int32)) (Ls' := #[.val (.ref c), .val (.int m), .val (.ref o), .val (.int (n + (1 : Int32)))]) d2_14 rfl rfl rfl rfl ?_
      have en : (n + (1 : Int32)).toInt = ((L ++ [v0]).length : Int) := by
        have := c_iadd n (1 : Int32)
        have := rng32 (n + (1 : Int32))
        have o1 : (1 : Int32).toInt = 1 := rfl
        rw [List.length_append]; simp only [List.length_cons, List.length_nil]; omega
      exact J1 h_1788 _ (L ++ [v0]) z_1794 K_1796 f_1791 y_1797 en (by rw [List.length_append]; simp only [List.length_cons, List.length_nil]; omega) (hf.trans (congrArg (fun b => own_ap (own_bit m (32 : Int32)) (own_ap (own_bit m (16 : Int32)) (own_ap (own_bit m (8 : Int32)) (own_ap (own_bit m (4 : Int32)) (own_ap (own_bit m (2 : Int32)) b v1) v2) v3) v4) v5) (own_ap_t c_1787 L v0)))
  exact J0 h0 _ [] z0 (Keep.refl _ _) hC hO rfl (Nat.le_refl _) rfl
set_option maxRecDepth 65536 in
set_option maxHeartbeats 40000000 in
theorem m_exact (l : Launch) (Z : State) (a0 : Array Value) (hw : ∀ d ∈ tables_1, d.before a0 Z = true) (b : Addr) (m : Int32) (L : List Int32) (h0 : Heap) (n0 : Nat) (z0 : n0 ≤ h0.size) (hA : Ary Z h0 b .int (own_pad L)) (hm : m.toInt = (L.length : Int)) (h6 : L.length ≤ 6) : Mt false l Z (⟨"com/example/nearword/nearword/internal/index/IntRunsContainsAllPinLaw", "exact", "([II)[I"⟩ : MethodName) method_4_code 2 (some (.array .int)) ({ frames := 0, cells := 1, slots := 6, locals := 0 } : Room) n0 (fun v h => ∃ o, v = some (.ref o) ∧ Keep h0 h [] ∧ Ary Z h o .int (L.map Value.int) ∧ h0.size ≤ o ∧ o < h.size) h0 #[(.ref b), (.int m)] := by
  refine Mt.go (Ls := #[.val (.ref b), .val (.int m)]) (plainFor_of_name pn2) (fun m => by first | (simp [entryFrame, mkF, argsToLocals, Value.category]; done) | rfl) ?_
  show Go _ _ _ _ _ _ _ _ _ _ _ _ h0 0 0 0 #[.val (.ref b), .val (.int m)] []
  rcases own_len6 L h6 with rfl | ⟨x0, rfl⟩ | ⟨x0, x1, rfl⟩ | ⟨x0, x1, x2, rfl⟩ | ⟨x0, x1, x2, x3, rfl⟩ | ⟨x0, x1, x2, x3, x4, rfl⟩ | ⟨x0, x1, x2, x3, x4, x5, rfl⟩
  · obtain rfl : m = (0 : Int32) := Int32.toInt_inj.mp hm
    change Ary Z h0 b .int [(.int 0), (.int 0), (.int 0), (.int 0), (.int 0), (.int 0)] at hA
    show Go _ _ _ _ _ _ _ _ _ _ _ _ h0 0 0 0 #[.val (.ref b), .val (.int 0)] []
    refine Go.iloadN (pc' := 1) d3_0 rfl rfl ?_
    refine Go.ifc (pc1 := 8) (pc2 := 4) d3_1 (by decide) (by decide) rfl (fun (c_1798 : (0 : Int) ≠ 0) => ?_) (fun (c_1798 : (0 : Int) = 0) => ?_)
    · exact absurd c_1798 (by decide)
    refine Go.iconst (pc' := 5) (v := (0 : Int32)) d3_4 rfl rfl ?_
    refine Go.newA (pc' := 7) (k := 0) (ty := .int) (cap := 0) (own_w hw 6 rfl) rfl rfl (by decide) (by decide) d3_5 (by decide) (by decide) rfl ?_
    intro h_1799 a_1800 q_1801 E_1802 A_1803
    have n_1805 : b ≠ a_1800 := Nat.ne_of_lt (q_1801 ▸ hA.lt)
    have g_1806 : n0 ≤ a_1800 := q_1801 ▸ z0
    have g_1807 : h0.size ≤ a_1800 := q_1801 ▸ (Nat.le_refl _)
    have f_1808 : Ary Z h_1799 b .int [(.int 0), (.int 0), (.int 0), (.int 0), (.int 0), (.int 0)] := hA.sm (Sm.ext E_1802)
    have t_1809 : b < h_1799.size := Nat.lt_of_lt_of_le hA.lt E_1802.1
    have z_1810 : n0 ≤ h_1799.size := Nat.le_trans z0 E_1802.1
    have b_1811 : h0.size ≤ h_1799.size := Nat.le_trans (Nat.le_refl _) E_1802.1
    have K_1812 : Keep h0 h_1799 [] := (Keep.refl _ _).ext E_1802
    have t_1813 : a_1800 < h_1799.size := A_1803.lt
    change Ary Z h_1799 a_1800 .int [] at A_1803
    exact Go.retA d3_7 rfl rfl rfl ⟨a_1800, rfl, K_1812, A_1803, g_1807, t_1813⟩ (by decide) (by decide)
  · obtain rfl : m = (1 : Int32) := Int32.toInt_inj.mp hm
    change Ary Z h0 b .int [(.int x0), (.int 0), (.int 0), (.int 0), (.int 0), (.int 0)] at hA
    show Go _ _ _ _ _ _ _ _ _ _ _ _ h0 0 0 0 #[.val (.ref b), .val (.int 1)] []
    refine Go.iloadN (pc' := 1) d3_0 rfl rfl ?_
    refine Go.ifc (pc1 := 8) (pc2 := 4) d3_1 (by decide) (by decide) rfl (fun (c_1814 : (1 : Int) ≠ 0) => ?_) (fun (c_1814 : (1 : Int) = 0) => ?_)
    rotate_left
    · exact absurd c_1814 (by decide)
    refine Go.iloadN (pc' := 9) d3_8 rfl rfl ?_
    refine Go.iconst (pc' := 10) (v := (1 : Int32)) d3_9 rfl rfl ?_
    refine Go.icmp (pc1 := 23) (pc2 := 13) d3_10 (by decide) (by decide) rfl (fun (c_1815 : (1 : Int) ≠ (1 : Int)) => ?_) (fun (c_1815 : (1 : Int) = (1 : Int)) => ?_)
    · exact absurd c_1815 (by decide)
    refine Go.iconst (pc' := 14) (v := (1 : Int32)) d3_13 rfl rfl ?_
    refine Go.newA (pc' := 16) (k := 1) (ty := .int) (cap := 1) (own_w hw 6 rfl) rfl rfl (by decide) (by decide) d3_14 (by decide) (by decide) rfl ?_
    intro h_1816 a_1817 q_1818 E_1819 A_1820
    have n_1822 : b ≠ a_1817 := Nat.ne_of_lt (q_1818 ▸ hA.lt)
    have g_1823 : n0 ≤ a_1817 := q_1818 ▸ z0
    have g_1824 : h0.size ≤ a_1817 := q_1818 ▸ (Nat.le_refl _)
    have f_1825 : Ary Z h_1816 b .int [(.int x0), (.int 0), (.int 0), (.int 0), (.int 0), (.int 0)] := hA.sm (Sm.ext E_1819)
    have t_1826 : b < h_1816.size := Nat.lt_of_lt_of_le hA.lt E_1819.1
    have z_1827 : n0 ≤ h_1816.size := Nat.le_trans z0 E_1819.1
    have b_1828 : h0.size ≤ h_1816.size := Nat.le_trans (Nat.le_refl _) E_1819.1
    have K_1829 : Keep h0 h_1816 [] := (Keep.refl _ _).ext E_1819
    have t_1830 : a_1817 < h_1816.size := A_1820.lt
    change Ary Z h_1816 a_1817 .int [(.int 0)] at A_1820
    refine Go.dup (pc' := 17) d3_16 rfl rfl ?_
    refine Go.iconst (pc' := 18) (v := (0 : Int32)) d3_17 rfl rfl ?_
    refine Go.aloadN (pc' := 19) d3_18 rfl rfl rfl ?_
    refine Go.iconst (pc' := 20) (v := (0 : Int32)) d3_19 rfl rfl ?_
    refine Go.ldI (pc' := 21) (k := 0) (v := (.int x0)) f_1825 rfl rfl d3_20 rfl ?_
    refine Go.stI (pc' := 22) (k := 0) A_1820 rfl (by show 0 < 1; decide) d3_21 g_1823 rfl ?_
    intro h_1831 W_1832 A_1833
    have f_1834 : Ary Z h_1831 b .int [(.int x0), (.int 0), (.int 0), (.int 0), (.int 0), (.int 0)] := f_1825.sm (Sm.wr W_1832 n_1822)
    have t_1835 : b < h_1831.size := Nat.lt_of_lt_of_le t_1826 (Nat.le_of_eq W_1832.size.symm)
    have t_1836 : a_1817 < h_1831.size := Nat.lt_of_lt_of_le t_1830 (Nat.le_of_eq W_1832.size.symm)
    have z_1837 : n0 ≤ h_1831.size := Nat.le_trans z_1827 (Nat.le_of_eq W_1832.size.symm)
    have b_1838 : h0.size ≤ h_1831.size := Nat.le_trans b_1828 (Nat.le_of_eq W_1832.size.symm)
    have K_1839 : Keep h0 h_1831 [] := K_1829.wr W_1832 (Or.inr g_1824)
    change Ary Z h_1831 a_1817 .int [(.int x0)] at A_1833
    exact Go.retA d3_22 rfl rfl rfl ⟨a_1817, rfl, K_1839, A_1833, g_1824, t_1836⟩ (by decide) (by decide)
  · obtain rfl : m = (2 : Int32) := Int32.toInt_inj.mp hm
    change Ary Z h0 b .int [(.int x0), (.int x1), (.int 0), (.int 0), (.int 0), (.int 0)] at hA
    show Go _ _ _ _ _ _ _ _ _ _ _ _ h0 0 0 0 #[.val (.ref b), .val (.int 2)] []
    refine Go.iloadN (pc' := 1) d3_0 rfl rfl ?_
    refine Go.ifc (pc1 := 8) (pc2 := 4) d3_1 (by decide) (by decide) rfl (fun (c_1840 : (2 : Int) ≠ 0) => ?_) (fun (c_1840 : (2 : Int) = 0) => ?_)
    rotate_left
    · exact absurd c_1840 (by decide)
    refine Go.iloadN (pc' := 9) d3_8 rfl rfl ?_
    refine Go.iconst (pc' := 10) (v := (1 : Int32)) d3_9 rfl rfl ?_
    refine Go.icmp (pc1 := 23) (pc2 := 13) d3_10 (by decide) (by decide) rfl (fun (c_1841 : (2 : Int) ≠ (1 : Int)) => ?_) (fun (c_1841 : (2 : Int) = (1 : Int)) => ?_)
    rotate_left
    · exact absurd c_1841 (by decide)
    refine Go.iloadN (pc' := 24) d3_23 rfl rfl ?_
    refine Go.iconst (pc' := 25) (v := (2 : Int32)) d3_24 rfl rfl ?_
    refine Go.icmp (pc1 := 44) (pc2 := 28) d3_25 (by decide) (by decide) rfl (fun (c_1842 : (2 : Int) ≠ (2 : Int)) => ?_) (fun (c_1842 : (2 : Int) = (2 : Int)) => ?_)
    · exact absurd c_1842 (by decide)
    refine Go.iconst (pc' := 29) (v := (2 : Int32)) d3_28 rfl rfl ?_
    refine Go.newA (pc' := 31) (k := 2) (ty := .int) (cap := 2) (own_w hw 6 rfl) rfl rfl (by decide) (by decide) d3_29 (by decide) (by decide) rfl ?_
    intro h_1843 a_1844 q_1845 E_1846 A_1847
    have n_1849 : b ≠ a_1844 := Nat.ne_of_lt (q_1845 ▸ hA.lt)
    have g_1850 : n0 ≤ a_1844 := q_1845 ▸ z0
    have g_1851 : h0.size ≤ a_1844 := q_1845 ▸ (Nat.le_refl _)
    have f_1852 : Ary Z h_1843 b .int [(.int x0), (.int x1), (.int 0), (.int 0), (.int 0), (.int 0)] := hA.sm (Sm.ext E_1846)
    have t_1853 : b < h_1843.size := Nat.lt_of_lt_of_le hA.lt E_1846.1
    have z_1854 : n0 ≤ h_1843.size := Nat.le_trans z0 E_1846.1
    have b_1855 : h0.size ≤ h_1843.size := Nat.le_trans (Nat.le_refl _) E_1846.1
    have K_1856 : Keep h0 h_1843 [] := (Keep.refl _ _).ext E_1846
    have t_1857 : a_1844 < h_1843.size := A_1847.lt
    change Ary Z h_1843 a_1844 .int [(.int 0), (.int 0)] at A_1847
    refine Go.dup (pc' := 32) d3_31 rfl rfl ?_
    refine Go.iconst (pc' := 33) (v := (0 : Int32)) d3_32 rfl rfl ?_
    refine Go.aloadN (pc' := 34) d3_33 rfl rfl rfl ?_
    refine Go.iconst (pc' := 35) (v := (0 : Int32)) d3_34 rfl rfl ?_
    refine Go.ldI (pc' := 36) (k := 0) (v := (.int x0)) f_1852 rfl rfl d3_35 rfl ?_
    refine Go.stI (pc' := 37) (k := 0) A_1847 rfl (by show 0 < 2; decide) d3_36 g_1850 rfl ?_
    intro h_1858 W_1859 A_1860
    have f_1861 : Ary Z h_1858 b .int [(.int x0), (.int x1), (.int 0), (.int 0), (.int 0), (.int 0)] := f_1852.sm (Sm.wr W_1859 n_1849)
    have t_1862 : b < h_1858.size := Nat.lt_of_lt_of_le t_1853 (Nat.le_of_eq W_1859.size.symm)
    have t_1863 : a_1844 < h_1858.size := Nat.lt_of_lt_of_le t_1857 (Nat.le_of_eq W_1859.size.symm)
    have z_1864 : n0 ≤ h_1858.size := Nat.le_trans z_1854 (Nat.le_of_eq W_1859.size.symm)
    have b_1865 : h0.size ≤ h_1858.size := Nat.le_trans b_1855 (Nat.le_of_eq W_1859.size.symm)
    have K_1866 : Keep h0 h_1858 [] := K_1856.wr W_1859 (Or.inr g_1851)
    change Ary Z h_1858 a_1844 .int [(.int x0), (.int 0)] at A_1860
    refine Go.dup (pc' := 38) d3_37 rfl rfl ?_
    refine Go.iconst (pc' := 39) (v := (1 : Int32)) d3_38 rfl rfl ?_
    refine Go.aloadN (pc' := 40) d3_39 rfl rfl rfl ?_
    refine Go.iconst (pc' := 41) (v := (1 : Int32)) d3_40 rfl rfl ?_
    refine Go.ldI (pc' := 42) (k := 1) (v := (.int x1)) f_1861 rfl rfl d3_41 rfl ?_
    refine Go.stI (pc' := 43) (k := 1) A_1860 rfl (by show 1 < 2; decide) d3_42 g_1850 rfl ?_
    intro h_1867 W_1868 A_1869
    have f_1870 : Ary Z h_1867 b .int [(.int x0), (.int x1), (.int 0), (.int 0), (.int 0), (.int 0)] := f_1861.sm (Sm.wr W_1868 n_1849)
    have t_1871 : b < h_1867.size := Nat.lt_of_lt_of_le t_1862 (Nat.le_of_eq W_1868.size.symm)
    have t_1872 : a_1844 < h_1867.size := Nat.lt_of_lt_of_le t_1863 (Nat.le_of_eq W_1868.size.symm)
    have z_1873 : n0 ≤ h_1867.size := Nat.le_trans z_1864 (Nat.le_of_eq W_1868.size.symm)
    have b_1874 : h0.size ≤ h_1867.size := Nat.le_trans b_1865 (Nat.le_of_eq W_1868.size.symm)
    have K_1875 : Keep h0 h_1867 [] := K_1866.wr W_1868 (Or.inr g_1851)
    change Ary Z h_1867 a_1844 .int [(.int x0), (.int x1)] at A_1869
    exact Go.retA d3_43 rfl rfl rfl ⟨a_1844, rfl, K_1875, A_1869, g_1851, t_1872⟩ (by decide) (by decide)
  · obtain rfl : m = (3 : Int32) := Int32.toInt_inj.mp hm
    change Ary Z h0 b .int [(.int x0), (.int x1), (.int x2), (.int 0), (.int 0), (.int 0)] at hA
    show Go _ _ _ _ _ _ _ _ _ _ _ _ h0 0 0 0 #[.val (.ref b), .val (.int 3)] []
    refine Go.iloadN (pc' := 1) d3_0 rfl rfl ?_
    refine Go.ifc (pc1 := 8) (pc2 := 4) d3_1 (by decide) (by decide) rfl (fun (c_1876 : (3 : Int) ≠ 0) => ?_) (fun (c_1876 : (3 : Int) = 0) => ?_)
    rotate_left
    · exact absurd c_1876 (by decide)
    refine Go.iloadN (pc' := 9) d3_8 rfl rfl ?_
    refine Go.iconst (pc' := 10) (v := (1 : Int32)) d3_9 rfl rfl ?_
    refine Go.icmp (pc1 := 23) (pc2 := 13) d3_10 (by decide) (by decide) rfl (fun (c_1877 : (3 : Int) ≠ (1 : Int)) => ?_) (fun (c_1877 : (3 : Int) = (1 : Int)) => ?_)
    rotate_left
    · exact absurd c_1877 (by decide)
    refine Go.iloadN (pc' := 24) d3_23 rfl rfl ?_
    refine Go.iconst (pc' := 25) (v := (2 : Int32)) d3_24 rfl rfl ?_
    refine Go.icmp (pc1 := 44) (pc2 := 28) d3_25 (by decide) (by decide) rfl (fun (c_1878 : (3 : Int) ≠ (2 : Int)) => ?_) (fun (c_1878 : (3 : Int) = (2 : Int)) => ?_)
    rotate_left
    · exact absurd c_1878 (by decide)
    refine Go.iloadN (pc' := 45) d3_44 rfl rfl ?_
    refine Go.iconst (pc' := 46) (v := (3 : Int32)) d3_45 rfl rfl ?_
    refine Go.icmp (pc1 := 71) (pc2 := 49) d3_46 (by decide) (by decide) rfl (fun (c_1879 : (3 : Int) ≠ (3 : Int)) => ?_) (fun (c_1879 : (3 : Int) = (3 : Int)) => ?_)
    · exact absurd c_1879 (by decide)
    refine Go.iconst (pc' := 50) (v := (3 : Int32)) d3_49 rfl rfl ?_
    refine Go.newA (pc' := 52) (k := 3) (ty := .int) (cap := 3) (own_w hw 6 rfl) rfl rfl (by decide) (by decide) d3_50 (by decide) (by decide) rfl ?_
    intro h_1880 a_1881 q_1882 E_1883 A_1884
    have n_1886 : b ≠ a_1881 := Nat.ne_of_lt (q_1882 ▸ hA.lt)
    have g_1887 : n0 ≤ a_1881 := q_1882 ▸ z0
    have g_1888 : h0.size ≤ a_1881 := q_1882 ▸ (Nat.le_refl _)
    have f_1889 : Ary Z h_1880 b .int [(.int x0), (.int x1), (.int x2), (.int 0), (.int 0), (.int 0)] := hA.sm (Sm.ext E_1883)
    have t_1890 : b < h_1880.size := Nat.lt_of_lt_of_le hA.lt E_1883.1
    have z_1891 : n0 ≤ h_1880.size := Nat.le_trans z0 E_1883.1
    have b_1892 : h0.size ≤ h_1880.size := Nat.le_trans (Nat.le_refl _) E_1883.1
    have K_1893 : Keep h0 h_1880 [] := (Keep.refl _ _).ext E_1883
    have t_1894 : a_1881 < h_1880.size := A_1884.lt
    change Ary Z h_1880 a_1881 .int [(.int 0), (.int 0), (.int 0)] at A_1884
    refine Go.dup (pc' := 53) d3_52 rfl rfl ?_
    refine Go.iconst (pc' := 54) (v := (0 : Int32)) d3_53 rfl rfl ?_
    refine Go.aloadN (pc' := 55) d3_54 rfl rfl rfl ?_
    refine Go.iconst (pc' := 56) (v := (0 : Int32)) d3_55 rfl rfl ?_
    refine Go.ldI (pc' := 57) (k := 0) (v := (.int x0)) f_1889 rfl rfl d3_56 rfl ?_
    refine Go.stI (pc' := 58) (k := 0) A_1884 rfl (by show 0 < 3; decide) d3_57 g_1887 rfl ?_
    intro h_1895 W_1896 A_1897
    have f_1898 : Ary Z h_1895 b .int [(.int x0), (.int x1), (.int x2), (.int 0), (.int 0), (.int 0)] := f_1889.sm (Sm.wr W_1896 n_1886)
    have t_1899 : b < h_1895.size := Nat.lt_of_lt_of_le t_1890 (Nat.le_of_eq W_1896.size.symm)
    have t_1900 : a_1881 < h_1895.size := Nat.lt_of_lt_of_le t_1894 (Nat.le_of_eq W_1896.size.symm)
    have z_1901 : n0 ≤ h_1895.size := Nat.le_trans z_1891 (Nat.le_of_eq W_1896.size.symm)
    have b_1902 : h0.size ≤ h_1895.size := Nat.le_trans b_1892 (Nat.le_of_eq W_1896.size.symm)
    have K_1903 : Keep h0 h_1895 [] := K_1893.wr W_1896 (Or.inr g_1888)
    change Ary Z h_1895 a_1881 .int [(.int x0), (.int 0), (.int 0)] at A_1897
    refine Go.dup (pc' := 59) d3_58 rfl rfl ?_
    refine Go.iconst (pc' := 60) (v := (1 : Int32)) d3_59 rfl rfl ?_
    refine Go.aloadN (pc' := 61) d3_60 rfl rfl rfl ?_
    refine Go.iconst (pc' := 62) (v := (1 : Int32)) d3_61 rfl rfl ?_
    refine Go.ldI (pc' := 63) (k := 1) (v := (.int x1)) f_1898 rfl rfl d3_62 rfl ?_
    refine Go.stI (pc' := 64) (k := 1) A_1897 rfl (by show 1 < 3; decide) d3_63 g_1887 rfl ?_
    intro h_1904 W_1905 A_1906
    have f_1907 : Ary Z h_1904 b .int [(.int x0), (.int x1), (.int x2), (.int 0), (.int 0), (.int 0)] := f_1898.sm (Sm.wr W_1905 n_1886)
    have t_1908 : b < h_1904.size := Nat.lt_of_lt_of_le t_1899 (Nat.le_of_eq W_1905.size.symm)
    have t_1909 : a_1881 < h_1904.size := Nat.lt_of_lt_of_le t_1900 (Nat.le_of_eq W_1905.size.symm)
    have z_1910 : n0 ≤ h_1904.size := Nat.le_trans z_1901 (Nat.le_of_eq W_1905.size.symm)
    have b_1911 : h0.size ≤ h_1904.size := Nat.le_trans b_1902 (Nat.le_of_eq W_1905.size.symm)
    have K_1912 : Keep h0 h_1904 [] := K_1903.wr W_1905 (Or.inr g_1888)
    change Ary Z h_1904 a_1881 .int [(.int x0), (.int x1), (.int 0)] at A_1906
    refine Go.dup (pc' := 65) d3_64 rfl rfl ?_
    refine Go.iconst (pc' := 66) (v := (2 : Int32)) d3_65 rfl rfl ?_
    refine Go.aloadN (pc' := 67) d3_66 rfl rfl rfl ?_
    refine Go.iconst (pc' := 68) (v := (2 : Int32)) d3_67 rfl rfl ?_
    refine Go.ldI (pc' := 69) (k := 2) (v := (.int x2)) f_1907 rfl rfl d3_68 rfl ?_
    refine Go.stI (pc' := 70) (k := 2) A_1906 rfl (by show 2 < 3; decide) d3_69 g_1887 rfl ?_
    intro h_1913 W_1914 A_1915
    have f_1916 : Ary Z h_1913 b .int [(.int x0), (.int x1), (.int x2), (.int 0), (.int 0), (.int 0)] := f_1907.sm (Sm.wr W_1914 n_1886)
    have t_1917 : b < h_1913.size := Nat.lt_of_lt_of_le t_1908 (Nat.le_of_eq W_1914.size.symm)
    have t_1918 : a_1881 < h_1913.size := Nat.lt_of_lt_of_le t_1909 (Nat.le_of_eq W_1914.size.symm)
    have z_1919 : n0 ≤ h_1913.size := Nat.le_trans z_1910 (Nat.le_of_eq W_1914.size.symm)
    have b_1920 : h0.size ≤ h_1913.size := Nat.le_trans b_1911 (Nat.le_of_eq W_1914.size.symm)
    have K_1921 : Keep h0 h_1913 [] := K_1912.wr W_1914 (Or.inr g_1888)
    change Ary Z h_1913 a_1881 .int [(.int x0), (.int x1), (.int x2)] at A_1915
    exact Go.retA d3_70 rfl rfl rfl ⟨a_1881, rfl, K_1921, A_1915, g_1888, t_1918⟩ (by decide) (by decide)
  · obtain rfl : m = (4 : Int32) := Int32.toInt_inj.mp hm
    change Ary Z h0 b .int [(.int x0), (.int x1), (.int x2), (.int x3), (.int 0), (.int 0)] at hA
    show Go _ _ _ _ _ _ _ _ _ _ _ _ h0 0 0 0 #[.val (.ref b), .val (.int 4)] []
    refine Go.iloadN (pc' := 1) d3_0 rfl rfl ?_
    refine Go.ifc (pc1 := 8) (pc2 := 4) d3_1 (by decide) (by decide) rfl (fun (c_1922 : (4 : Int) ≠ 0) => ?_) (fun (c_1922 : (4 : Int) = 0) => ?_)
    rotate_left
    · exact absurd c_1922 (by decide)
    refine Go.iloadN (pc' := 9) d3_8 rfl rfl ?_
    refine Go.iconst (pc' := 10) (v := (1 : Int32)) d3_9 rfl rfl ?_
    refine Go.icmp (pc1 := 23) (pc2 := 13) d3_10 (by decide) (by decide) rfl (fun (c_1923 : (4 : Int) ≠ (1 : Int)) => ?_) (fun (c_1923 : (4 : Int) = (1 : Int)) => ?_)
    rotate_left
    · exact absurd c_1923 (by decide)
    refine Go.iloadN (pc' := 24) d3_23 rfl rfl ?_
    refine Go.iconst (pc' := 25) (v := (2 : Int32)) d3_24 rfl rfl ?_
    refine Go.icmp (pc1 := 44) (pc2 := 28) d3_25 (by decide) (by decide) rfl (fun (c_1924 : (4 : Int) ≠ (2 : Int)) => ?_) (fun (c_1924 : (4 : Int) = (2 : Int)) => ?_)
    rotate_left
    · exact absurd c_1924 (by decide)
    refine Go.iloadN (pc' := 45) d3_44 rfl rfl ?_
    refine Go.iconst (pc' := 46) (v := (3 : Int32)) d3_45 rfl rfl ?_
    refine Go.icmp (pc1 := 71) (pc2 := 49) d3_46 (by decide) (by decide) rfl (fun (c_1925 : (4 : Int) ≠ (3 : Int)) => ?_) (fun (c_1925 : (4 : Int) = (3 : Int)) => ?_)
    rotate_left
    · exact absurd c_1925 (by decide)
    refine Go.iloadN (pc' := 72) d3_71 rfl rfl ?_
    refine Go.iconst (pc' := 73) (v := (4 : Int32)) d3_72 rfl rfl ?_
    refine Go.icmp (pc1 := 104) (pc2 := 76) d3_73 (by decide) (by decide) rfl (fun (c_1926 : (4 : Int) ≠ (4 : Int)) => ?_) (fun (c_1926 : (4 : Int) = (4 : Int)) => ?_)
    · exact absurd c_1926 (by decide)
    refine Go.iconst (pc' := 77) (v := (4 : Int32)) d3_76 rfl rfl ?_
    refine Go.newA (pc' := 79) (k := 4) (ty := .int) (cap := 4) (own_w hw 6 rfl) rfl rfl (by decide) (by decide) d3_77 (by decide) (by decide) rfl ?_
    intro h_1927 a_1928 q_1929 E_1930 A_1931
    have n_1933 : b ≠ a_1928 := Nat.ne_of_lt (q_1929 ▸ hA.lt)
    have g_1934 : n0 ≤ a_1928 := q_1929 ▸ z0
    have g_1935 : h0.size ≤ a_1928 := q_1929 ▸ (Nat.le_refl _)
    have f_1936 : Ary Z h_1927 b .int [(.int x0), (.int x1), (.int x2), (.int x3), (.int 0), (.int 0)] := hA.sm (Sm.ext E_1930)
    have t_1937 : b < h_1927.size := Nat.lt_of_lt_of_le hA.lt E_1930.1
    have z_1938 : n0 ≤ h_1927.size := Nat.le_trans z0 E_1930.1
    have b_1939 : h0.size ≤ h_1927.size := Nat.le_trans (Nat.le_refl _) E_1930.1
    have K_1940 : Keep h0 h_1927 [] := (Keep.refl _ _).ext E_1930
    have t_1941 : a_1928 < h_1927.size := A_1931.lt
    change Ary Z h_1927 a_1928 .int [(.int 0), (.int 0), (.int 0), (.int 0)] at A_1931
    refine Go.dup (pc' := 80) d3_79 rfl rfl ?_
    refine Go.iconst (pc' := 81) (v := (0 : Int32)) d3_80 rfl rfl ?_
    refine Go.aloadN (pc' := 82) d3_81 rfl rfl rfl ?_
    refine Go.iconst (pc' := 83) (v := (0 : Int32)) d3_82 rfl rfl ?_
    refine Go.ldI (pc' := 84) (k := 0) (v := (.int x0)) f_1936 rfl rfl d3_83 rfl ?_
    refine Go.stI (pc' := 85) (k := 0) A_1931 rfl (by show 0 < 4; decide) d3_84 g_1934 rfl ?_
    intro h_1942 W_1943 A_1944
    have f_1945 : Ary Z h_1942 b .int [(.int x0), (.int x1), (.int x2), (.int x3), (.int 0), (.int 0)] := f_1936.sm (Sm.wr W_1943 n_1933)
    have t_1946 : b < h_1942.size := Nat.lt_of_lt_of_le t_1937 (Nat.le_of_eq W_1943.size.symm)
    have t_1947 : a_1928 < h_1942.size := Nat.lt_of_lt_of_le t_1941 (Nat.le_of_eq W_1943.size.symm)
    have z_1948 : n0 ≤ h_1942.size := Nat.le_trans z_1938 (Nat.le_of_eq W_1943.size.symm)
    have b_1949 : h0.size ≤ h_1942.size := Nat.le_trans b_1939 (Nat.le_of_eq W_1943.size.symm)
    have K_1950 : Keep h0 h_1942 [] := K_1940.wr W_1943 (Or.inr g_1935)
    change Ary Z h_1942 a_1928 .int [(.int x0), (.int 0), (.int 0), (.int 0)] at A_1944
    refine Go.dup (pc' := 86) d3_85 rfl rfl ?_
    refine Go.iconst (pc' := 87) (v := (1 : Int32)) d3_86 rfl rfl ?_
    refine Go.aloadN (pc' := 88) d3_87 rfl rfl rfl ?_
    refine Go.iconst (pc' := 89) (v := (1 : Int32)) d3_88 rfl rfl ?_
    refine Go.ldI (pc' := 90) (k := 1) (v := (.int x1)) f_1945 rfl rfl d3_89 rfl ?_
    refine Go.stI (pc' := 91) (k := 1) A_1944 rfl (by show 1 < 4; decide) d3_90 g_1934 rfl ?_
    intro h_1951 W_1952 A_1953
    have f_1954 : Ary Z h_1951 b .int [(.int x0), (.int x1), (.int x2), (.int x3), (.int 0), (.int 0)] := f_1945.sm (Sm.wr W_1952 n_1933)
    have t_1955 : b < h_1951.size := Nat.lt_of_lt_of_le t_1946 (Nat.le_of_eq W_1952.size.symm)
    have t_1956 : a_1928 < h_1951.size := Nat.lt_of_lt_of_le t_1947 (Nat.le_of_eq W_1952.size.symm)
    have z_1957 : n0 ≤ h_1951.size := Nat.le_trans z_1948 (Nat.le_of_eq W_1952.size.symm)
    have b_1958 : h0.size ≤ h_1951.size := Nat.le_trans b_1949 (Nat.le_of_eq W_1952.size.symm)
    have K_1959 : Keep h0 h_1951 [] := K_1950.wr W_1952 (Or.inr g_1935)
    change Ary Z h_1951 a_1928 .int [(.int x0), (.int x1), (.int 0), (.int 0)] at A_1953
    refine Go.dup (pc' := 92) d3_91 rfl rfl ?_
    refine Go.iconst (pc' := 93) (v := (2 : Int32)) d3_92 rfl rfl ?_
    refine Go.aloadN (pc' := 94) d3_93 rfl rfl rfl ?_
    refine Go.iconst (pc' := 95) (v := (2 : Int32)) d3_94 rfl rfl ?_
    refine Go.ldI (pc' := 96) (k := 2) (v := (.int x2)) f_1954 rfl rfl d3_95 rfl ?_
    refine Go.stI (pc' := 97) (k := 2) A_1953 rfl (by show 2 < 4; decide) d3_96 g_1934 rfl ?_
    intro h_1960 W_1961 A_1962
    have f_1963 : Ary Z h_1960 b .int [(.int x0), (.int x1), (.int x2), (.int x3), (.int 0), (.int 0)] := f_1954.sm (Sm.wr W_1961 n_1933)
    have t_1964 : b < h_1960.size := Nat.lt_of_lt_of_le t_1955 (Nat.le_of_eq W_1961.size.symm)
    have t_1965 : a_1928 < h_1960.size := Nat.lt_of_lt_of_le t_1956 (Nat.le_of_eq W_1961.size.symm)
    have z_1966 : n0 ≤ h_1960.size := Nat.le_trans z_1957 (Nat.le_of_eq W_1961.size.symm)
    have b_1967 : h0.size ≤ h_1960.size := Nat.le_trans b_1958 (Nat.le_of_eq W_1961.size.symm)
    have K_1968 : Keep h0 h_1960 [] := K_1959.wr W_1961 (Or.inr g_1935)
    change Ary Z h_1960 a_1928 .int [(.int x0), (.int x1), (.int x2), (.int 0)] at A_1962
    refine Go.dup (pc' := 98) d3_97 rfl rfl ?_
    refine Go.iconst (pc' := 99) (v := (3 : Int32)) d3_98 rfl rfl ?_
    refine Go.aloadN (pc' := 100) d3_99 rfl rfl rfl ?_
    refine Go.iconst (pc' := 101) (v := (3 : Int32)) d3_100 rfl rfl ?_
    refine Go.ldI (pc' := 102) (k := 3) (v := (.int x3)) f_1963 rfl rfl d3_101 rfl ?_
    refine Go.stI (pc' := 103) (k := 3) A_1962 rfl (by show 3 < 4; decide) d3_102 g_1934 rfl ?_
    intro h_1969 W_1970 A_1971
    have f_1972 : Ary Z h_1969 b .int [(.int x0), (.int x1), (.int x2), (.int x3), (.int 0), (.int 0)] := f_1963.sm (Sm.wr W_1970 n_1933)
    have t_1973 : b < h_1969.size := Nat.lt_of_lt_of_le t_1964 (Nat.le_of_eq W_1970.size.symm)
    have t_1974 : a_1928 < h_1969.size := Nat.lt_of_lt_of_le t_1965 (Nat.le_of_eq W_1970.size.symm)
    have z_1975 : n0 ≤ h_1969.size := Nat.le_trans z_1966 (Nat.le_of_eq W_1970.size.symm)
    have b_1976 : h0.size ≤ h_1969.size := Nat.le_trans b_1967 (Nat.le_of_eq W_1970.size.symm)
    have K_1977 : Keep h0 h_1969 [] := K_1968.wr W_1970 (Or.inr g_1935)
    change Ary Z h_1969 a_1928 .int [(.int x0), (.int x1), (.int x2), (.int x3)] at A_1971
    exact Go.retA d3_103 rfl rfl rfl ⟨a_1928, rfl, K_1977, A_1971, g_1935, t_1974⟩ (by decide) (by decide)
  · obtain rfl : m = (5 : Int32) := Int32.toInt_inj.mp hm
    change Ary Z h0 b .int [(.int x0), (.int x1), (.int x2), (.int x3), (.int x4), (.int 0)] at hA
    show Go _ _ _ _ _ _ _ _ _ _ _ _ h0 0 0 0 #[.val (.ref b), .val (.int 5)] []
    refine Go.iloadN (pc' := 1) d3_0 rfl rfl ?_
    refine Go.ifc (pc1 := 8) (pc2 := 4) d3_1 (by decide) (by decide) rfl (fun (c_1978 : (5 : Int) ≠ 0) => ?_) (fun (c_1978 : (5 : Int) = 0) => ?_)
    rotate_left
    · exact absurd c_1978 (by decide)
    refine Go.iloadN (pc' := 9) d3_8 rfl rfl ?_
    refine Go.iconst (pc' := 10) (v := (1 : Int32)) d3_9 rfl rfl ?_
    refine Go.icmp (pc1 := 23) (pc2 := 13) d3_10 (by decide) (by decide) rfl (fun (c_1979 : (5 : Int) ≠ (1 : Int)) => ?_) (fun (c_1979 : (5 : Int) = (1 : Int)) => ?_)
    rotate_left
    · exact absurd c_1979 (by decide)
    refine Go.iloadN (pc' := 24) d3_23 rfl rfl ?_
    refine Go.iconst (pc' := 25) (v := (2 : Int32)) d3_24 rfl rfl ?_
    refine Go.icmp (pc1 := 44) (pc2 := 28) d3_25 (by decide) (by decide) rfl (fun (c_1980 : (5 : Int) ≠ (2 : Int)) => ?_) (fun (c_1980 : (5 : Int) = (2 : Int)) => ?_)
    rotate_left
    · exact absurd c_1980 (by decide)
    refine Go.iloadN (pc' := 45) d3_44 rfl rfl ?_
    refine Go.iconst (pc' := 46) (v := (3 : Int32)) d3_45 rfl rfl ?_
    refine Go.icmp (pc1 := 71) (pc2 := 49) d3_46 (by decide) (by decide) rfl (fun (c_1981 : (5 : Int) ≠ (3 : Int)) => ?_) (fun (c_1981 : (5 : Int) = (3 : Int)) => ?_)
    rotate_left
    · exact absurd c_1981 (by decide)
    refine Go.iloadN (pc' := 72) d3_71 rfl rfl ?_
    refine Go.iconst (pc' := 73) (v := (4 : Int32)) d3_72 rfl rfl ?_
    refine Go.icmp (pc1 := 104) (pc2 := 76) d3_73 (by decide) (by decide) rfl (fun (c_1982 : (5 : Int) ≠ (4 : Int)) => ?_) (fun (c_1982 : (5 : Int) = (4 : Int)) => ?_)
    rotate_left
    · exact absurd c_1982 (by decide)
    refine Go.iloadN (pc' := 105) d3_104 rfl rfl ?_
    refine Go.iconst (pc' := 106) (v := (5 : Int32)) d3_105 rfl rfl ?_
    refine Go.icmp (pc1 := 143) (pc2 := 109) d3_106 (by decide) (by decide) rfl (fun (c_1983 : (5 : Int) ≠ (5 : Int)) => ?_) (fun (c_1983 : (5 : Int) = (5 : Int)) => ?_)
    · exact absurd c_1983 (by decide)
    refine Go.iconst (pc' := 110) (v := (5 : Int32)) d3_109 rfl rfl ?_
    refine Go.newA (pc' := 112) (k := 5) (ty := .int) (cap := 5) (own_w hw 6 rfl) rfl rfl (by decide) (by decide) d3_110 (by decide) (by decide) rfl ?_
    intro h_1984 a_1985 q_1986 E_1987 A_1988
    have n_1990 : b ≠ a_1985 := Nat.ne_of_lt (q_1986 ▸ hA.lt)
    have g_1991 : n0 ≤ a_1985 := q_1986 ▸ z0
    have g_1992 : h0.size ≤ a_1985 := q_1986 ▸ (Nat.le_refl _)
    have f_1993 : Ary Z h_1984 b .int [(.int x0), (.int x1), (.int x2), (.int x3), (.int x4), (.int 0)] := hA.sm (Sm.ext E_1987)
    have t_1994 : b < h_1984.size := Nat.lt_of_lt_of_le hA.lt E_1987.1
    have z_1995 : n0 ≤ h_1984.size := Nat.le_trans z0 E_1987.1
    have b_1996 : h0.size ≤ h_1984.size := Nat.le_trans (Nat.le_refl _) E_1987.1
    have K_1997 : Keep h0 h_1984 [] := (Keep.refl _ _).ext E_1987
    have t_1998 : a_1985 < h_1984.size := A_1988.lt
    change Ary Z h_1984 a_1985 .int [(.int 0), (.int 0), (.int 0), (.int 0), (.int 0)] at A_1988
    refine Go.dup (pc' := 113) d3_112 rfl rfl ?_
    refine Go.iconst (pc' := 114) (v := (0 : Int32)) d3_113 rfl rfl ?_
    refine Go.aloadN (pc' := 115) d3_114 rfl rfl rfl ?_
    refine Go.iconst (pc' := 116) (v := (0 : Int32)) d3_115 rfl rfl ?_
    refine Go.ldI (pc' := 117) (k := 0) (v := (.int x0)) f_1993 rfl rfl d3_116 rfl ?_
    refine Go.stI (pc' := 118) (k := 0) A_1988 rfl (by show 0 < 5; decide) d3_117 g_1991 rfl ?_
    intro h_1999 W_2000 A_2001
    have f_2002 : Ary Z h_1999 b .int [(.int x0), (.int x1), (.int x2), (.int x3), (.int x4), (.int 0)] := f_1993.sm (Sm.wr W_2000 n_1990)
    have t_2003 : b < h_1999.size := Nat.lt_of_lt_of_le t_1994 (Nat.le_of_eq W_2000.size.symm)
    have t_2004 : a_1985 < h_1999.size := Nat.lt_of_lt_of_le t_1998 (Nat.le_of_eq W_2000.size.symm)
    have z_2005 : n0 ≤ h_1999.size := Nat.le_trans z_1995 (Nat.le_of_eq W_2000.size.symm)
    have b_2006 : h0.size ≤ h_1999.size := Nat.le_trans b_1996 (Nat.le_of_eq W_2000.size.symm)
    have K_2007 : Keep h0 h_1999 [] := K_1997.wr W_2000 (Or.inr g_1992)
    change Ary Z h_1999 a_1985 .int [(.int x0), (.int 0), (.int 0), (.int 0), (.int 0)] at A_2001
    refine Go.dup (pc' := 119) d3_118 rfl rfl ?_
    refine Go.iconst (pc' := 120) (v := (1 : Int32)) d3_119 rfl rfl ?_
    refine Go.aloadN (pc' := 121) d3_120 rfl rfl rfl ?_
    refine Go.iconst (pc' := 122) (v := (1 : Int32)) d3_121 rfl rfl ?_
    refine Go.ldI (pc' := 123) (k := 1) (v := (.int x1)) f_2002 rfl rfl d3_122 rfl ?_
    refine Go.stI (pc' := 124) (k := 1) A_2001 rfl (by show 1 < 5; decide) d3_123 g_1991 rfl ?_
    intro h_2008 W_2009 A_2010
    have f_2011 : Ary Z h_2008 b .int [(.int x0), (.int x1), (.int x2), (.int x3), (.int x4), (.int 0)] := f_2002.sm (Sm.wr W_2009 n_1990)
    have t_2012 : b < h_2008.size := Nat.lt_of_lt_of_le t_2003 (Nat.le_of_eq W_2009.size.symm)
    have t_2013 : a_1985 < h_2008.size := Nat.lt_of_lt_of_le t_2004 (Nat.le_of_eq W_2009.size.symm)
    have z_2014 : n0 ≤ h_2008.size := Nat.le_trans z_2005 (Nat.le_of_eq W_2009.size.symm)
    have b_2015 : h0.size ≤ h_2008.size := Nat.le_trans b_2006 (Nat.le_of_eq W_2009.size.symm)
    have K_2016 : Keep h0 h_2008 [] := K_2007.wr W_2009 (Or.inr g_1992)
    change Ary Z h_2008 a_1985 .int [(.int x0), (.int x1), (.int 0), (.int 0), (.int 0)] at A_2010
    refine Go.dup (pc' := 125) d3_124 rfl rfl ?_
    refine Go.iconst (pc' := 126) (v := (2 : Int32)) d3_125 rfl rfl ?_
    refine Go.aloadN (pc' := 127) d3_126 rfl rfl rfl ?_
    refine Go.iconst (pc' := 128) (v := (2 : Int32)) d3_127 rfl rfl ?_
    refine Go.ldI (pc' := 129) (k := 2) (v := (.int x2)) f_2011 rfl rfl d3_128 rfl ?_
    refine Go.stI (pc' := 130) (k := 2) A_2010 rfl (by show 2 < 5; decide) d3_129 g_1991 rfl ?_
    intro h_2017 W_2018 A_2019
    have f_2020 : Ary Z h_2017 b .int [(.int x0), (.int x1), (.int x2), (.int x3), (.int x4), (.int 0)] := f_2011.sm (Sm.wr W_2018 n_1990)
    have t_2021 : b < h_2017.size := Nat.lt_of_lt_of_le t_2012 (Nat.le_of_eq W_2018.size.symm)
    have t_2022 : a_1985 < h_2017.size := Nat.lt_of_lt_of_le t_2013 (Nat.le_of_eq W_2018.size.symm)
    have z_2023 : n0 ≤ h_2017.size := Nat.le_trans z_2014 (Nat.le_of_eq W_2018.size.symm)
    have b_2024 : h0.size ≤ h_2017.size := Nat.le_trans b_2015 (Nat.le_of_eq W_2018.size.symm)
    have K_2025 : Keep h0 h_2017 [] := K_2016.wr W_2018 (Or.inr g_1992)
    change Ary Z h_2017 a_1985 .int [(.int x0), (.int x1), (.int x2), (.int 0), (.int 0)] at A_2019
    refine Go.dup (pc' := 131) d3_130 rfl rfl ?_
    refine Go.iconst (pc' := 132) (v := (3 : Int32)) d3_131 rfl rfl ?_
    refine Go.aloadN (pc' := 133) d3_132 rfl rfl rfl ?_
    refine Go.iconst (pc' := 134) (v := (3 : Int32)) d3_133 rfl rfl ?_
    refine Go.ldI (pc' := 135) (k := 3) (v := (.int x3)) f_2020 rfl rfl d3_134 rfl ?_
    refine Go.stI (pc' := 136) (k := 3) A_2019 rfl (by show 3 < 5; decide) d3_135 g_1991 rfl ?_
    intro h_2026 W_2027 A_2028
    have f_2029 : Ary Z h_2026 b .int [(.int x0), (.int x1), (.int x2), (.int x3), (.int x4), (.int 0)] := f_2020.sm (Sm.wr W_2027 n_1990)
    have t_2030 : b < h_2026.size := Nat.lt_of_lt_of_le t_2021 (Nat.le_of_eq W_2027.size.symm)
    have t_2031 : a_1985 < h_2026.size := Nat.lt_of_lt_of_le t_2022 (Nat.le_of_eq W_2027.size.symm)
    have z_2032 : n0 ≤ h_2026.size := Nat.le_trans z_2023 (Nat.le_of_eq W_2027.size.symm)
    have b_2033 : h0.size ≤ h_2026.size := Nat.le_trans b_2024 (Nat.le_of_eq W_2027.size.symm)
    have K_2034 : Keep h0 h_2026 [] := K_2025.wr W_2027 (Or.inr g_1992)
    change Ary Z h_2026 a_1985 .int [(.int x0), (.int x1), (.int x2), (.int x3), (.int 0)] at A_2028
    refine Go.dup (pc' := 137) d3_136 rfl rfl ?_
    refine Go.iconst (pc' := 138) (v := (4 : Int32)) d3_137 rfl rfl ?_
    refine Go.aloadN (pc' := 139) d3_138 rfl rfl rfl ?_
    refine Go.iconst (pc' := 140) (v := (4 : Int32)) d3_139 rfl rfl ?_
    refine Go.ldI (pc' := 141) (k := 4) (v := (.int x4)) f_2029 rfl rfl d3_140 rfl ?_
    refine Go.stI (pc' := 142) (k := 4) A_2028 rfl (by show 4 < 5; decide) d3_141 g_1991 rfl ?_
    intro h_2035 W_2036 A_2037
    have f_2038 : Ary Z h_2035 b .int [(.int x0), (.int x1), (.int x2), (.int x3), (.int x4), (.int 0)] := f_2029.sm (Sm.wr W_2036 n_1990)
    have t_2039 : b < h_2035.size := Nat.lt_of_lt_of_le t_2030 (Nat.le_of_eq W_2036.size.symm)
    have t_2040 : a_1985 < h_2035.size := Nat.lt_of_lt_of_le t_2031 (Nat.le_of_eq W_2036.size.symm)
    have z_2041 : n0 ≤ h_2035.size := Nat.le_trans z_2032 (Nat.le_of_eq W_2036.size.symm)
    have b_2042 : h0.size ≤ h_2035.size := Nat.le_trans b_2033 (Nat.le_of_eq W_2036.size.symm)
    have K_2043 : Keep h0 h_2035 [] := K_2034.wr W_2036 (Or.inr g_1992)
    change Ary Z h_2035 a_1985 .int [(.int x0), (.int x1), (.int x2), (.int x3), (.int x4)] at A_2037
    exact Go.retA d3_142 rfl rfl rfl ⟨a_1985, rfl, K_2043, A_2037, g_1992, t_2040⟩ (by decide) (by decide)
  · obtain rfl : m = (6 : Int32) := Int32.toInt_inj.mp hm
    change Ary Z h0 b .int [(.int x0), (.int x1), (.int x2), (.int x3), (.int x4), (.int x5)] at hA
    show Go _ _ _ _ _ _ _ _ _ _ _ _ h0 0 0 0 #[.val (.ref b), .val (.int 6)] []
    refine Go.iloadN (pc' := 1) d3_0 rfl rfl ?_
    refine Go.ifc (pc1 := 8) (pc2 := 4) d3_1 (by decide) (by decide) rfl (fun (c_2044 : (6 : Int) ≠ 0) => ?_) (fun (c_2044 : (6 : Int) = 0) => ?_)
    rotate_left
    · exact absurd c_2044 (by decide)
    refine Go.iloadN (pc' := 9) d3_8 rfl rfl ?_
    refine Go.iconst (pc' := 10) (v := (1 : Int32)) d3_9 rfl rfl ?_
    refine Go.icmp (pc1 := 23) (pc2 := 13) d3_10 (by decide) (by decide) rfl (fun (c_2045 : (6 : Int) ≠ (1 : Int)) => ?_) (fun (c_2045 : (6 : Int) = (1 : Int)) => ?_)
    rotate_left
    · exact absurd c_2045 (by decide)
    refine Go.iloadN (pc' := 24) d3_23 rfl rfl ?_
    refine Go.iconst (pc' := 25) (v := (2 : Int32)) d3_24 rfl rfl ?_
    refine Go.icmp (pc1 := 44) (pc2 := 28) d3_25 (by decide) (by decide) rfl (fun (c_2046 : (6 : Int) ≠ (2 : Int)) => ?_) (fun (c_2046 : (6 : Int) = (2 : Int)) => ?_)
    rotate_left
    · exact absurd c_2046 (by decide)
    refine Go.iloadN (pc' := 45) d3_44 rfl rfl ?_
    refine Go.iconst (pc' := 46) (v := (3 : Int32)) d3_45 rfl rfl ?_
    refine Go.icmp (pc1 := 71) (pc2 := 49) d3_46 (by decide) (by decide) rfl (fun (c_2047 : (6 : Int) ≠ (3 : Int)) => ?_) (fun (c_2047 : (6 : Int) = (3 : Int)) => ?_)
    rotate_left
    · exact absurd c_2047 (by decide)
    refine Go.iloadN (pc' := 72) d3_71 rfl rfl ?_
    refine Go.iconst (pc' := 73) (v := (4 : Int32)) d3_72 rfl rfl ?_
    refine Go.icmp (pc1 := 104) (pc2 := 76) d3_73 (by decide) (by decide) rfl (fun (c_2048 : (6 : Int) ≠ (4 : Int)) => ?_) (fun (c_2048 : (6 : Int) = (4 : Int)) => ?_)
    rotate_left
    · exact absurd c_2048 (by decide)
    refine Go.iloadN (pc' := 105) d3_104 rfl rfl ?_
    refine Go.iconst (pc' := 106) (v := (5 : Int32)) d3_105 rfl rfl ?_
    refine Go.icmp (pc1 := 143) (pc2 := 109) d3_106 (by decide) (by decide) rfl (fun (c_2049 : (6 : Int) ≠ (5 : Int)) => ?_) (fun (c_2049 : (6 : Int) = (5 : Int)) => ?_)
    rotate_left
    · exact absurd c_2049 (by decide)
    refine Go.bipush (pc' := 145) (v := (6 : Int32)) d3_143 rfl rfl ?_
    refine Go.newA (pc' := 147) (k := 6) (ty := .int) (cap := 6) (own_w hw 6 rfl) rfl rfl (by decide) (by decide) d3_145 (by decide) (by decide) rfl ?_
    intro h_2050 a_2051 q_2052 E_2053 A_2054
    have n_2056 : b ≠ a_2051 := Nat.ne_of_lt (q_2052 ▸ hA.lt)
    have g_2057 : n0 ≤ a_2051 := q_2052 ▸ z0
    have g_2058 : h0.size ≤ a_2051 := q_2052 ▸ (Nat.le_refl _)
    have f_2059 : Ary Z h_2050 b .int [(.int x0), (.int x1), (.int x2), (.int x3), (.int x4), (.int x5)] := hA.sm (Sm.ext E_2053)
    have t_2060 : b < h_2050.size := Nat.lt_of_lt_of_le hA.lt E_2053.1
    have z_2061 : n0 ≤ h_2050.size := Nat.le_trans z0 E_2053.1
    have b_2062 : h0.size ≤ h_2050.size := Nat.le_trans (Nat.le_refl _) E_2053.1
    have K_2063 : Keep h0 h_2050 [] := (Keep.refl _ _).ext E_2053
    have t_2064 : a_2051 < h_2050.size := A_2054.lt
    change Ary Z h_2050 a_2051 .int [(.int 0), (.int 0), (.int 0), (.int 0), (.int 0), (.int 0)] at A_2054
    refine Go.dup (pc' := 148) d3_147 rfl rfl ?_
    refine Go.iconst (pc' := 149) (v := (0 : Int32)) d3_148 rfl rfl ?_
    refine Go.aloadN (pc' := 150) d3_149 rfl rfl rfl ?_
    refine Go.iconst (pc' := 151) (v := (0 : Int32)) d3_150 rfl rfl ?_
    refine Go.ldI (pc' := 152) (k := 0) (v := (.int x0)) f_2059 rfl rfl d3_151 rfl ?_
    refine Go.stI (pc' := 153) (k := 0) A_2054 rfl (by show 0 < 6; decide) d3_152 g_2057 rfl ?_
    intro h_2065 W_2066 A_2067
    have f_2068 : Ary Z h_2065 b .int [(.int x0), (.int x1), (.int x2), (.int x3), (.int x4), (.int x5)] := f_2059.sm (Sm.wr W_2066 n_2056)
    have t_2069 : b < h_2065.size := Nat.lt_of_lt_of_le t_2060 (Nat.le_of_eq W_2066.size.symm)
    have t_2070 : a_2051 < h_2065.size := Nat.lt_of_lt_of_le t_2064 (Nat.le_of_eq W_2066.size.symm)
    have z_2071 : n0 ≤ h_2065.size := Nat.le_trans z_2061 (Nat.le_of_eq W_2066.size.symm)
    have b_2072 : h0.size ≤ h_2065.size := Nat.le_trans b_2062 (Nat.le_of_eq W_2066.size.symm)
    have K_2073 : Keep h0 h_2065 [] := K_2063.wr W_2066 (Or.inr g_2058)
    change Ary Z h_2065 a_2051 .int [(.int x0), (.int 0), (.int 0), (.int 0), (.int 0), (.int 0)] at A_2067
    refine Go.dup (pc' := 154) d3_153 rfl rfl ?_
    refine Go.iconst (pc' := 155) (v := (1 : Int32)) d3_154 rfl rfl ?_
    refine Go.aloadN (pc' := 156) d3_155 rfl rfl rfl ?_
    refine Go.iconst (pc' := 157) (v := (1 : Int32)) d3_156 rfl rfl ?_
    refine Go.ldI (pc' := 158) (k := 1) (v := (.int x1)) f_2068 rfl rfl d3_157 rfl ?_
    refine Go.stI (pc' := 159) (k := 1) A_2067 rfl (by show 1 < 6; decide) d3_158 g_2057 rfl ?_
    intro h_2074 W_2075 A_2076
    have f_2077 : Ary Z h_2074 b .int [(.int x0), (.int x1), (.int x2), (.int x3), (.int x4), (.int x5)] := f_2068.sm (Sm.wr W_2075 n_2056)
    have t_2078 : b < h_2074.size := Nat.lt_of_lt_of_le t_2069 (Nat.le_of_eq W_2075.size.symm)
    have t_2079 : a_2051 < h_2074.size := Nat.lt_of_lt_of_le t_2070 (Nat.le_of_eq W_2075.size.symm)
    have z_2080 : n0 ≤ h_2074.size := Nat.le_trans z_2071 (Nat.le_of_eq W_2075.size.symm)
    have b_2081 : h0.size ≤ h_2074.size := Nat.le_trans b_2072 (Nat.le_of_eq W_2075.size.symm)
    have K_2082 : Keep h0 h_2074 [] := K_2073.wr W_2075 (Or.inr g_2058)
    change Ary Z h_2074 a_2051 .int [(.int x0), (.int x1), (.int 0), (.int 0), (.int 0), (.int 0)] at A_2076
    refine Go.dup (pc' := 160) d3_159 rfl rfl ?_
    refine Go.iconst (pc' := 161) (v := (2 : Int32)) d3_160 rfl rfl ?_
    refine Go.aloadN (pc' := 162) d3_161 rfl rfl rfl ?_
    refine Go.iconst (pc' := 163) (v := (2 : Int32)) d3_162 rfl rfl ?_
    refine Go.ldI (pc' := 164) (k := 2) (v := (.int x2)) f_2077 rfl rfl d3_163 rfl ?_
    refine Go.stI (pc' := 165) (k := 2) A_2076 rfl (by show 2 < 6; decide) d3_164 g_2057 rfl ?_
    intro h_2083 W_2084 A_2085
    have f_2086 : Ary Z h_2083 b .int [(.int x0), (.int x1), (.int x2), (.int x3), (.int x4), (.int x5)] := f_2077.sm (Sm.wr W_2084 n_2056)
    have t_2087 : b < h_2083.size := Nat.lt_of_lt_of_le t_2078 (Nat.le_of_eq W_2084.size.symm)
    have t_2088 : a_2051 < h_2083.size := Nat.lt_of_lt_of_le t_2079 (Nat.le_of_eq W_2084.size.symm)
    have z_2089 : n0 ≤ h_2083.size := Nat.le_trans z_2080 (Nat.le_of_eq W_2084.size.symm)
    have b_2090 : h0.size ≤ h_2083.size := Nat.le_trans b_2081 (Nat.le_of_eq W_2084.size.symm)
    have K_2091 : Keep h0 h_2083 [] := K_2082.wr W_2084 (Or.inr g_2058)
    change Ary Z h_2083 a_2051 .int [(.int x0), (.int x1), (.int x2), (.int 0), (.int 0), (.int 0)] at A_2085
    refine Go.dup (pc' := 166) d3_165 rfl rfl ?_
    refine Go.iconst (pc' := 167) (v := (3 : Int32)) d3_166 rfl rfl ?_
    refine Go.aloadN (pc' := 168) d3_167 rfl rfl rfl ?_
    refine Go.iconst (pc' := 169) (v := (3 : Int32)) d3_168 rfl rfl ?_
    refine Go.ldI (pc' := 170) (k := 3) (v := (.int x3)) f_2086 rfl rfl d3_169 rfl ?_
    refine Go.stI (pc' := 171) (k := 3) A_2085 rfl (by show 3 < 6; decide) d3_170 g_2057 rfl ?_
    intro h_2092 W_2093 A_2094
    have f_2095 : Ary Z h_2092 b .int [(.int x0), (.int x1), (.int x2), (.int x3), (.int x4), (.int x5)] := f_2086.sm (Sm.wr W_2093 n_2056)
    have t_2096 : b < h_2092.size := Nat.lt_of_lt_of_le t_2087 (Nat.le_of_eq W_2093.size.symm)
    have t_2097 : a_2051 < h_2092.size := Nat.lt_of_lt_of_le t_2088 (Nat.le_of_eq W_2093.size.symm)
    have z_2098 : n0 ≤ h_2092.size := Nat.le_trans z_2089 (Nat.le_of_eq W_2093.size.symm)
    have b_2099 : h0.size ≤ h_2092.size := Nat.le_trans b_2090 (Nat.le_of_eq W_2093.size.symm)
    have K_2100 : Keep h0 h_2092 [] := K_2091.wr W_2093 (Or.inr g_2058)
    change Ary Z h_2092 a_2051 .int [(.int x0), (.int x1), (.int x2), (.int x3), (.int 0), (.int 0)] at A_2094
    refine Go.dup (pc' := 172) d3_171 rfl rfl ?_
    refine Go.iconst (pc' := 173) (v := (4 : Int32)) d3_172 rfl rfl ?_
    refine Go.aloadN (pc' := 174) d3_173 rfl rfl rfl ?_
    refine Go.iconst (pc' := 175) (v := (4 : Int32)) d3_174 rfl rfl ?_
    refine Go.ldI (pc' := 176) (k := 4) (v := (.int x4)) f_2095 rfl rfl d3_175 rfl ?_
    refine Go.stI (pc' := 177) (k := 4) A_2094 rfl (by show 4 < 6; decide) d3_176 g_2057 rfl ?_
    intro h_2101 W_2102 A_2103
    have f_2104 : Ary Z h_2101 b .int [(.int x0), (.int x1), (.int x2), (.int x3), (.int x4), (.int x5)] := f_2095.sm (Sm.wr W_2102 n_2056)
    have t_2105 : b < h_2101.size := Nat.lt_of_lt_of_le t_2096 (Nat.le_of_eq W_2102.size.symm)
    have t_2106 : a_2051 < h_2101.size := Nat.lt_of_lt_of_le t_2097 (Nat.le_of_eq W_2102.size.symm)
    have z_2107 : n0 ≤ h_2101.size := Nat.le_trans z_2098 (Nat.le_of_eq W_2102.size.symm)
    have b_2108 : h0.size ≤ h_2101.size := Nat.le_trans b_2099 (Nat.le_of_eq W_2102.size.symm)
    have K_2109 : Keep h0 h_2101 [] := K_2100.wr W_2102 (Or.inr g_2058)
    change Ary Z h_2101 a_2051 .int [(.int x0), (.int x1), (.int x2), (.int x3), (.int x4), (.int 0)] at A_2103
    refine Go.dup (pc' := 178) d3_177 rfl rfl ?_
    refine Go.iconst (pc' := 179) (v := (5 : Int32)) d3_178 rfl rfl ?_
    refine Go.aloadN (pc' := 180) d3_179 rfl rfl rfl ?_
    refine Go.iconst (pc' := 181) (v := (5 : Int32)) d3_180 rfl rfl ?_
    refine Go.ldI (pc' := 182) (k := 5) (v := (.int x5)) f_2104 rfl rfl d3_181 rfl ?_
    refine Go.stI (pc' := 183) (k := 5) A_2103 rfl (by show 5 < 6; decide) d3_182 g_2057 rfl ?_
    intro h_2110 W_2111 A_2112
    have f_2113 : Ary Z h_2110 b .int [(.int x0), (.int x1), (.int x2), (.int x3), (.int x4), (.int x5)] := f_2104.sm (Sm.wr W_2111 n_2056)
    have t_2114 : b < h_2110.size := Nat.lt_of_lt_of_le t_2105 (Nat.le_of_eq W_2111.size.symm)
    have t_2115 : a_2051 < h_2110.size := Nat.lt_of_lt_of_le t_2106 (Nat.le_of_eq W_2111.size.symm)
    have z_2116 : n0 ≤ h_2110.size := Nat.le_trans z_2107 (Nat.le_of_eq W_2111.size.symm)
    have b_2117 : h0.size ≤ h_2110.size := Nat.le_trans b_2108 (Nat.le_of_eq W_2111.size.symm)
    have K_2118 : Keep h0 h_2110 [] := K_2109.wr W_2111 (Or.inr g_2058)
    change Ary Z h_2110 a_2051 .int [(.int x0), (.int x1), (.int x2), (.int x3), (.int x4), (.int x5)] at A_2112
    exact Go.retA d3_183 rfl rfl rfl ⟨a_2051, rfl, K_2118, A_2112, g_2058, t_2115⟩ (by decide) (by decide)
set_option maxRecDepth 65536 in
set_option maxHeartbeats 40000000 in
theorem rm1 (l : Launch) (Z : State) (a0 : Array Value) (hw : ∀ d ∈ tables_1, d.before a0 Z = true) (ws : List Jvm.Cond) (y0 y1 y2 y3 y4 : Int32) (h0 : Heap) (n0 : Nat) (z0 : n0 ≤ h0.size)  : MetFree l x (head1 (Jvm.Cond.code x code maxLocals ret :: ws) room_1) (fun a U => a = #[(.int y0), (.int y1), (.int y2), (.int y3), (.int y4)] ∧ Z.Warmed39 U.vm ∧ U.heap = h0) (fun _ _ _ _ _ => True) (fun _ U o U' => ∃ v L, o = .returned v ∧ (((fun v h => v = some (.int 1)) v U'.heap ∧ h0.size ≤ U'.heap.size) ∧ Fr n0 L) ∧ GoEnd true U o U' L 32 1280) := by
  refine met_go (y := x) (Q := fun v h => v = some (.int 1)) (Ls := #[.val (.int y0), .val (.int y1), .val (.int y2), .val (.int y3), .val (.int y4), .unset, .unset, .unset, .unset, .unset, .unset, .unset, .unset, .unset, .unset, .unset, .unset, .unset, .unset, .unset, .unset, .unset, .unset, .unset, .unset, .unset, .unset, .unset, .unset, .unset]) (plainFor_of_name pn2) (fun m => by first | (simp [entryFrame, mkF, argsToLocals, Value.category, maxLocals]; done) | rfl) ?_
  show Go _ _ _ _ _ _ _ _ _ _ _ _ h0 0 0 0 #[.val (.int y0), .val (.int y1), .val (.int y2), .val (.int y3), .val (.int y4), .unset, .unset, .unset, .unset, .unset, .unset, .unset, .unset, .unset, .unset, .unset, .unset, .unset, .unset, .unset, .unset, .unset, .unset, .unset, .unset, .unset, .unset, .unset, .unset, .unset] []
  refine Go.iconst (pc' := 1) (v := (1 : Int32)) at_0 rfl rfl ?_
  refine Go.iloadN (pc' := 2) at_1 rfl rfl ?_
  refine Go.bipush (pc' := 4) (v := (7 : Int32)) at_2 rfl rfl ?_
  refine Go.iand (pc' := 5) at_4 rfl ?_
  refine Go.iadd (pc' := 6) at_5 rfl ?_
  generalize eg_2119 : (1 : Int32) + (y1 &&& (7 : Int32)) = g_2119
  have k_2120 : 1 ≤ g_2119.toInt ∧ g_2119.toInt ≤ 8 := by
    rw [← eg_2119]
    have : (1 : Int32).toInt = 1 := by decide
    have : (7 : Int32).toInt = 7 := by decide
    have := c_mask y1 (7 : Int32) 3 (by decide) (by decide)
    have := rng32 (y1 &&& (7 : Int32))
    have := rng32 y1
    have := c_iadd (1 : Int32) (y1 &&& (7 : Int32))
    have := rng32 ((1 : Int32) + (y1 &&& (7 : Int32)))
    omega
  refine Go.istore (pc' := 8) (Ls' := #[.val (.int y0), .val (.int y1), .val (.int y2), .val (.int y3), .val (.int y4), .val (.int g_2119), .unset, .unset, .unset, .unset, .unset, .unset, .unset, .unset, .unset, .unset, .unset, .unset, .unset, .unset, .unset, .unset, .unset, .unset, .unset, .unset, .unset, .unset, .unset, .unset]) at_6 rfl rfl ?_
  refine Go.iconst (pc' := 9) (v := (1 : Int32)) at_8 rfl rfl ?_
  refine Go.iloadN (pc' := 10) at_9 rfl rfl ?_
  refine Go.iconst (pc' := 11) (v := (3 : Int32)) at_10 rfl rfl ?_
  refine Go.iushr (pc' := 12) at_11 rfl ?_
  refine Go.bipush (pc' := 14) (v := (7 : Int32)) at_12 rfl rfl ?_
  refine Go.iand (pc' := 15) at_14 rfl ?_
  refine Go.iadd (pc' := 16) at_15 rfl ?_
  generalize eg_2121 : (1 : Int32) + (((y1.toUInt32 >>> ((3 : Int32) &&& 31).toUInt32).toInt32) &&& (7 : Int32)) = g_2121
  have k_2122 : 1 ≤ g_2121.toInt ∧ g_2121.toInt ≤ 8 := by
    rw [← eg_2121]
    have : (1 : Int32).toInt = 1 := by decide
    have : (3 : Int32).toInt = 3 := by decide
    have := c_iushr y1 (3 : Int32) 3 (by decide) (by decide)
    have := rng32 ((y1.toUInt32 >>> ((3 : Int32) &&& 31).toUInt32).toInt32)
    have := rng32 y1
    have : (7 : Int32).toInt = 7 := by decide
    have := c_mask ((y1.toUInt32 >>> ((3 : Int32) &&& 31).toUInt32).toInt32) (7 : Int32) 3 (by decide) (by decide)
    have := rng32 (((y1.toUInt32 >>> ((3 : Int32) &&& 31).toUInt32).toInt32) &&& (7 : Int32))
    have := c_iadd (1 : Int32) (((y1.toUInt32 >>> ((3 : Int32) &&& 31).toUInt32).toInt32) &&& (7 : Int32))
    have := rng32 ((1 : Int32) + (((y1.toUInt32 >>> ((3 : Int32) &&& 31).toUInt32).toInt32) &&& (7 : Int32)))
    omega
  refine Go.istore (pc' := 18) (Ls' := #[.val (.int y0), .val (.int y1), .val (.int y2), .val (.int y3), .val (.int y4), .val (.int g_2119), .val (.int g_2121), .unset, .unset, .unset, .unset, .unset, .unset, .unset, .unset, .unset, .unset, .unset, .unset, .unset, .unset, .unset, .unset, .unset, .unset, .unset, .unset, .unset, .unset, .unset]) at_16 rfl rfl ?_
  refine Go.iconst (pc' := 19) (v := (1 : Int32)) at_18 rfl rfl ?_
  refine Go.iloadN (pc' := 20) at_19 rfl rfl ?_
  refine Go.bipush (pc' := 22) (v := (6 : Int32)) at_20 rfl rfl ?_
  refine Go.iushr (pc' := 23) at_22 rfl ?_
  refine Go.bipush (pc' := 25) (v := (7 : Int32)) at_23 rfl rfl ?_
  refine Go.iand (pc' := 26) at_25 rfl ?_
  refine Go.iadd (pc' := 27) at_26 rfl ?_
  generalize eg_2123 : (1 : Int32) + (((y1.toUInt32 >>> ((6 : Int32) &&& 31).toUInt32).toInt32) &&& (7 : Int32)) = g_2123
  have k_2124 : 1 ≤ g_2123.toInt ∧ g_2123.toInt ≤ 8 := by
    rw [← eg_2123]
    have : (1 : Int32).toInt = 1 := by decide
    have : (6 : Int32).toInt = 6 := by decide
    have := c_iushr y1 (6 : Int32) 6 (by decide) (by decide)
    have := rng32 ((y1.toUInt32 >>> ((6 : Int32) &&& 31).toUInt32).toInt32)
    have := rng32 y1
    have : (7 : Int32).toInt = 7 := by decide
    have := c_mask ((y1.toUInt32 >>> ((6 : Int32) &&& 31).toUInt32).toInt32) (7 : Int32) 3 (by decide) (by decide)
    have := rng32 (((y1.toUInt32 >>> ((6 : Int32) &&& 31).toUInt32).toInt32) &&& (7 : Int32))
    have := c_iadd (1 : Int32) (((y1.toUInt32 >>> ((6 : Int32) &&& 31).toUInt32).toInt32) &&& (7 : Int32))
    have := rng32 ((1 : Int32) + (((y1.toUInt32 >>> ((6 : Int32) &&& 31).toUInt32).toInt32) &&& (7 : Int32)))
    omega
  refine Go.istore (pc' := 29) (Ls' := #[.val (.int y0), .val (.int y1), .val (.int y2), .val (.int y3), .val (.int y4), .val (.int g_2119), .val (.int g_2121), .val (.int g_2123), .unset, .unset, .unset, .unset, .unset, .unset, .unset, .unset, .unset, .unset, .unset, .unset, .unset, .unset, .unset, .unset, .unset, .unset, .unset, .unset, .unset, .unset]) at_27 rfl rfl ?_
  refine Go.iconst (pc' := 30) (v := (1 : Int32)) at_29 rfl rfl ?_
  refine Go.iloadN (pc' := 31) at_30 rfl rfl ?_
  refine Go.bipush (pc' := 33) (v := (9 : Int32)) at_31 rfl rfl ?_
  refine Go.iushr (pc' := 34) at_33 rfl ?_
  refine Go.bipush (pc' := 36) (v := (7 : Int32)) at_34 rfl rfl ?_
  refine Go.iand (pc' := 37) at_36 rfl ?_
  refine Go.iadd (pc' := 38) at_37 rfl ?_
  generalize eg_2125 : (1 : Int32) + (((y1.toUInt32 >>> ((9 : Int32) &&& 31).toUInt32).toInt32) &&& (7 : Int32)) = g_2125
  have k_2126 : 1 ≤ g_2125.toInt ∧ g_2125.toInt ≤ 8 := by
    rw [← eg_2125]
    have : (1 : Int32).toInt = 1 := by decide
    have : (9 : Int32).toInt = 9 := by decide
    have := c_iushr y1 (9 : Int32) 9 (by decide) (by decide)
    have := rng32 ((y1.toUInt32 >>> ((9 : Int32) &&& 31).toUInt32).toInt32)
    have := rng32 y1
    have : (7 : Int32).toInt = 7 := by decide
    have := c_mask ((y1.toUInt32 >>> ((9 : Int32) &&& 31).toUInt32).toInt32) (7 : Int32) 3 (by decide) (by decide)
    have := rng32 (((y1.toUInt32 >>> ((9 : Int32) &&& 31).toUInt32).toInt32) &&& (7 : Int32))
    have := c_iadd (1 : Int32) (((y1.toUInt32 >>> ((9 : Int32) &&& 31).toUInt32).toInt32) &&& (7 : Int32))
    have := rng32 ((1 : Int32) + (((y1.toUInt32 >>> ((9 : Int32) &&& 31).toUInt32).toInt32) &&& (7 : Int32)))
    omega
  refine Go.istore (pc' := 40) (Ls' := #[.val (.int y0), .val (.int y1), .val (.int y2), .val (.int y3), .val (.int y4), .val (.int g_2119), .val (.int g_2121), .val (.int g_2123), .val (.int g_2125), .unset, .unset, .unset, .unset, .unset, .unset, .unset, .unset, .unset, .unset, .unset, .unset, .unset, .unset, .unset, .unset, .unset, .unset, .unset, .unset, .unset]) at_38 rfl rfl ?_
  refine Go.iconst (pc' := 41) (v := (1 : Int32)) at_40 rfl rfl ?_
  refine Go.iloadN (pc' := 42) at_41 rfl rfl ?_
  refine Go.bipush (pc' := 44) (v := (12 : Int32)) at_42 rfl rfl ?_
  refine Go.iushr (pc' := 45) at_44 rfl ?_
  refine Go.bipush (pc' := 47) (v := (7 : Int32)) at_45 rfl rfl ?_
  refine Go.iand (pc' := 48) at_47 rfl ?_
  refine Go.iadd (pc' := 49) at_48 rfl ?_
  generalize eg_2127 : (1 : Int32) + (((y1.toUInt32 >>> ((12 : Int32) &&& 31).toUInt32).toInt32) &&& (7 : Int32)) = g_2127
  have k_2128 : 1 ≤ g_2127.toInt ∧ g_2127.toInt ≤ 8 := by
    rw [← eg_2127]
    have : (1 : Int32).toInt = 1 := by decide
    have : (12 : Int32).toInt = 12 := by decide
    have := c_iushr y1 (12 : Int32) 12 (by decide) (by decide)
    have := rng32 ((y1.toUInt32 >>> ((12 : Int32) &&& 31).toUInt32).toInt32)
    have := rng32 y1
    have : (7 : Int32).toInt = 7 := by decide
    have := c_mask ((y1.toUInt32 >>> ((12 : Int32) &&& 31).toUInt32).toInt32) (7 : Int32) 3 (by decide) (by decide)
    have := rng32 (((y1.toUInt32 >>> ((12 : Int32) &&& 31).toUInt32).toInt32) &&& (7 : Int32))
    have := c_iadd (1 : Int32) (((y1.toUInt32 >>> ((12 : Int32) &&& 31).toUInt32).toInt32) &&& (7 : Int32))
    have := rng32 ((1 : Int32) + (((y1.toUInt32 >>> ((12 : Int32) &&& 31).toUInt32).toInt32) &&& (7 : Int32)))
    omega
  refine Go.istore (pc' := 51) (Ls' := #[.val (.int y0), .val (.int y1), .val (.int y2), .val (.int y3), .val (.int y4), .val (.int g_2119), .val (.int g_2121), .val (.int g_2123), .val (.int g_2125), .val (.int g_2127), .unset, .unset, .unset, .unset, .unset, .unset, .unset, .unset, .unset, .unset, .unset, .unset, .unset, .unset, .unset, .unset, .unset, .unset, .unset, .unset]) at_49 rfl rfl ?_
  refine Go.iload (pc' := 53) at_51 rfl rfl ?_
  refine Go.iload (pc' := 55) at_53 rfl rfl ?_
  refine Go.iadd (pc' := 56) at_55 rfl ?_
  refine Go.iload (pc' := 58) at_56 rfl rfl ?_
  refine Go.iadd (pc' := 59) at_58 rfl ?_
  refine Go.iload (pc' := 61) at_59 rfl rfl ?_
  refine Go.iadd (pc' := 62) at_61 rfl ?_
  refine Go.iload (pc' := 64) at_62 rfl rfl ?_
  refine Go.iadd (pc' := 65) at_64 rfl ?_
  generalize eg_2129 : (((g_2119 + g_2121) + g_2123) + g_2125) + g_2127 = g_2129
  have k_2130 : g_2129.toInt = g_2119.toInt + g_2121.toInt + g_2123.toInt + g_2125.toInt + g_2127.toInt := by
    rw [← eg_2129]
    have := c_iadd g_2119 g_2121
    have := rng32 (g_2119 + g_2121)
    have := rng32 g_2119
    have := rng32 g_2121
    have := c_iadd (g_2119 + g_2121) g_2123
    have := rng32 ((g_2119 + g_2121) + g_2123)
    have := rng32 g_2123
    have := c_iadd ((g_2119 + g_2121) + g_2123) g_2125
    have := rng32 (((g_2119 + g_2121) + g_2123) + g_2125)
    have := rng32 g_2125
    have := c_iadd (((g_2119 + g_2121) + g_2123) + g_2125) g_2127
    have := rng32 ((((g_2119 + g_2121) + g_2123) + g_2125) + g_2127)
    have := rng32 g_2127
    omega
  refine Go.istore (pc' := 67) (Ls' := #[.val (.int y0), .val (.int y1), .val (.int y2), .val (.int y3), .val (.int y4), .val (.int g_2119), .val (.int g_2121), .val (.int g_2123), .val (.int g_2125), .val (.int g_2127), .val (.int g_2129), .unset, .unset, .unset, .unset, .unset, .unset, .unset, .unset, .unset, .unset, .unset, .unset, .unset, .unset, .unset, .unset, .unset, .unset, .unset]) at_65 rfl rfl ?_
  refine Go.iloadN (pc' := 68) at_67 rfl rfl ?_
  refine Go.ldcI (pc' := 70) (own_w hw 0 rfl) at_68 rfl ?_
  refine Go.iand (pc' := 71) at_70 rfl ?_
  generalize en_2131 : y0 &&& (2147483647 : Int32) = n_2131
  have k_2132 : 0 ≤ n_2131.toInt := by
    rw [← en_2131]
    have : (2147483647 : Int32).toInt = 2147483647 := by decide
    have := c_mask y0 (2147483647 : Int32) 31 (by decide) (by decide)
    have := rng32 (y0 &&& (2147483647 : Int32))
    have := rng32 y0
    omega
  refine Go.ldcI (pc' := 73) (own_w hw 1 rfl) at_71 rfl ?_
  refine Go.iload (pc' := 75) at_73 rfl rfl ?_
  refine Go.isub (pc' := 76) at_75 rfl ?_
  generalize en_2133 : (2147483646 : Int32) - g_2129 = n_2133
  have kn2 : n_2133.toInt = 2147483646 - g_2129.toInt := by rw [← en_2133]; exact own_subM g_2129 (by omega)
  refine Go.callS (pc' := 79) (argsL := [(.int n_2131), (.int n_2133)]) (rest := []) (W := 0) (own_w hw 2 rfl) (own_w hw 3 rfl) (own_w hw 4 rfl) (own_w hw 5 rfl) (by decide) (m_min l Z a0 hw n_2131 n_2133 h0 n0 z0) at_76 rfl pd2 rfl rfl (Nat.le_of_eq rfl) (by decide) (by decide) (by decide) (by decide) rfl ?_
  rintro _ _ ⟨v0, rfl, rfl, hv0⟩
  show Go _ _ _ _ _ _ _ _ _ _ _ _ h0 (0 + 0) (0 + 0) 79 #[.val (.int y0), .val (.int y1), .val (.int y2), .val (.int y3), .val (.int y4), .val (.int g_2119), .val (.int g_2121), .val (.int g_2123), .val (.int g_2125), .val (.int g_2127), .val (.int g_2129), .unset, .unset, .unset, .unset, .unset, .unset, .unset, .unset, .unset, .unset, .unset, .unset, .unset, .unset, .unset, .unset, .unset, .unset, .unset] [(.int v0)]
  have k0 : 0 ≤ v0.toInt ∧ v0.toInt + g_2129.toInt ≤ 2147483646 := by omega
  refine Go.istore (pc' := 81) (Ls' := #[.val (.int y0), .val (.int y1), .val (.int y2), .val (.int y3), .val (.int y4), .val (.int g_2119), .val (.int g_2121), .val (.int g_2123), .val (.int g_2125), .val (.int g_2127), .val (.int g_2129), .val (.int v0), .unset, .unset, .unset, .unset, .unset, .unset, .unset, .unset, .unset, .unset, .unset, .unset, .unset, .unset, .unset, .unset, .unset, .unset]) at_79 rfl rfl ?_
  refine Go.iload (pc' := 83) at_81 rfl rfl ?_
  refine Go.iload (pc' := 85) at_83 rfl rfl ?_
  refine Go.iadd (pc' := 86) at_85 rfl ?_
  generalize ev_2134 : v0 + g_2119 = v_2134
  have k_2135 : v_2134.toInt = v0.toInt + g_2119.toInt := by
    rw [← ev_2134]
    have := c_iadd v0 g_2119
    have := rng32 (v0 + g_2119)
    have := rng32 v0
    have := rng32 g_2119
    omega
  refine Go.istore (pc' := 88) (Ls' := #[.val (.int y0), .val (.int y1), .val (.int y2), .val (.int y3), .val (.int y4), .val (.int g_2119), .val (.int g_2121), .val (.int g_2123), .val (.int g_2125), .val (.int g_2127), .val (.int g_2129), .val (.int v0), .val (.int v_2134), .unset, .unset, .unset, .unset, .unset, .unset, .unset, .unset, .unset, .unset, .unset, .unset, .unset, .unset, .unset, .unset, .unset]) at_86 rfl rfl ?_
  refine Go.iload (pc' := 90) at_88 rfl rfl ?_
  refine Go.iload (pc' := 92) at_90 rfl rfl ?_
  refine Go.iadd (pc' := 93) at_92 rfl ?_
  generalize ev_2136 : v_2134 + g_2121 = v_2136
  have k_2137 : v_2136.toInt = v_2134.toInt + g_2121.toInt := by
    rw [← ev_2136]
    have := c_iadd v_2134 g_2121
    have := rng32 (v_2134 + g_2121)
    have := rng32 v_2134
    have := rng32 g_2121
    omega
  refine Go.istore (pc' := 95) (Ls' := #[.val (.int y0), .val (.int y1), .val (.int y2), .val (.int y3), .val (.int y4), .val (.int g_2119), .val (.int g_2121), .val (.int g_2123), .val (.int g_2125), .val (.int g_2127), .val (.int g_2129), .val (.int v0), .val (.int v_2134), .val (.int v_2136), .unset, .unset, .unset, .unset, .unset, .unset, .unset, .unset, .unset, .unset, .unset, .unset, .unset, .unset, .unset, .unset]) at_93 rfl rfl ?_
  refine Go.iload (pc' := 97) at_95 rfl rfl ?_
  refine Go.iload (pc' := 99) at_97 rfl rfl ?_
  refine Go.iadd (pc' := 100) at_99 rfl ?_
  generalize ev_2138 : v_2136 + g_2123 = v_2138
  have k_2139 : v_2138.toInt = v_2136.toInt + g_2123.toInt := by
    rw [← ev_2138]
    have := c_iadd v_2136 g_2123
    have := rng32 (v_2136 + g_2123)
    have := rng32 v_2136
    have := rng32 g_2123
    omega
  refine Go.istore (pc' := 102) (Ls' := #[.val (.int y0), .val (.int y1), .val (.int y2), .val (.int y3), .val (.int y4), .val (.int g_2119), .val (.int g_2121), .val (.int g_2123), .val (.int g_2125), .val (.int g_2127), .val (.int g_2129), .val (.int v0), .val (.int v_2134), .val (.int v_2136), .val (.int v_2138), .unset, .unset, .unset, .unset, .unset, .unset, .unset, .unset, .unset, .unset, .unset, .unset, .unset, .unset, .unset]) at_100 rfl rfl ?_
  refine Go.iload (pc' := 104) at_102 rfl rfl ?_
  refine Go.iload (pc' := 106) at_104 rfl rfl ?_
  refine Go.iadd (pc' := 107) at_106 rfl ?_
  generalize ev_2140 : v_2138 + g_2125 = v_2140
  have k_2141 : v_2140.toInt = v_2138.toInt + g_2125.toInt := by
    rw [← ev_2140]
    have := c_iadd v_2138 g_2125
    have := rng32 (v_2138 + g_2125)
    have := rng32 v_2138
    have := rng32 g_2125
    omega
  refine Go.istore (pc' := 109) (Ls' := #[.val (.int y0), .val (.int y1), .val (.int y2), .val (.int y3), .val (.int y4), .val (.int g_2119), .val (.int g_2121), .val (.int g_2123), .val (.int g_2125), .val (.int g_2127), .val (.int g_2129), .val (.int v0), .val (.int v_2134), .val (.int v_2136), .val (.int v_2138), .val (.int v_2140), .unset, .unset, .unset, .unset, .unset, .unset, .unset, .unset, .unset, .unset, .unset, .unset, .unset, .unset]) at_107 rfl rfl ?_
  refine Go.iload (pc' := 111) at_109 rfl rfl ?_
  refine Go.iload (pc' := 113) at_111 rfl rfl ?_
  refine Go.iadd (pc' := 114) at_113 rfl ?_
  generalize ev_2142 : v_2140 + g_2127 = v_2142
  have k_2143 : v_2142.toInt = v_2140.toInt + g_2127.toInt := by
    rw [← ev_2142]
    have := c_iadd v_2140 g_2127
    have := rng32 (v_2140 + g_2127)
    have := rng32 v_2140
    have := rng32 g_2127
    omega
  have hasc : 0 ≤ v0.toInt ∧ v0.toInt < v_2134.toInt ∧ v_2134.toInt < v_2136.toInt ∧ v_2136.toInt < v_2138.toInt ∧ v_2138.toInt < v_2140.toInt ∧ v_2140.toInt < v_2142.toInt := by omega
  have hdum := True.intro
  refine Go.istore (pc' := 116) (Ls' := #[.val (.int y0), .val (.int y1), .val (.int y2), .val (.int y3), .val (.int y4), .val (.int g_2119), .val (.int g_2121), .val (.int g_2123), .val (.int g_2125), .val (.int g_2127), .val (.int g_2129), .val (.int v0), .val (.int v_2134), .val (.int v_2136), .val (.int v_2138), .val (.int v_2140), .val (.int v_2142), .unset, .unset, .unset, .unset, .unset, .unset, .unset, .unset, .unset, .unset, .unset, .unset, .unset]) at_114 rfl rfl ?_
  refine Go.bipush (pc' := 118) (v := (6 : Int32)) at_116 rfl rfl ?_
  refine Go.newA (pc' := 120) (k := 6) (ty := .int) (cap := 6) (own_w hw 6 rfl) rfl rfl (by decide) (by decide) at_118 (by decide) (by decide) rfl ?_
  intro h_2144 a_2145 q_2146 E_2147 A_2148
  have g_2150 : n0 ≤ a_2145 := q_2146 ▸ z0
  have z_2151 : n0 ≤ h_2144.size := Nat.le_trans z0 E_2147.1
  have t_2152 : a_2145 < h_2144.size := A_2148.lt
  change Ary Z h_2144 a_2145 .int [(.int 0), (.int 0), (.int 0), (.int 0), (.int 0), (.int 0)] at A_2148
  refine Go.dup (pc' := 121) at_120 rfl rfl ?_
  refine Go.iconst (pc' := 122) (v := (0 : Int32)) at_121 rfl rfl ?_
  refine Go.iload (pc' := 124) at_122 rfl rfl ?_
  refine Go.stI (pc' := 125) (k := 0) A_2148 rfl (by show 0 < 6; decide) at_124 g_2150 rfl ?_
  intro h_2153 W_2154 A_2155
  have t_2156 : a_2145 < h_2153.size := Nat.lt_of_lt_of_le t_2152 (Nat.le_of_eq W_2154.size.symm)
  have z_2157 : n0 ≤ h_2153.size := Nat.le_trans z_2151 (Nat.le_of_eq W_2154.size.symm)
  change Ary Z h_2153 a_2145 .int [(.int v0), (.int 0), (.int 0), (.int 0), (.int 0), (.int 0)] at A_2155
  refine Go.dup (pc' := 126) at_125 rfl rfl ?_
  refine Go.iconst (pc' := 127) (v := (1 : Int32)) at_126 rfl rfl ?_
  refine Go.iload (pc' := 129) at_127 rfl rfl ?_
  refine Go.stI (pc' := 130) (k := 1) A_2155 rfl (by show 1 < 6; decide) at_129 g_2150 rfl ?_
  intro h_2158 W_2159 A_2160
  have t_2161 : a_2145 < h_2158.size := Nat.lt_of_lt_of_le t_2156 (Nat.le_of_eq W_2159.size.symm)
  have z_2162 : n0 ≤ h_2158.size := Nat.le_trans z_2157 (Nat.le_of_eq W_2159.size.symm)
  change Ary Z h_2158 a_2145 .int [(.int v0), (.int v_2134), (.int 0), (.int 0), (.int 0), (.int 0)] at A_2160
  refine Go.dup (pc' := 131) at_130 rfl rfl ?_
  refine Go.iconst (pc' := 132) (v := (2 : Int32)) at_131 rfl rfl ?_
  refine Go.iload (pc' := 134) at_132 rfl rfl ?_
  refine Go.stI (pc' := 135) (k := 2) A_2160 rfl (by show 2 < 6; decide) at_134 g_2150 rfl ?_
  intro h_2163 W_2164 A_2165
  have t_2166 : a_2145 < h_2163.size := Nat.lt_of_lt_of_le t_2161 (Nat.le_of_eq W_2164.size.symm)
  have z_2167 : n0 ≤ h_2163.size := Nat.le_trans z_2162 (Nat.le_of_eq W_2164.size.symm)
  change Ary Z h_2163 a_2145 .int [(.int v0), (.int v_2134), (.int v_2136), (.int 0), (.int 0), (.int 0)] at A_2165
  refine Go.dup (pc' := 136) at_135 rfl rfl ?_
  refine Go.iconst (pc' := 137) (v := (3 : Int32)) at_136 rfl rfl ?_
  refine Go.iload (pc' := 139) at_137 rfl rfl ?_
  refine Go.stI (pc' := 140) (k := 3) A_2165 rfl (by show 3 < 6; decide) at_139 g_2150 rfl ?_
  intro h_2168 W_2169 A_2170
  have t_2171 : a_2145 < h_2168.size := Nat.lt_of_lt_of_le t_2166 (Nat.le_of_eq W_2169.size.symm)
  have z_2172 : n0 ≤ h_2168.size := Nat.le_trans z_2167 (Nat.le_of_eq W_2169.size.symm)
  change Ary Z h_2168 a_2145 .int [(.int v0), (.int v_2134), (.int v_2136), (.int v_2138), (.int 0), (.int 0)] at A_2170
  refine Go.dup (pc' := 141) at_140 rfl rfl ?_
  refine Go.iconst (pc' := 142) (v := (4 : Int32)) at_141 rfl rfl ?_
  refine Go.iload (pc' := 144) at_142 rfl rfl ?_
  refine Go.stI (pc' := 145) (k := 4) A_2170 rfl (by show 4 < 6; decide) at_144 g_2150 rfl ?_
  intro h_2173 W_2174 A_2175
  have t_2176 : a_2145 < h_2173.size := Nat.lt_of_lt_of_le t_2171 (Nat.le_of_eq W_2174.size.symm)
  have z_2177 : n0 ≤ h_2173.size := Nat.le_trans z_2172 (Nat.le_of_eq W_2174.size.symm)
  change Ary Z h_2173 a_2145 .int [(.int v0), (.int v_2134), (.int v_2136), (.int v_2138), (.int v_2140), (.int 0)] at A_2175
  refine Go.dup (pc' := 146) at_145 rfl rfl ?_
  refine Go.iconst (pc' := 147) (v := (5 : Int32)) at_146 rfl rfl ?_
  refine Go.iload (pc' := 149) at_147 rfl rfl ?_
  refine Go.stI (pc' := 150) (k := 5) A_2175 rfl (by show 5 < 6; decide) at_149 g_2150 rfl ?_
  intro h_2178 W_2179 A_2180
  have t_2181 : a_2145 < h_2178.size := Nat.lt_of_lt_of_le t_2176 (Nat.le_of_eq W_2179.size.symm)
  have z_2182 : n0 ≤ h_2178.size := Nat.le_trans z_2177 (Nat.le_of_eq W_2179.size.symm)
  change Ary Z h_2178 a_2145 .int [(.int v0), (.int v_2134), (.int v_2136), (.int v_2138), (.int v_2140), (.int v_2142)] at A_2180
  refine Go.astore (pc' := 152) (Ls' := #[.val (.int y0), .val (.int y1), .val (.int y2), .val (.int y3), .val (.int y4), .val (.int g_2119), .val (.int g_2121), .val (.int g_2123), .val (.int g_2125), .val (.int g_2127), .val (.int g_2129), .val (.int v0), .val (.int v_2134), .val (.int v_2136), .val (.int v_2138), .val (.int v_2140), .val (.int v_2142), .val (.ref a_2145), .unset, .unset, .unset, .unset, .unset, .unset, .unset, .unset, .unset, .unset, .unset, .unset]) at_150 rfl rfl rfl ?_
  refine Go.iloadN (pc' := 153) at_152 rfl rfl ?_
  refine Go.bipush (pc' := 155) (v := (63 : Int32)) at_153 rfl rfl ?_
  refine Go.iand (pc' := 156) at_155 rfl ?_
  generalize erm_2183 : y2 &&& (63 : Int32) = rm_2183
  refine Go.istore (pc' := 158) (Ls' := #[.val (.int y0), .val (.int y1), .val (.int y2), .val (.int y3), .val (.int y4), .val (.int g_2119), .val (.int g_2121), .val (.int g_2123), .val (.int g_2125), .val (.int g_2127), .val (.int g_2129), .val (.int v0), .val (.int v_2134), .val (.int v_2136), .val (.int v_2138), .val (.int v_2140), .val (.int v_2142), .val (.ref a_2145), .val (.int rm_2183), .unset, .unset, .unset, .unset, .unset, .unset, .unset, .unset, .unset, .unset, .unset]) at_156 rfl rfl ?_
  refine Go.iloadN (pc' := 159) at_158 rfl rfl ?_
  refine Go.bipush (pc' := 161) (v := (63 : Int32)) at_159 rfl rfl ?_
  refine Go.iand (pc' := 162) at_161 rfl ?_
  generalize eqm_2184 : y3 &&& (63 : Int32) = qm_2184
  have krm : 0 ≤ rm_2183.toInt ∧ rm_2183.toInt ≤ 63 := by rw [← erm_2183]; exact c_and _ (63 : Int32) (by decide)
  have kqm : 0 ≤ qm_2184.toInt ∧ qm_2184.toInt ≤ 63 := by rw [← eqm_2184]; exact c_and _ (63 : Int32) (by decide)
  refine Go.istore (pc' := 164) (Ls' := #[.val (.int y0), .val (.int y1), .val (.int y2), .val (.int y3), .val (.int y4), .val (.int g_2119), .val (.int g_2121), .val (.int g_2123), .val (.int g_2125), .val (.int g_2127), .val (.int g_2129), .val (.int v0), .val (.int v_2134), .val (.int v_2136), .val (.int v_2138), .val (.int v_2140), .val (.int v_2142), .val (.ref a_2145), .val (.int rm_2183), .val (.int qm_2184), .unset, .unset, .unset, .unset, .unset, .unset, .unset, .unset, .unset, .unset]) at_162 rfl rfl ?_
  refine Go.iload (pc' := 166) at_164 rfl rfl ?_
  refine Go.bipush (pc' := 168) (v := (15 : Int32)) at_166 rfl rfl ?_
  refine Go.iand (pc' := 169) at_168 rfl ?_
  generalize ekey_2185 : y4 &&& (15 : Int32) = key_2185
  have k_2186 : 0 ≤ key_2185.toInt ∧ key_2185.toInt ≤ 15 := by
    rw [← ekey_2185]
    have : (15 : Int32).toInt = 15 := by decide
    have := c_mask y4 (15 : Int32) 4 (by decide) (by decide)
    have := rng32 (y4 &&& (15 : Int32))
    have := rng32 y4
    omega
  refine Go.istore (pc' := 171) (Ls' := #[.val (.int y0), .val (.int y1), .val (.int y2), .val (.int y3), .val (.int y4), .val (.int g_2119), .val (.int g_2121), .val (.int g_2123), .val (.int g_2125), .val (.int g_2127), .val (.int g_2129), .val (.int v0), .val (.int v_2134), .val (.int v_2136), .val (.int v_2138), .val (.int v_2140), .val (.int v_2142), .val (.ref a_2145), .val (.int rm_2183), .val (.int qm_2184), .val (.int key_2185), .unset, .unset, .unset, .unset, .unset, .unset, .unset, .unset, .unset]) at_169 rfl rfl ?_
  refine Go.iload (pc' := 173) at_171 rfl rfl ?_
  refine Go.iconst (pc' := 174) (v := (1 : Int32)) at_173 rfl rfl ?_
  refine Go.iadd (pc' := 175) at_174 rfl ?_
  refine Go.bipush (pc' := 177) (v := (15 : Int32)) at_175 rfl rfl ?_
  refine Go.iand (pc' := 178) at_177 rfl ?_
  generalize eoth_2187 : (key_2185 + (1 : Int32)) &&& (15 : Int32) = oth_2187
  have k_2188 : 0 ≤ oth_2187.toInt ∧ oth_2187.toInt ≤ 15 ∧ oth_2187.toInt ≠ key_2185.toInt := by
    rw [← eoth_2187]
    have : (1 : Int32).toInt = 1 := by decide
    have := c_iadd key_2185 (1 : Int32)
    have := rng32 (key_2185 + (1 : Int32))
    have := rng32 key_2185
    have : (15 : Int32).toInt = 15 := by decide
    have := c_mask (key_2185 + (1 : Int32)) (15 : Int32) 4 (by decide) (by decide)
    have := rng32 ((key_2185 + (1 : Int32)) &&& (15 : Int32))
    omega
  refine Go.istore (pc' := 180) (Ls' := #[.val (.int y0), .val (.int y1), .val (.int y2), .val (.int y3), .val (.int y4), .val (.int g_2119), .val (.int g_2121), .val (.int g_2123), .val (.int g_2125), .val (.int g_2127), .val (.int g_2129), .val (.int v0), .val (.int v_2134), .val (.int v_2136), .val (.int v_2138), .val (.int v_2140), .val (.int v_2142), .val (.ref a_2145), .val (.int rm_2183), .val (.int qm_2184), .val (.int key_2185), .val (.int oth_2187), .unset, .unset, .unset, .unset, .unset, .unset, .unset, .unset]) at_178 rfl rfl ?_
  refine Go.iload (pc' := 182) at_180 rfl rfl ?_
  refine Go.iconst (pc' := 183) (v := (4 : Int32)) at_182 rfl rfl ?_
  refine Go.iushr (pc' := 184) at_183 rfl ?_
  refine Go.iconst (pc' := 185) (v := (1 : Int32)) at_184 rfl rfl ?_
  refine Go.iand (pc' := 186) at_185 rfl ?_
  generalize ef_2189 : ((y4.toUInt32 >>> ((4 : Int32) &&& 31).toUInt32).toInt32) &&& (1 : Int32) = f_2189
  refine Go.ifc (pc1 := 193) (pc2 := 189) at_186 (by decide) (by decide) rfl (fun (c_2190 : f_2189.toInt = 0) => ?_) (fun (c_2190 : f_2189.toInt ≠ 0) => ?_)
  · refine Go.iconst (pc' := 194) (v := (0 : Int32)) at_193 rfl rfl ?_
    refine Go.istore (pc' := 196) (Ls' := #[.val (.int y0), .val (.int y1), .val (.int y2), .val (.int y3), .val (.int y4), .val (.int g_2119), .val (.int g_2121), .val (.int g_2123), .val (.int g_2125), .val (.int g_2127), .val (.int g_2129), .val (.int v0), .val (.int v_2134), .val (.int v_2136), .val (.int v_2138), .val (.int v_2140), .val (.int v_2142), .val (.ref a_2145), .val (.int rm_2183), .val (.int qm_2184), .val (.int key_2185), .val (.int oth_2187), .val (.int 0), .unset, .unset, .unset, .unset, .unset, .unset, .unset]) at_194 rfl rfl ?_
    refine Go.bipush (pc' := 198) (v := (6 : Int32)) at_196 rfl rfl ?_
    refine Go.newA (pc' := 200) (k := 6) (ty := .int) (cap := 6) (own_w hw 6 rfl) rfl rfl (by decide) (by decide) at_198 (by decide) (by decide) rfl ?_
    intro h_2191 a_2192 q_2193 E_2194 A_2195
    have n_2197 : a_2145 ≠ a_2192 := Nat.ne_of_lt (q_2193 ▸ t_2181)
    have g_2198 : n0 ≤ a_2192 := q_2193 ▸ z_2182
    have f_2199 : Ary Z h_2191 a_2145 .int [(.int v0), (.int v_2134), (.int v_2136), (.int v_2138), (.int v_2140), (.int v_2142)] := A_2180.sm (Sm.ext E_2194)
    have t_2200 : a_2145 < h_2191.size := Nat.lt_of_lt_of_le t_2181 E_2194.1
    have z_2201 : n0 ≤ h_2191.size := Nat.le_trans z_2182 E_2194.1
    have t_2202 : a_2192 < h_2191.size := A_2195.lt
    change Ary Z h_2191 a_2192 .int [(.int 0), (.int 0), (.int 0), (.int 0), (.int 0), (.int 0)] at A_2195
    refine Go.astore (pc' := 202) (Ls' := #[.val (.int y0), .val (.int y1), .val (.int y2), .val (.int y3), .val (.int y4), .val (.int g_2119), .val (.int g_2121), .val (.int g_2123), .val (.int g_2125), .val (.int g_2127), .val (.int g_2129), .val (.int v0), .val (.int v_2134), .val (.int v_2136), .val (.int v_2138), .val (.int v_2140), .val (.int v_2142), .val (.ref a_2145), .val (.int rm_2183), .val (.int qm_2184), .val (.int key_2185), .val (.int oth_2187), .val (.int 0), .val (.ref a_2192), .unset, .unset, .unset, .unset, .unset, .unset]) at_200 rfl rfl rfl ?_
    refine Go.aload (pc' := 204) at_202 rfl rfl rfl ?_
    refine Go.iload (pc' := 206) at_204 rfl rfl ?_
    refine Go.aload (pc' := 208) at_206 rfl rfl rfl ?_
    refine Go.callS (pc' := 211) (argsL := [(.ref a_2145), (.int rm_2183), (.ref a_2192)]) (rest := []) (W := 0) (own_w hw 7 rfl) (own_w hw 8 rfl) (own_w hw 9 rfl) (own_w hw 10 rfl) (by decide) (m_pick l Z a0 hw a_2145 a_2192 rm_2183 v0 v_2134 v_2136 v_2138 v_2140 v_2142 h_2191 n0 z_2201 f_2199 A_2195 g_2198 n_2197) at_208 rfl pd13 rfl rfl (Nat.le_of_eq rfl) (by decide) (by decide) (by decide) (by decide) rfl ?_
    rintro _ h_2203 ⟨nRR, rfl, K_2204, A_2205, hnRR, hlRR⟩
    have f_2206 : Ary Z h_2203 a_2145 .int [(.int v0), (.int v_2134), (.int v_2136), (.int v_2138), (.int v_2140), (.int v_2142)] := f_2199.sm (Sm.keep K_2204 (ninS n_2197 nin0))
    have t_2208 : a_2145 < h_2203.size := Nat.lt_of_lt_of_le t_2200 K_2204.1
    have t_2209 : a_2192 < h_2203.size := Nat.lt_of_lt_of_le t_2202 K_2204.1
    have z_2210 : n0 ≤ h_2203.size := Nat.le_trans z_2201 K_2204.1
    generalize hgRR : own_pk rm_2183 v0 v_2134 v_2136 v_2138 v_2140 v_2142 = RR at *
    show Go _ _ _ _ _ _ _ _ _ _ _ _ h_2203 (0 + 0 + 1 + 1 + 0) (0 + 0 + 6 + 6 + 0) 211 #[.val (.int y0), .val (.int y1), .val (.int y2), .val (.int y3), .val (.int y4), .val (.int g_2119), .val (.int g_2121), .val (.int g_2123), .val (.int g_2125), .val (.int g_2127), .val (.int g_2129), .val (.int v0), .val (.int v_2134), .val (.int v_2136), .val (.int v_2138), .val (.int v_2140), .val (.int v_2142), .val (.ref a_2145), .val (.int rm_2183), .val (.int qm_2184), .val (.int key_2185), .val (.int oth_2187), .val (.int 0), .val (.ref a_2192), .unset, .unset, .unset, .unset, .unset, .unset] [(.int nRR)]
    refine Go.istore (pc' := 213) (Ls' := #[.val (.int y0), .val (.int y1), .val (.int y2), .val (.int y3), .val (.int y4), .val (.int g_2119), .val (.int g_2121), .val (.int g_2123), .val (.int g_2125), .val (.int g_2127), .val (.int g_2129), .val (.int v0), .val (.int v_2134), .val (.int v_2136), .val (.int v_2138), .val (.int v_2140), .val (.int v_2142), .val (.ref a_2145), .val (.int rm_2183), .val (.int qm_2184), .val (.int key_2185), .val (.int oth_2187), .val (.int 0), .val (.ref a_2192), .val (.int nRR), .unset, .unset, .unset, .unset, .unset]) at_211 rfl rfl ?_
    refine Go.bipush (pc' := 215) (v := (6 : Int32)) at_213 rfl rfl ?_
    refine Go.newA (pc' := 217) (k := 6) (ty := .int) (cap := 6) (own_w hw 6 rfl) rfl rfl (by decide) (by decide) at_215 (by decide) (by decide) rfl ?_
    intro h_2211 a_2212 q_2213 E_2214 A_2215
    have n_2217 : a_2145 ≠ a_2212 := Nat.ne_of_lt (q_2213 ▸ t_2208)
    have n_2218 : a_2192 ≠ a_2212 := Nat.ne_of_lt (q_2213 ▸ t_2209)
    have g_2219 : n0 ≤ a_2212 := q_2213 ▸ z_2210
    have f_2220 : Ary Z h_2211 a_2145 .int [(.int v0), (.int v_2134), (.int v_2136), (.int v_2138), (.int v_2140), (.int v_2142)] := f_2206.sm (Sm.ext E_2214)
    have f_2221 : Ary Z h_2211 a_2192 .int (own_pad RR) := A_2205.sm (Sm.ext E_2214)
    have t_2222 : a_2145 < h_2211.size := Nat.lt_of_lt_of_le t_2208 E_2214.1
    have t_2223 : a_2192 < h_2211.size := Nat.lt_of_lt_of_le t_2209 E_2214.1
    have z_2224 : n0 ≤ h_2211.size := Nat.le_trans z_2210 E_2214.1
    have t_2225 : a_2212 < h_2211.size := A_2215.lt
    change Ary Z h_2211 a_2212 .int [(.int 0), (.int 0), (.int 0), (.int 0), (.int 0), (.int 0)] at A_2215
    refine Go.astore (pc' := 219) (Ls' := #[.val (.int y0), .val (.int y1), .val (.int y2), .val (.int y3), .val (.int y4), .val (.int g_2119), .val (.int g_2121), .val (.int g_2123), .val (.int g_2125), .val (.int g_2127), .val (.int g_2129), .val (.int v0), .val (.int v_2134), .val (.int v_2136), .val (.int v_2138), .val (.int v_2140), .val (.int v_2142), .val (.ref a_2145), .val (.int rm_2183), .val (.int qm_2184), .val (.int key_2185), .val (.int oth_2187), .val (.int 0), .val (.ref a_2192), .val (.int nRR), .val (.ref a_2212), .unset, .unset, .unset, .unset]) at_217 rfl rfl rfl ?_
    refine Go.aload (pc' := 221) at_219 rfl rfl rfl ?_
    refine Go.iload (pc' := 223) at_221 rfl rfl ?_
    refine Go.aload (pc' := 225) at_223 rfl rfl rfl ?_
    refine Go.callS (pc' := 228) (argsL := [(.ref a_2145), (.int qm_2184), (.ref a_2212)]) (rest := []) (W := 0) (own_w hw 7 rfl) (own_w hw 8 rfl) (own_w hw 9 rfl) (own_w hw 10 rfl) (by decide) (m_pick l Z a0 hw a_2145 a_2212 qm_2184 v0 v_2134 v_2136 v_2138 v_2140 v_2142 h_2211 n0 z_2224 f_2220 A_2215 g_2219 n_2217) at_225 rfl pd13 rfl rfl (Nat.le_of_eq rfl) (by decide) (by decide) (by decide) (by decide) rfl ?_
    rintro _ h_2226 ⟨nQQ, rfl, K_2227, A_2228, hnQQ, hlQQ⟩
    have f_2229 : Ary Z h_2226 a_2145 .int [(.int v0), (.int v_2134), (.int v_2136), (.int v_2138), (.int v_2140), (.int v_2142)] := f_2220.sm (Sm.keep K_2227 (ninS n_2217 nin0))
    have f_2230 : Ary Z h_2226 a_2192 .int (own_pad RR) := f_2221.sm (Sm.keep K_2227 (ninS n_2218 nin0))
    have t_2232 : a_2145 < h_2226.size := Nat.lt_of_lt_of_le t_2222 K_2227.1
    have t_2233 : a_2192 < h_2226.size := Nat.lt_of_lt_of_le t_2223 K_2227.1
    have t_2234 : a_2212 < h_2226.size := Nat.lt_of_lt_of_le t_2225 K_2227.1
    have z_2235 : n0 ≤ h_2226.size := Nat.le_trans z_2224 K_2227.1
    generalize hgQQ : own_pk qm_2184 v0 v_2134 v_2136 v_2138 v_2140 v_2142 = QQ at *
    show Go _ _ _ _ _ _ _ _ _ _ _ _ h_2226 (0 + 0 + 1 + 1 + 0 + 1 + 0) (0 + 0 + 6 + 6 + 0 + 6 + 0) 228 #[.val (.int y0), .val (.int y1), .val (.int y2), .val (.int y3), .val (.int y4), .val (.int g_2119), .val (.int g_2121), .val (.int g_2123), .val (.int g_2125), .val (.int g_2127), .val (.int g_2129), .val (.int v0), .val (.int v_2134), .val (.int v_2136), .val (.int v_2138), .val (.int v_2140), .val (.int v_2142), .val (.ref a_2145), .val (.int rm_2183), .val (.int qm_2184), .val (.int key_2185), .val (.int oth_2187), .val (.int 0), .val (.ref a_2192), .val (.int nRR), .val (.ref a_2212), .unset, .unset, .unset, .unset] [(.int nQQ)]
    refine Go.istore (pc' := 230) (Ls' := #[.val (.int y0), .val (.int y1), .val (.int y2), .val (.int y3), .val (.int y4), .val (.int g_2119), .val (.int g_2121), .val (.int g_2123), .val (.int g_2125), .val (.int g_2127), .val (.int g_2129), .val (.int v0), .val (.int v_2134), .val (.int v_2136), .val (.int v_2138), .val (.int v_2140), .val (.int v_2142), .val (.ref a_2145), .val (.int rm_2183), .val (.int qm_2184), .val (.int key_2185), .val (.int oth_2187), .val (.int 0), .val (.ref a_2192), .val (.int nRR), .val (.ref a_2212), .val (.int nQQ), .unset, .unset, .unset]) at_228 rfl rfl ?_
    refine Go.aload (pc' := 232) at_230 rfl rfl rfl ?_
    refine Go.iload (pc' := 234) at_232 rfl rfl ?_
    refine Go.callS (pc' := 237) (argsL := [(.ref a_2212), (.int nQQ)]) (rest := []) (W := 0) (own_w hw 11 rfl) (own_w hw 12 rfl) (own_w hw 9 rfl) (own_w hw 13 rfl) (by decide) (m_exact l Z a0 hw a_2212 nQQ QQ h_2226 n0 z_2235 A_2228 hnQQ hlQQ) at_234 rfl pd6 rfl rfl (Nat.le_of_eq rfl) (by decide) (by decide) (by decide) (by decide) rfl ?_
    rintro _ h_2236 ⟨o_2237, rfl, K_2238, A_2239, q_2240, t_2241⟩
    have n_2242 : a_2145 ≠ o_2237 := Nat.ne_of_lt (Nat.lt_of_lt_of_le t_2232 q_2240)
    have n_2243 : a_2192 ≠ o_2237 := Nat.ne_of_lt (Nat.lt_of_lt_of_le t_2233 q_2240)
    have n_2244 : a_2212 ≠ o_2237 := Nat.ne_of_lt (Nat.lt_of_lt_of_le t_2234 q_2240)
    have g_2245 : n0 ≤ o_2237 := Nat.le_trans z_2235 q_2240
    have f_2246 : Ary Z h_2236 a_2145 .int [(.int v0), (.int v_2134), (.int v_2136), (.int v_2138), (.int v_2140), (.int v_2142)] := f_2229.sm (Sm.keep K_2238 nin0)
    have f_2247 : Ary Z h_2236 a_2192 .int (own_pad RR) := f_2230.sm (Sm.keep K_2238 nin0)
    have f_2248 : Ary Z h_2236 a_2212 .int (own_pad QQ) := A_2228.sm (Sm.keep K_2238 nin0)
    have t_2249 : a_2145 < h_2236.size := Nat.lt_of_lt_of_le t_2232 K_2238.1
    have t_2250 : a_2192 < h_2236.size := Nat.lt_of_lt_of_le t_2233 K_2238.1
    have t_2251 : a_2212 < h_2236.size := Nat.lt_of_lt_of_le t_2234 K_2238.1
    have z_2252 : n0 ≤ h_2236.size := Nat.le_trans z_2235 K_2238.1
    show Go _ _ _ _ _ _ _ _ _ _ _ _ h_2236 (0 + 0 + 1 + 1 + 0 + 1 + 0 + 1) (0 + 0 + 6 + 6 + 0 + 6 + 0 + 6) 237 #[.val (.int y0), .val (.int y1), .val (.int y2), .val (.int y3), .val (.int y4), .val (.int g_2119), .val (.int g_2121), .val (.int g_2123), .val (.int g_2125), .val (.int g_2127), .val (.int g_2129), .val (.int v0), .val (.int v_2134), .val (.int v_2136), .val (.int v_2138), .val (.int v_2140), .val (.int v_2142), .val (.ref a_2145), .val (.int rm_2183), .val (.int qm_2184), .val (.int key_2185), .val (.int oth_2187), .val (.int 0), .val (.ref a_2192), .val (.int nRR), .val (.ref a_2212), .val (.int nQQ), .unset, .unset, .unset] [(.ref o_2237)]
    refine Go.astore (pc' := 239) (Ls' := #[.val (.int y0), .val (.int y1), .val (.int y2), .val (.int y3), .val (.int y4), .val (.int g_2119), .val (.int g_2121), .val (.int g_2123), .val (.int g_2125), .val (.int g_2127), .val (.int g_2129), .val (.int v0), .val (.int v_2134), .val (.int v_2136), .val (.int v_2138), .val (.int v_2140), .val (.int v_2142), .val (.ref a_2145), .val (.int rm_2183), .val (.int qm_2184), .val (.int key_2185), .val (.int oth_2187), .val (.int 0), .val (.ref a_2192), .val (.int nRR), .val (.ref a_2212), .val (.int nQQ), .val (.ref o_2237), .unset, .unset]) at_237 rfl rfl rfl ?_
    refine Go.newO (pc' := 242) (own_w hw 14 rfl) (own_w hw 15 rfl) (own_w hw 16 rfl) at_239 (by decide) (by decide) rfl ?_
    intro h_2253 a_2254 q_2255 E_2256 A_2257 D_2258
    have n_2259 : a_2145 ≠ a_2254 := Nat.ne_of_lt (q_2255 ▸ t_2249)
    have n_2260 : a_2192 ≠ a_2254 := Nat.ne_of_lt (q_2255 ▸ t_2250)
    have n_2261 : a_2212 ≠ a_2254 := Nat.ne_of_lt (q_2255 ▸ t_2251)
    have n_2262 : o_2237 ≠ a_2254 := Nat.ne_of_lt (q_2255 ▸ t_2241)
    have g_2263 : n0 ≤ a_2254 := q_2255 ▸ z_2252
    have f_2264 : Ary Z h_2253 a_2145 .int [(.int v0), (.int v_2134), (.int v_2136), (.int v_2138), (.int v_2140), (.int v_2142)] := f_2246.sm (Sm.ext E_2256)
    have f_2265 : Ary Z h_2253 a_2192 .int (own_pad RR) := f_2247.sm (Sm.ext E_2256)
    have f_2266 : Ary Z h_2253 a_2212 .int (own_pad QQ) := f_2248.sm (Sm.ext E_2256)
    have f_2267 : Ary Z h_2253 o_2237 .int (QQ.map Value.int) := A_2239.sm (Sm.ext E_2256)
    have t_2268 : a_2145 < h_2253.size := Nat.lt_of_lt_of_le t_2249 E_2256.1
    have t_2269 : a_2192 < h_2253.size := Nat.lt_of_lt_of_le t_2250 E_2256.1
    have t_2270 : a_2212 < h_2253.size := Nat.lt_of_lt_of_le t_2251 E_2256.1
    have t_2271 : o_2237 < h_2253.size := Nat.lt_of_lt_of_le t_2241 E_2256.1
    have z_2272 : n0 ≤ h_2253.size := Nat.le_trans z_2252 E_2256.1
    have t_2273 : a_2254 < h_2253.size := A_2257.lt
    have f_2274 : Fld Z h_2253 a_2254 "com/example/nearword/nearword/internal/index/IntRuns" "at" "[I" .null := D_2258 (Or.inl (own_w hw 25 rfl)) (ty := (.array .int)) (by decide)
    have f_2275 : Fld Z h_2253 a_2254 "com/example/nearword/nearword/internal/index/IntRuns" "pool" "[I" .null := D_2258 (Or.inl (own_w hw 27 rfl)) (ty := (.array .int)) (by decide)
    have f_2276 : Fld Z h_2253 a_2254 "com/example/nearword/nearword/internal/index/IntRuns" "mostInts" "I" (.int 0) := D_2258 (Or.inr (own_w hw 29 rfl)) (ty := .int) (by decide)
    have f_2277 : Fld Z h_2253 a_2254 "com/example/nearword/nearword/internal/index/IntRuns" "keys" "I" (.int 0) := D_2258 (Or.inl (own_w hw 95 rfl)) (ty := .int) (by decide)
    have f_2278 : Fld Z h_2253 a_2254 "com/example/nearword/nearword/internal/index/IntRuns" "poolLeft" "I" (.int 0) := D_2258 (Or.inl (own_w hw 106 rfl)) (ty := .int) (by decide)
    have f_2279 : Fld Z h_2253 a_2254 "com/example/nearword/nearword/internal/index/IntRuns" "poolSize" "I" (.int 0) := D_2258 (Or.inl (own_w hw 108 rfl)) (ty := .int) (by decide)
    have f_2280 : Fld Z h_2253 a_2254 "com/example/nearword/nearword/internal/index/IntRuns" "keysToCome" "I" (.int 0) := D_2258 (Or.inl (own_w hw 123 rfl)) (ty := .int) (by decide)
    have f_2281 : Fld Z h_2253 a_2254 "com/example/nearword/nearword/internal/index/IntRuns" "mostIntsToCome" "J" (.long (0 : Int64)) := D_2258 (Or.inl (own_w hw 129 rfl)) (ty := .long) (by decide)
    refine Go.dup (pc' := 243) at_242 rfl rfl ?_
    refine Go.ldcI (pc' := 245) (own_w hw 17 rfl) at_243 rfl ?_
    refine Go.callN (pc' := 248) (argsL := [(.int 1048576)]) (rest := [(.ref a_2254)]) (W := 1) rfl (own_w hw 18 rfl) (own_w hw 19 rfl) (own_w hw 16 rfl) (own_w hw 20 rfl) (by decide) (m_init l Z a0 hw a_2254 h_2253 n0 z_2272 A_2257 f_2274 f_2275 f_2276 f_2277 f_2278 f_2279 f_2280 g_2263) at_245 rfl pd9 rfl rfl (Nat.le_of_eq rfl) (by decide) (by decide) (by decide) (by decide) rfl ?_
    rintro _ h_2282 ⟨rfl, e_2283, p_2284, K_2285, F_2293, F_2294, F_2295, F_2296, F_2297, F_2298, F_2299, A_2286, A_2287, q_2288, t_2289, q_2290, t_2291, ne_2292⟩
    have n_2300 : a_2145 ≠ e_2283 := Nat.ne_of_lt (Nat.lt_of_lt_of_le t_2268 q_2288)
    have n_2301 : a_2192 ≠ e_2283 := Nat.ne_of_lt (Nat.lt_of_lt_of_le t_2269 q_2288)
    have n_2302 : a_2212 ≠ e_2283 := Nat.ne_of_lt (Nat.lt_of_lt_of_le t_2270 q_2288)
    have n_2303 : o_2237 ≠ e_2283 := Nat.ne_of_lt (Nat.lt_of_lt_of_le t_2271 q_2288)
    have n_2304 : a_2254 ≠ e_2283 := Nat.ne_of_lt (Nat.lt_of_lt_of_le t_2273 q_2288)
    have g_2305 : n0 ≤ e_2283 := Nat.le_trans z_2272 q_2288
    have n_2306 : a_2145 ≠ p_2284 := Nat.ne_of_lt (Nat.lt_of_lt_of_le t_2268 q_2290)
    have n_2307 : a_2192 ≠ p_2284 := Nat.ne_of_lt (Nat.lt_of_lt_of_le t_2269 q_2290)
    have n_2308 : a_2212 ≠ p_2284 := Nat.ne_of_lt (Nat.lt_of_lt_of_le t_2270 q_2290)
    have n_2309 : o_2237 ≠ p_2284 := Nat.ne_of_lt (Nat.lt_of_lt_of_le t_2271 q_2290)
    have n_2310 : a_2254 ≠ p_2284 := Nat.ne_of_lt (Nat.lt_of_lt_of_le t_2273 q_2290)
    have g_2311 : n0 ≤ p_2284 := Nat.le_trans z_2272 q_2290
    have f_2312 : Ary Z h_2282 a_2145 .int [(.int v0), (.int v_2134), (.int v_2136), (.int v_2138), (.int v_2140), (.int v_2142)] := f_2264.sm (Sm.keep K_2285 (ninS n_2259 nin0))
    have f_2313 : Ary Z h_2282 a_2192 .int (own_pad RR) := f_2265.sm (Sm.keep K_2285 (ninS n_2260 nin0))
    have f_2314 : Ary Z h_2282 a_2212 .int (own_pad QQ) := f_2266.sm (Sm.keep K_2285 (ninS n_2261 nin0))
    have f_2315 : Ary Z h_2282 o_2237 .int (QQ.map Value.int) := f_2267.sm (Sm.keep K_2285 (ninS n_2262 nin0))
    have f_2316 : Exa Z h_2282 a_2254 "com/example/nearword/nearword/internal/index/IntRuns" := A_2257.keep K_2285
    have t_2325 : a_2145 < h_2282.size := Nat.lt_of_lt_of_le t_2268 K_2285.1
    have t_2326 : a_2192 < h_2282.size := Nat.lt_of_lt_of_le t_2269 K_2285.1
    have t_2327 : a_2212 < h_2282.size := Nat.lt_of_lt_of_le t_2270 K_2285.1
    have t_2328 : o_2237 < h_2282.size := Nat.lt_of_lt_of_le t_2271 K_2285.1
    have t_2329 : a_2254 < h_2282.size := Nat.lt_of_lt_of_le t_2273 K_2285.1
    have z_2330 : n0 ≤ h_2282.size := Nat.le_trans z_2272 K_2285.1
    show Go _ _ _ _ _ _ _ _ _ _ _ _ h_2282 (0 + 0 + 1 + 1 + 0 + 1 + 0 + 1 + 1 + 2) (0 + 0 + 6 + 6 + 0 + 6 + 0 + 6 + 8 + 0) 248 #[.val (.int y0), .val (.int y1), .val (.int y2), .val (.int y3), .val (.int y4), .val (.int g_2119), .val (.int g_2121), .val (.int g_2123), .val (.int g_2125), .val (.int g_2127), .val (.int g_2129), .val (.int v0), .val (.int v_2134), .val (.int v_2136), .val (.int v_2138), .val (.int v_2140), .val (.int v_2142), .val (.ref a_2145), .val (.int rm_2183), .val (.int qm_2184), .val (.int key_2185), .val (.int oth_2187), .val (.int 0), .val (.ref a_2192), .val (.int nRR), .val (.ref a_2212), .val (.int nQQ), .val (.ref o_2237), .unset, .unset] [(.ref a_2254)]
    refine Go.astore (pc' := 250) (Ls' := #[.val (.int y0), .val (.int y1), .val (.int y2), .val (.int y3), .val (.int y4), .val (.int g_2119), .val (.int g_2121), .val (.int g_2123), .val (.int g_2125), .val (.int g_2127), .val (.int g_2129), .val (.int v0), .val (.int v_2134), .val (.int v_2136), .val (.int v_2138), .val (.int v_2140), .val (.int v_2142), .val (.ref a_2145), .val (.int rm_2183), .val (.int qm_2184), .val (.int key_2185), .val (.int oth_2187), .val (.int 0), .val (.ref a_2192), .val (.int nRR), .val (.ref a_2212), .val (.int nQQ), .val (.ref o_2237), .val (.ref a_2254), .unset]) at_248 rfl rfl rfl ?_
    refine Go.iload (pc' := 252) at_250 rfl rfl ?_
    refine Go.ifc (pc1 := 267) (pc2 := 255) at_252 (by decide) (by decide) rfl (fun (c_2331 : (0 : Int) = 0) => ?_) (fun (c_2331 : (0 : Int) ≠ 0) => ?_)
    rotate_left
    · exact absurd c_2331 (by decide)
    refine Go.aload (pc' := 269) at_267 rfl rfl rfl ?_
    refine Go.iload (pc' := 271) at_269 rfl rfl ?_
    refine Go.aload (pc' := 273) at_271 rfl rfl rfl ?_
    refine Go.iconst (pc' := 274) (v := (0 : Int32)) at_273 rfl rfl ?_
    refine Go.iload (pc' := 276) at_274 rfl rfl ?_
    rcases own_len6 RR hlRR with rfl | ⟨x0, rfl⟩ | ⟨x0, x1, rfl⟩ | ⟨x0, x1, x2, rfl⟩ | ⟨x0, x1, x2, x3, rfl⟩ | ⟨x0, x1, x2, x3, x4, rfl⟩ | ⟨x0, x1, x2, x3, x4, x5, rfl⟩
    · obtain rfl : nRR = (0 : Int32) := Int32.toInt_inj.mp hnRR
      have y_2332 : Ary Z h_2282 a_2192 .int [(.int 0), (.int 0), (.int 0), (.int 0), (.int 0), (.int 0)] := f_2313
      show Go _ _ _ _ _ _ _ _ _ _ _ _ h_2282 (0 + 0 + 1 + 1 + 0 + 1 + 0 + 1 + 1 + 2) (0 + 0 + 6 + 6 + 0 + 6 + 0 + 6 + 8 + 0) 276 #[.val (.int y0), .val (.int y1), .val (.int y2), .val (.int y3), .val (.int y4), .val (.int g_2119), .val (.int g_2121), .val (.int g_2123), .val (.int g_2125), .val (.int g_2127), .val (.int g_2129), .val (.int v0), .val (.int v_2134), .val (.int v_2136), .val (.int v_2138), .val (.int v_2140), .val (.int v_2142), .val (.ref a_2145), .val (.int rm_2183), .val (.int qm_2184), .val (.int key_2185), .val (.int oth_2187), .val (.int 0), .val (.ref a_2192), .val (.int 0), .val (.ref a_2212), .val (.int nQQ), .val (.ref o_2237), .val (.ref a_2254), .unset] [(.int 0), (.int 0), (.ref a_2192), (.int key_2185), (.ref a_2254)]
      refine Go.callVW (pc' := 279) (argsL := [(.int key_2185), (.ref a_2192), (.int 0), (.int 0)]) (rest := []) (W := 0) (own_w hw 30 rfl) (own_w hw 31 rfl) (own_w hw 33 rfl) (own_w hw 32 rfl) (own_w hw 16 rfl) (own_w hw 34 rfl) (by decide) f_2316 (m_set0_0 l Z a0 hw a_2254 e_2283 p_2284 a_2192 key_2185 (0 : Int32) (0 : Int32) (0 : Int32) (0 : Int32) (0 : Int32) (0 : Int32) h_2282 n0 z_2330 f_2316 F_2293 F_2294 F_2295 F_2296 F_2297 F_2298 F_2299 g_2263 A_2286 A_2287 y_2332 n_2260.symm (by omega) (by omega)) at_276 rfl pd14 rfl rfl (Nat.le_of_eq rfl) (by decide) (by decide) (by decide) (by decide) rfl ?_
      rintro _ h_2333 ⟨rfl, o_2334, b_2335, ky_2336, K_2337, F_2345, F_2346, F_2347, F_2348, F_2349, F_2350, F_2351, A_2338, A_2339, q_2340, t_2341, q_2342, t_2343, ne_2344⟩
      have n_2352 : a_2145 ≠ o_2334 := Nat.ne_of_lt (Nat.lt_of_lt_of_le t_2325 q_2340)
      have n_2353 : a_2192 ≠ o_2334 := Nat.ne_of_lt (Nat.lt_of_lt_of_le t_2326 q_2340)
      have n_2354 : a_2212 ≠ o_2334 := Nat.ne_of_lt (Nat.lt_of_lt_of_le t_2327 q_2340)
      have n_2355 : o_2237 ≠ o_2334 := Nat.ne_of_lt (Nat.lt_of_lt_of_le t_2328 q_2340)
      have n_2356 : a_2254 ≠ o_2334 := Nat.ne_of_lt (Nat.lt_of_lt_of_le t_2329 q_2340)
      have n_2357 : e_2283 ≠ o_2334 := Nat.ne_of_lt (Nat.lt_of_lt_of_le t_2289 q_2340)
      have n_2358 : p_2284 ≠ o_2334 := Nat.ne_of_lt (Nat.lt_of_lt_of_le t_2291 q_2340)
      have g_2359 : n0 ≤ o_2334 := Nat.le_trans z_2330 q_2340
      have n_2360 : a_2145 ≠ b_2335 := Nat.ne_of_lt (Nat.lt_of_lt_of_le t_2325 q_2342)
      have n_2361 : a_2192 ≠ b_2335 := Nat.ne_of_lt (Nat.lt_of_lt_of_le t_2326 q_2342)
      have n_2362 : a_2212 ≠ b_2335 := Nat.ne_of_lt (Nat.lt_of_lt_of_le t_2327 q_2342)
      have n_2363 : o_2237 ≠ b_2335 := Nat.ne_of_lt (Nat.lt_of_lt_of_le t_2328 q_2342)
      have n_2364 : a_2254 ≠ b_2335 := Nat.ne_of_lt (Nat.lt_of_lt_of_le t_2329 q_2342)
      have n_2365 : e_2283 ≠ b_2335 := Nat.ne_of_lt (Nat.lt_of_lt_of_le t_2289 q_2342)
      have n_2366 : p_2284 ≠ b_2335 := Nat.ne_of_lt (Nat.lt_of_lt_of_le t_2291 q_2342)
      have g_2367 : n0 ≤ b_2335 := Nat.le_trans z_2330 q_2342
      have f_2368 : Ary Z h_2333 a_2145 .int [(.int v0), (.int v_2134), (.int v_2136), (.int v_2138), (.int v_2140), (.int v_2142)] := f_2312.sm (Sm.keep K_2337 (ninS n_2259 nin0))
      have f_2369 : Ary Z h_2333 a_2212 .int (own_pad QQ) := f_2314.sm (Sm.keep K_2337 (ninS n_2261 nin0))
      have f_2370 : Ary Z h_2333 o_2237 .int (QQ.map Value.int) := f_2315.sm (Sm.keep K_2337 (ninS n_2262 nin0))
      have f_2371 : Exa Z h_2333 a_2254 "com/example/nearword/nearword/internal/index/IntRuns" := f_2316.keep K_2337
      have f_2379 : Ary Z h_2333 e_2283 .int [] := A_2286.sm (Sm.keep K_2337 (ninS n_2304.symm nin0))
      have f_2380 : Ary Z h_2333 p_2284 .int [] := A_2287.sm (Sm.keep K_2337 (ninS n_2310.symm nin0))
      have f_2381 : Ary Z h_2333 a_2192 .int [(.int 0), (.int 0), (.int 0), (.int 0), (.int 0), (.int 0)] := y_2332.sm (Sm.keep K_2337 (ninS n_2260 nin0))
      have t_2382 : a_2145 < h_2333.size := Nat.lt_of_lt_of_le t_2325 K_2337.1
      have t_2383 : a_2192 < h_2333.size := Nat.lt_of_lt_of_le t_2326 K_2337.1
      have t_2384 : a_2212 < h_2333.size := Nat.lt_of_lt_of_le t_2327 K_2337.1
      have t_2385 : o_2237 < h_2333.size := Nat.lt_of_lt_of_le t_2328 K_2337.1
      have t_2386 : a_2254 < h_2333.size := Nat.lt_of_lt_of_le t_2329 K_2337.1
      have t_2387 : e_2283 < h_2333.size := Nat.lt_of_lt_of_le t_2289 K_2337.1
      have t_2388 : p_2284 < h_2333.size := Nat.lt_of_lt_of_le t_2291 K_2337.1
      have z_2389 : n0 ≤ h_2333.size := Nat.le_trans z_2330 K_2337.1
      show Go _ _ _ _ _ _ _ _ _ _ _ _ h_2333 (0 + 0 + 1 + 1 + 0 + 1 + 0 + 1 + 1 + 2 + 6) (0 + 0 + 6 + 6 + 0 + 6 + 0 + 6 + 8 + 0 + 208) 279 #[.val (.int y0), .val (.int y1), .val (.int y2), .val (.int y3), .val (.int y4), .val (.int g_2119), .val (.int g_2121), .val (.int g_2123), .val (.int g_2125), .val (.int g_2127), .val (.int g_2129), .val (.int v0), .val (.int v_2134), .val (.int v_2136), .val (.int v_2138), .val (.int v_2140), .val (.int v_2142), .val (.ref a_2145), .val (.int rm_2183), .val (.int qm_2184), .val (.int key_2185), .val (.int oth_2187), .val (.int 0), .val (.ref a_2192), .val (.int 0), .val (.ref a_2212), .val (.int nQQ), .val (.ref o_2237), .val (.ref a_2254), .unset] []
      have hmask : (own_ca [] QQ = true ↔ (qm_2184 &&& (rm_2183 ^^^ (-1 : Int32))).toInt = 0) := by rw [← hgRR, ← hgQQ]; exact own_law rm_2183 qm_2184 v0 v_2134 v_2136 v_2138 v_2140 v_2142 hasc krm kqm
      refine Go.iload (pc' := 281) at_279 rfl rfl ?_
      refine Go.iload (pc' := 283) at_281 rfl rfl ?_
      refine Go.iconst (pc' := 284) (v := (-1 : Int32)) at_283 rfl rfl ?_
      refine Go.ixor (pc' := 285) at_284 rfl ?_
      refine Go.iand (pc' := 286) at_285 rfl ?_
      refine Go.ifc (pc1 := 293) (pc2 := 289) at_286 (by decide) (by decide) rfl (fun (c_2390 : (qm_2184 &&& (rm_2183 ^^^ (-1 : Int32))).toInt ≠ 0) => ?_) (fun (c_2390 : (qm_2184 &&& (rm_2183 ^^^ (-1 : Int32))).toInt = 0) => ?_)
      · refine Go.iconst (pc' := 294) (v := (0 : Int32)) at_293 rfl rfl ?_
        refine Go.istore (pc' := 296) (Ls' := #[.val (.int y0), .val (.int y1), .val (.int y2), .val (.int y3), .val (.int y4), .val (.int g_2119), .val (.int g_2121), .val (.int g_2123), .val (.int g_2125), .val (.int g_2127), .val (.int g_2129), .val (.int v0), .val (.int v_2134), .val (.int v_2136), .val (.int v_2138), .val (.int v_2140), .val (.int v_2142), .val (.ref a_2145), .val (.int rm_2183), .val (.int qm_2184), .val (.int key_2185), .val (.int oth_2187), .val (.int 0), .val (.ref a_2192), .val (.int 0), .val (.ref a_2212), .val (.int nQQ), .val (.ref o_2237), .val (.ref a_2254), .val (.int 0)]) at_294 rfl rfl ?_
        refine Go.aload (pc' := 298) at_296 rfl rfl rfl ?_
        refine Go.iload (pc' := 300) at_298 rfl rfl ?_
        refine Go.aload (pc' := 302) at_300 rfl rfl rfl ?_
        refine Go.callV (pc' := 305) (argsL := [(.int key_2185), (.ref o_2237)]) (rest := []) (W := 0) (own_w hw 109 rfl) (own_w hw 110 rfl) (own_w hw 112 rfl) (own_w hw 111 rfl) (own_w hw 16 rfl) (own_w hw 113 rfl) (by decide) f_2371 (m_caN l Z a0 hw a_2254 o_2334 b_2335 o_2237 key_2185 (0 : Int32) (0 : Int32) (own_m1.set key_2185.toInt.toNat (.int 0)) [(.int 0), (.int 0), (.int 0), (.int 0), (.int 0), (.int 0), (.int 0), (.int 0), (.int 0), (.int 0), (.int 0), (.int 0), (.int 0), (.int 0), (.int 0), (.int 0)] QQ [] h_2333 n0 z_2389 f_2371 F_2345 F_2346 A_2338 A_2339 f_2370 (by omega) (own_set_at _ _ _ (by rw [own_m1_len]; omega)) hlQQ (by decide) (by decide) rfl rfl (by show (0 : Nat) ≤ 6; decide) (own_pre _ _ _ rfl)) at_302 rfl pd15 rfl rfl (Nat.le_of_eq rfl) (by decide) (by decide) (by decide) (by decide) rfl ?_
        rintro _ _ ⟨r, rfl, rfl, hr, hr2⟩
        show Go _ _ _ _ _ _ _ _ _ _ _ _ h_2333 (0 + 0 + 1 + 1 + 0 + 1 + 0 + 1 + 1 + 2 + 6 + 0) (0 + 0 + 6 + 6 + 0 + 6 + 0 + 6 + 8 + 0 + 208 + 0) 305 #[.val (.int y0), .val (.int y1), .val (.int y2), .val (.int y3), .val (.int y4), .val (.int g_2119), .val (.int g_2121), .val (.int g_2123), .val (.int g_2125), .val (.int g_2127), .val (.int g_2129), .val (.int v0), .val (.int v_2134), .val (.int v_2136), .val (.int v_2138), .val (.int v_2140), .val (.int v_2142), .val (.ref a_2145), .val (.int rm_2183), .val (.int qm_2184), .val (.int key_2185), .val (.int oth_2187), .val (.int 0), .val (.ref a_2192), .val (.int 0), .val (.ref a_2212), .val (.int nQQ), .val (.ref o_2237), .val (.ref a_2254), .val (.int 0)] [(.int r)]
        have z0 : (0 : Int32).toInt = 0 := rfl
        have z1 : (1 : Int32).toInt = 1 := rfl
        rw [hmask] at hr2
        refine Go.iload (pc' := 307) at_305 rfl rfl ?_
        refine Go.icmp (pc1 := 314) (pc2 := 310) at_307 (by decide) (by decide) rfl (fun (c_2391 : r.toInt ≠ (0 : Int)) => ?_) (fun (c_2391 : r.toInt = (0 : Int)) => ?_)
        · exact absurd (by omega) c_2391
        refine Go.iconst (pc' := 311) (v := (1 : Int32)) at_310 rfl rfl ?_
        refine Go.goto (pc' := 315) at_311 (by decide) (by decide) ?_
        exact Go.retN (t := .boolean) at_315 rfl (by simp) rfl rfl (by decide) (by decide)
      · refine Go.iconst (pc' := 290) (v := (1 : Int32)) at_289 rfl rfl ?_
        refine Go.goto (pc' := 294) at_290 (by decide) (by decide) ?_
        refine Go.istore (pc' := 296) (Ls' := #[.val (.int y0), .val (.int y1), .val (.int y2), .val (.int y3), .val (.int y4), .val (.int g_2119), .val (.int g_2121), .val (.int g_2123), .val (.int g_2125), .val (.int g_2127), .val (.int g_2129), .val (.int v0), .val (.int v_2134), .val (.int v_2136), .val (.int v_2138), .val (.int v_2140), .val (.int v_2142), .val (.ref a_2145), .val (.int rm_2183), .val (.int qm_2184), .val (.int key_2185), .val (.int oth_2187), .val (.int 0), .val (.ref a_2192), .val (.int 0), .val (.ref a_2212), .val (.int nQQ), .val (.ref o_2237), .val (.ref a_2254), .val (.int 1)]) at_294 rfl rfl ?_
        refine Go.aload (pc' := 298) at_296 rfl rfl rfl ?_
        refine Go.iload (pc' := 300) at_298 rfl rfl ?_
        refine Go.aload (pc' := 302) at_300 rfl rfl rfl ?_
        refine Go.callV (pc' := 305) (argsL := [(.int key_2185), (.ref o_2237)]) (rest := []) (W := 0) (own_w hw 109 rfl) (own_w hw 110 rfl) (own_w hw 112 rfl) (own_w hw 111 rfl) (own_w hw 16 rfl) (own_w hw 113 rfl) (by decide) f_2371 (m_caN l Z a0 hw a_2254 o_2334 b_2335 o_2237 key_2185 (0 : Int32) (0 : Int32) (own_m1.set key_2185.toInt.toNat (.int 0)) [(.int 0), (.int 0), (.int 0), (.int 0), (.int 0), (.int 0), (.int 0), (.int 0), (.int 0), (.int 0), (.int 0), (.int 0), (.int 0), (.int 0), (.int 0), (.int 0)] QQ [] h_2333 n0 z_2389 f_2371 F_2345 F_2346 A_2338 A_2339 f_2370 (by omega) (own_set_at _ _ _ (by rw [own_m1_len]; omega)) hlQQ (by decide) (by decide) rfl rfl (by show (0 : Nat) ≤ 6; decide) (own_pre _ _ _ rfl)) at_302 rfl pd15 rfl rfl (Nat.le_of_eq rfl) (by decide) (by decide) (by decide) (by decide) rfl ?_
        rintro _ _ ⟨r, rfl, rfl, hr, hr2⟩
        show Go _ _ _ _ _ _ _ _ _ _ _ _ h_2333 (0 + 0 + 1 + 1 + 0 + 1 + 0 + 1 + 1 + 2 + 6 + 0) (0 + 0 + 6 + 6 + 0 + 6 + 0 + 6 + 8 + 0 + 208 + 0) 305 #[.val (.int y0), .val (.int y1), .val (.int y2), .val (.int y3), .val (.int y4), .val (.int g_2119), .val (.int g_2121), .val (.int g_2123), .val (.int g_2125), .val (.int g_2127), .val (.int g_2129), .val (.int v0), .val (.int v_2134), .val (.int v_2136), .val (.int v_2138), .val (.int v_2140), .val (.int v_2142), .val (.ref a_2145), .val (.int rm_2183), .val (.int qm_2184), .val (.int key_2185), .val (.int oth_2187), .val (.int 0), .val (.ref a_2192), .val (.int 0), .val (.ref a_2212), .val (.int nQQ), .val (.ref o_2237), .val (.ref a_2254), .val (.int 1)] [(.int r)]
        have z0 : (0 : Int32).toInt = 0 := rfl
        have z1 : (1 : Int32).toInt = 1 := rfl
        rw [hmask] at hr2
        refine Go.iload (pc' := 307) at_305 rfl rfl ?_
        refine Go.icmp (pc1 := 314) (pc2 := 310) at_307 (by decide) (by decide) rfl (fun (c_2392 : r.toInt ≠ (1 : Int)) => ?_) (fun (c_2392 : r.toInt = (1 : Int)) => ?_)
        · exact absurd (by omega) c_2392
        refine Go.iconst (pc' := 311) (v := (1 : Int32)) at_310 rfl rfl ?_
        refine Go.goto (pc' := 315) at_311 (by decide) (by decide) ?_
        exact Go.retN (t := .boolean) at_315 rfl (by simp) rfl rfl (by decide) (by decide)
    · obtain rfl : nRR = (1 : Int32) := Int32.toInt_inj.mp hnRR
      have y_2393 : Ary Z h_2282 a_2192 .int [(.int x0), (.int 0), (.int 0), (.int 0), (.int 0), (.int 0)] := f_2313
      show Go _ _ _ _ _ _ _ _ _ _ _ _ h_2282 (0 + 0 + 1 + 1 + 0 + 1 + 0 + 1 + 1 + 2) (0 + 0 + 6 + 6 + 0 + 6 + 0 + 6 + 8 + 0) 276 #[.val (.int y0), .val (.int y1), .val (.int y2), .val (.int y3), .val (.int y4), .val (.int g_2119), .val (.int g_2121), .val (.int g_2123), .val (.int g_2125), .val (.int g_2127), .val (.int g_2129), .val (.int v0), .val (.int v_2134), .val (.int v_2136), .val (.int v_2138), .val (.int v_2140), .val (.int v_2142), .val (.ref a_2145), .val (.int rm_2183), .val (.int qm_2184), .val (.int key_2185), .val (.int oth_2187), .val (.int 0), .val (.ref a_2192), .val (.int 1), .val (.ref a_2212), .val (.int nQQ), .val (.ref o_2237), .val (.ref a_2254), .unset] [(.int 1), (.int 0), (.ref a_2192), (.int key_2185), (.ref a_2254)]
      refine Go.callVW (pc' := 279) (argsL := [(.int key_2185), (.ref a_2192), (.int 0), (.int 1)]) (rest := []) (W := 0) (own_w hw 30 rfl) (own_w hw 31 rfl) (own_w hw 33 rfl) (own_w hw 32 rfl) (own_w hw 16 rfl) (own_w hw 34 rfl) (by decide) f_2316 (m_set0_1 l Z a0 hw a_2254 e_2283 p_2284 a_2192 key_2185 x0 (0 : Int32) (0 : Int32) (0 : Int32) (0 : Int32) (0 : Int32) h_2282 n0 z_2330 f_2316 F_2293 F_2294 F_2295 F_2296 F_2297 F_2298 F_2299 g_2263 A_2286 A_2287 y_2393 n_2260.symm (by omega) (by omega)) at_276 rfl pd14 rfl rfl (Nat.le_of_eq rfl) (by decide) (by decide) (by decide) (by decide) rfl ?_
      rintro _ h_2394 ⟨rfl, o_2395, ky_2396, K_2397, F_2399, F_2400, F_2401, F_2402, F_2403, F_2404, F_2405, A_2398⟩
      have f_2406 : Ary Z h_2394 a_2145 .int [(.int v0), (.int v_2134), (.int v_2136), (.int v_2138), (.int v_2140), (.int v_2142)] := f_2312.sm (Sm.keep K_2397 (ninS n_2259 nin0))
      have f_2407 : Ary Z h_2394 a_2212 .int (own_pad QQ) := f_2314.sm (Sm.keep K_2397 (ninS n_2261 nin0))
      have f_2408 : Ary Z h_2394 o_2237 .int (QQ.map Value.int) := f_2315.sm (Sm.keep K_2397 (ninS n_2262 nin0))
      have f_2409 : Exa Z h_2394 a_2254 "com/example/nearword/nearword/internal/index/IntRuns" := f_2316.keep K_2397
      have f_2417 : Ary Z h_2394 e_2283 .int [] := A_2286.sm (Sm.keep K_2397 (ninS n_2304.symm nin0))
      have f_2418 : Ary Z h_2394 p_2284 .int [] := A_2287.sm (Sm.keep K_2397 (ninS n_2310.symm nin0))
      have f_2419 : Ary Z h_2394 a_2192 .int [(.int x0), (.int 0), (.int 0), (.int 0), (.int 0), (.int 0)] := y_2393.sm (Sm.keep K_2397 (ninS n_2260 nin0))
      have t_2420 : a_2145 < h_2394.size := Nat.lt_of_lt_of_le t_2325 K_2397.1
      have t_2421 : a_2192 < h_2394.size := Nat.lt_of_lt_of_le t_2326 K_2397.1
      have t_2422 : a_2212 < h_2394.size := Nat.lt_of_lt_of_le t_2327 K_2397.1
      have t_2423 : o_2237 < h_2394.size := Nat.lt_of_lt_of_le t_2328 K_2397.1
      have t_2424 : a_2254 < h_2394.size := Nat.lt_of_lt_of_le t_2329 K_2397.1
      have t_2425 : e_2283 < h_2394.size := Nat.lt_of_lt_of_le t_2289 K_2397.1
      have t_2426 : p_2284 < h_2394.size := Nat.lt_of_lt_of_le t_2291 K_2397.1
      have z_2427 : n0 ≤ h_2394.size := Nat.le_trans z_2330 K_2397.1
      have n_2428 : a_2254 ≠ o_2395 := by obtain ⟨_, Ag, -⟩ := A_2398; exact ne_arr f_2409 (own_w hw 15 rfl) Ag
      show Go _ _ _ _ _ _ _ _ _ _ _ _ h_2394 (0 + 0 + 1 + 1 + 0 + 1 + 0 + 1 + 1 + 2 + 6) (0 + 0 + 6 + 6 + 0 + 6 + 0 + 6 + 8 + 0 + 208) 279 #[.val (.int y0), .val (.int y1), .val (.int y2), .val (.int y3), .val (.int y4), .val (.int g_2119), .val (.int g_2121), .val (.int g_2123), .val (.int g_2125), .val (.int g_2127), .val (.int g_2129), .val (.int v0), .val (.int v_2134), .val (.int v_2136), .val (.int v_2138), .val (.int v_2140), .val (.int v_2142), .val (.ref a_2145), .val (.int rm_2183), .val (.int qm_2184), .val (.int key_2185), .val (.int oth_2187), .val (.int 0), .val (.ref a_2192), .val (.int 1), .val (.ref a_2212), .val (.int nQQ), .val (.ref o_2237), .val (.ref a_2254), .unset] []
      have hx0 : 0 ≤ x0.toInt ∧ x0.toInt ≤ 2147483646 := own_pk_in (m := rm_2183) (v0 := v0) (v1 := v_2134) (v2 := v_2136) (v3 := v_2138) (v4 := v_2140) (v5 := v_2142) (by omega) (by rw [hgRR]; exact List.mem_singleton.mpr rfl)
      have hxc : ((-2 : Int32) - x0).toInt = -2 - x0.toInt := own_subN x0 hx0
      replace hx0 := hx0.1
      have hmask : (own_ca [x0] QQ = true ↔ (qm_2184 &&& (rm_2183 ^^^ (-1 : Int32))).toInt = 0) := by rw [← hgRR, ← hgQQ]; exact own_law rm_2183 qm_2184 v0 v_2134 v_2136 v_2138 v_2140 v_2142 hasc krm kqm
      refine Go.iload (pc' := 281) at_279 rfl rfl ?_
      refine Go.iload (pc' := 283) at_281 rfl rfl ?_
      refine Go.iconst (pc' := 284) (v := (-1 : Int32)) at_283 rfl rfl ?_
      refine Go.ixor (pc' := 285) at_284 rfl ?_
      refine Go.iand (pc' := 286) at_285 rfl ?_
      refine Go.ifc (pc1 := 293) (pc2 := 289) at_286 (by decide) (by decide) rfl (fun (c_2429 : (qm_2184 &&& (rm_2183 ^^^ (-1 : Int32))).toInt ≠ 0) => ?_) (fun (c_2429 : (qm_2184 &&& (rm_2183 ^^^ (-1 : Int32))).toInt = 0) => ?_)
      · refine Go.iconst (pc' := 294) (v := (0 : Int32)) at_293 rfl rfl ?_
        refine Go.istore (pc' := 296) (Ls' := #[.val (.int y0), .val (.int y1), .val (.int y2), .val (.int y3), .val (.int y4), .val (.int g_2119), .val (.int g_2121), .val (.int g_2123), .val (.int g_2125), .val (.int g_2127), .val (.int g_2129), .val (.int v0), .val (.int v_2134), .val (.int v_2136), .val (.int v_2138), .val (.int v_2140), .val (.int v_2142), .val (.ref a_2145), .val (.int rm_2183), .val (.int qm_2184), .val (.int key_2185), .val (.int oth_2187), .val (.int 0), .val (.ref a_2192), .val (.int 1), .val (.ref a_2212), .val (.int nQQ), .val (.ref o_2237), .val (.ref a_2254), .val (.int 0)]) at_294 rfl rfl ?_
        refine Go.aload (pc' := 298) at_296 rfl rfl rfl ?_
        refine Go.iload (pc' := 300) at_298 rfl rfl ?_
        refine Go.aload (pc' := 302) at_300 rfl rfl rfl ?_
        refine Go.callV (pc' := 305) (argsL := [(.int key_2185), (.ref o_2237)]) (rest := []) (W := 0) (own_w hw 109 rfl) (own_w hw 110 rfl) (own_w hw 112 rfl) (own_w hw 111 rfl) (own_w hw 16 rfl) (own_w hw 113 rfl) (by decide) f_2409 (m_ca1 l Z a0 hw a_2254 o_2395 p_2284 o_2237 key_2185 ((-2 : Int32) - x0) x0 (own_m1.set key_2185.toInt.toNat (.int ((-2 : Int32) - x0))) [] QQ h_2394 n0 z_2427 f_2409 F_2399 F_2400 A_2398 f_2418 f_2408 (by omega) (own_set_at _ _ _ (by rw [own_m1_len]; omega)) hlQQ (hx0) (hxc)) at_302 rfl pd15 rfl rfl (Nat.le_of_eq rfl) (by decide) (by decide) (by decide) (by decide) rfl ?_
        rintro _ _ ⟨r, rfl, rfl, hr, hr2⟩
        show Go _ _ _ _ _ _ _ _ _ _ _ _ h_2394 (0 + 0 + 1 + 1 + 0 + 1 + 0 + 1 + 1 + 2 + 6 + 0) (0 + 0 + 6 + 6 + 0 + 6 + 0 + 6 + 8 + 0 + 208 + 0) 305 #[.val (.int y0), .val (.int y1), .val (.int y2), .val (.int y3), .val (.int y4), .val (.int g_2119), .val (.int g_2121), .val (.int g_2123), .val (.int g_2125), .val (.int g_2127), .val (.int g_2129), .val (.int v0), .val (.int v_2134), .val (.int v_2136), .val (.int v_2138), .val (.int v_2140), .val (.int v_2142), .val (.ref a_2145), .val (.int rm_2183), .val (.int qm_2184), .val (.int key_2185), .val (.int oth_2187), .val (.int 0), .val (.ref a_2192), .val (.int 1), .val (.ref a_2212), .val (.int nQQ), .val (.ref o_2237), .val (.ref a_2254), .val (.int 0)] [(.int r)]
        have z0 : (0 : Int32).toInt = 0 := rfl
        have z1 : (1 : Int32).toInt = 1 := rfl
        rw [hmask] at hr2
        refine Go.iload (pc' := 307) at_305 rfl rfl ?_
        refine Go.icmp (pc1 := 314) (pc2 := 310) at_307 (by decide) (by decide) rfl (fun (c_2430 : r.toInt ≠ (0 : Int)) => ?_) (fun (c_2430 : r.toInt = (0 : Int)) => ?_)
        · exact absurd (by omega) c_2430
        refine Go.iconst (pc' := 311) (v := (1 : Int32)) at_310 rfl rfl ?_
        refine Go.goto (pc' := 315) at_311 (by decide) (by decide) ?_
        exact Go.retN (t := .boolean) at_315 rfl (by simp) rfl rfl (by decide) (by decide)
      · refine Go.iconst (pc' := 290) (v := (1 : Int32)) at_289 rfl rfl ?_
        refine Go.goto (pc' := 294) at_290 (by decide) (by decide) ?_
        refine Go.istore (pc' := 296) (Ls' := #[.val (.int y0), .val (.int y1), .val (.int y2), .val (.int y3), .val (.int y4), .val (.int g_2119), .val (.int g_2121), .val (.int g_2123), .val (.int g_2125), .val (.int g_2127), .val (.int g_2129), .val (.int v0), .val (.int v_2134), .val (.int v_2136), .val (.int v_2138), .val (.int v_2140), .val (.int v_2142), .val (.ref a_2145), .val (.int rm_2183), .val (.int qm_2184), .val (.int key_2185), .val (.int oth_2187), .val (.int 0), .val (.ref a_2192), .val (.int 1), .val (.ref a_2212), .val (.int nQQ), .val (.ref o_2237), .val (.ref a_2254), .val (.int 1)]) at_294 rfl rfl ?_
        refine Go.aload (pc' := 298) at_296 rfl rfl rfl ?_
        refine Go.iload (pc' := 300) at_298 rfl rfl ?_
        refine Go.aload (pc' := 302) at_300 rfl rfl rfl ?_
        refine Go.callV (pc' := 305) (argsL := [(.int key_2185), (.ref o_2237)]) (rest := []) (W := 0) (own_w hw 109 rfl) (own_w hw 110 rfl) (own_w hw 112 rfl) (own_w hw 111 rfl) (own_w hw 16 rfl) (own_w hw 113 rfl) (by decide) f_2409 (m_ca1 l Z a0 hw a_2254 o_2395 p_2284 o_2237 key_2185 ((-2 : Int32) - x0) x0 (own_m1.set key_2185.toInt.toNat (.int ((-2 : Int32) - x0))) [] QQ h_2394 n0 z_2427 f_2409 F_2399 F_2400 A_2398 f_2418 f_2408 (by omega) (own_set_at _ _ _ (by rw [own_m1_len]; omega)) hlQQ (hx0) (hxc)) at_302 rfl pd15 rfl rfl (Nat.le_of_eq rfl) (by decide) (by decide) (by decide) (by decide) rfl ?_
        rintro _ _ ⟨r, rfl, rfl, hr, hr2⟩
        show Go _ _ _ _ _ _ _ _ _ _ _ _ h_2394 (0 + 0 + 1 + 1 + 0 + 1 + 0 + 1 + 1 + 2 + 6 + 0) (0 + 0 + 6 + 6 + 0 + 6 + 0 + 6 + 8 + 0 + 208 + 0) 305 #[.val (.int y0), .val (.int y1), .val (.int y2), .val (.int y3), .val (.int y4), .val (.int g_2119), .val (.int g_2121), .val (.int g_2123), .val (.int g_2125), .val (.int g_2127), .val (.int g_2129), .val (.int v0), .val (.int v_2134), .val (.int v_2136), .val (.int v_2138), .val (.int v_2140), .val (.int v_2142), .val (.ref a_2145), .val (.int rm_2183), .val (.int qm_2184), .val (.int key_2185), .val (.int oth_2187), .val (.int 0), .val (.ref a_2192), .val (.int 1), .val (.ref a_2212), .val (.int nQQ), .val (.ref o_2237), .val (.ref a_2254), .val (.int 1)] [(.int r)]
        have z0 : (0 : Int32).toInt = 0 := rfl
        have z1 : (1 : Int32).toInt = 1 := rfl
        rw [hmask] at hr2
        refine Go.iload (pc' := 307) at_305 rfl rfl ?_
        refine Go.icmp (pc1 := 314) (pc2 := 310) at_307 (by decide) (by decide) rfl (fun (c_2431 : r.toInt ≠ (1 : Int)) => ?_) (fun (c_2431 : r.toInt = (1 : Int)) => ?_)
        · exact absurd (by omega) c_2431
        refine Go.iconst (pc' := 311) (v := (1 : Int32)) at_310 rfl rfl ?_
        refine Go.goto (pc' := 315) at_311 (by decide) (by decide) ?_
        exact Go.retN (t := .boolean) at_315 rfl (by simp) rfl rfl (by decide) (by decide)
    · obtain rfl : nRR = (2 : Int32) := Int32.toInt_inj.mp hnRR
      have y_2432 : Ary Z h_2282 a_2192 .int [(.int x0), (.int x1), (.int 0), (.int 0), (.int 0), (.int 0)] := f_2313
      show Go _ _ _ _ _ _ _ _ _ _ _ _ h_2282 (0 + 0 + 1 + 1 + 0 + 1 + 0 + 1 + 1 + 2) (0 + 0 + 6 + 6 + 0 + 6 + 0 + 6 + 8 + 0) 276 #[.val (.int y0), .val (.int y1), .val (.int y2), .val (.int y3), .val (.int y4), .val (.int g_2119), .val (.int g_2121), .val (.int g_2123), .val (.int g_2125), .val (.int g_2127), .val (.int g_2129), .val (.int v0), .val (.int v_2134), .val (.int v_2136), .val (.int v_2138), .val (.int v_2140), .val (.int v_2142), .val (.ref a_2145), .val (.int rm_2183), .val (.int qm_2184), .val (.int key_2185), .val (.int oth_2187), .val (.int 0), .val (.ref a_2192), .val (.int 2), .val (.ref a_2212), .val (.int nQQ), .val (.ref o_2237), .val (.ref a_2254), .unset] [(.int 2), (.int 0), (.ref a_2192), (.int key_2185), (.ref a_2254)]
      refine Go.callVW (pc' := 279) (argsL := [(.int key_2185), (.ref a_2192), (.int 0), (.int 2)]) (rest := []) (W := 0) (own_w hw 30 rfl) (own_w hw 31 rfl) (own_w hw 33 rfl) (own_w hw 32 rfl) (own_w hw 16 rfl) (own_w hw 34 rfl) (by decide) f_2316 (m_set0_2 l Z a0 hw a_2254 e_2283 p_2284 a_2192 key_2185 x0 x1 (0 : Int32) (0 : Int32) (0 : Int32) (0 : Int32) h_2282 n0 z_2330 f_2316 F_2293 F_2294 F_2295 F_2296 F_2297 F_2298 F_2299 g_2263 A_2286 A_2287 y_2432 n_2260.symm (by omega) (by omega)) at_276 rfl pd14 rfl rfl (Nat.le_of_eq rfl) (by decide) (by decide) (by decide) (by decide) rfl ?_
      rintro _ h_2433 ⟨rfl, o_2434, b_2435, ky_2436, K_2437, F_2445, F_2446, F_2447, F_2448, F_2449, F_2450, F_2451, A_2438, A_2439, q_2440, t_2441, q_2442, t_2443, ne_2444⟩
      have n_2452 : a_2145 ≠ o_2434 := Nat.ne_of_lt (Nat.lt_of_lt_of_le t_2325 q_2440)
      have n_2453 : a_2192 ≠ o_2434 := Nat.ne_of_lt (Nat.lt_of_lt_of_le t_2326 q_2440)
      have n_2454 : a_2212 ≠ o_2434 := Nat.ne_of_lt (Nat.lt_of_lt_of_le t_2327 q_2440)
      have n_2455 : o_2237 ≠ o_2434 := Nat.ne_of_lt (Nat.lt_of_lt_of_le t_2328 q_2440)
      have n_2456 : a_2254 ≠ o_2434 := Nat.ne_of_lt (Nat.lt_of_lt_of_le t_2329 q_2440)
      have n_2457 : e_2283 ≠ o_2434 := Nat.ne_of_lt (Nat.lt_of_lt_of_le t_2289 q_2440)
      have n_2458 : p_2284 ≠ o_2434 := Nat.ne_of_lt (Nat.lt_of_lt_of_le t_2291 q_2440)
      have g_2459 : n0 ≤ o_2434 := Nat.le_trans z_2330 q_2440
      have n_2460 : a_2145 ≠ b_2435 := Nat.ne_of_lt (Nat.lt_of_lt_of_le t_2325 q_2442)
      have n_2461 : a_2192 ≠ b_2435 := Nat.ne_of_lt (Nat.lt_of_lt_of_le t_2326 q_2442)
      have n_2462 : a_2212 ≠ b_2435 := Nat.ne_of_lt (Nat.lt_of_lt_of_le t_2327 q_2442)
      have n_2463 : o_2237 ≠ b_2435 := Nat.ne_of_lt (Nat.lt_of_lt_of_le t_2328 q_2442)
      have n_2464 : a_2254 ≠ b_2435 := Nat.ne_of_lt (Nat.lt_of_lt_of_le t_2329 q_2442)
      have n_2465 : e_2283 ≠ b_2435 := Nat.ne_of_lt (Nat.lt_of_lt_of_le t_2289 q_2442)
      have n_2466 : p_2284 ≠ b_2435 := Nat.ne_of_lt (Nat.lt_of_lt_of_le t_2291 q_2442)
      have g_2467 : n0 ≤ b_2435 := Nat.le_trans z_2330 q_2442
      have f_2468 : Ary Z h_2433 a_2145 .int [(.int v0), (.int v_2134), (.int v_2136), (.int v_2138), (.int v_2140), (.int v_2142)] := f_2312.sm (Sm.keep K_2437 (ninS n_2259 nin0))
      have f_2469 : Ary Z h_2433 a_2212 .int (own_pad QQ) := f_2314.sm (Sm.keep K_2437 (ninS n_2261 nin0))
      have f_2470 : Ary Z h_2433 o_2237 .int (QQ.map Value.int) := f_2315.sm (Sm.keep K_2437 (ninS n_2262 nin0))
      have f_2471 : Exa Z h_2433 a_2254 "com/example/nearword/nearword/internal/index/IntRuns" := f_2316.keep K_2437
      have f_2479 : Ary Z h_2433 e_2283 .int [] := A_2286.sm (Sm.keep K_2437 (ninS n_2304.symm nin0))
      have f_2480 : Ary Z h_2433 p_2284 .int [] := A_2287.sm (Sm.keep K_2437 (ninS n_2310.symm nin0))
      have f_2481 : Ary Z h_2433 a_2192 .int [(.int x0), (.int x1), (.int 0), (.int 0), (.int 0), (.int 0)] := y_2432.sm (Sm.keep K_2437 (ninS n_2260 nin0))
      have t_2482 : a_2145 < h_2433.size := Nat.lt_of_lt_of_le t_2325 K_2437.1
      have t_2483 : a_2192 < h_2433.size := Nat.lt_of_lt_of_le t_2326 K_2437.1
      have t_2484 : a_2212 < h_2433.size := Nat.lt_of_lt_of_le t_2327 K_2437.1
      have t_2485 : o_2237 < h_2433.size := Nat.lt_of_lt_of_le t_2328 K_2437.1
      have t_2486 : a_2254 < h_2433.size := Nat.lt_of_lt_of_le t_2329 K_2437.1
      have t_2487 : e_2283 < h_2433.size := Nat.lt_of_lt_of_le t_2289 K_2437.1
      have t_2488 : p_2284 < h_2433.size := Nat.lt_of_lt_of_le t_2291 K_2437.1
      have z_2489 : n0 ≤ h_2433.size := Nat.le_trans z_2330 K_2437.1
      show Go _ _ _ _ _ _ _ _ _ _ _ _ h_2433 (0 + 0 + 1 + 1 + 0 + 1 + 0 + 1 + 1 + 2 + 6) (0 + 0 + 6 + 6 + 0 + 6 + 0 + 6 + 8 + 0 + 208) 279 #[.val (.int y0), .val (.int y1), .val (.int y2), .val (.int y3), .val (.int y4), .val (.int g_2119), .val (.int g_2121), .val (.int g_2123), .val (.int g_2125), .val (.int g_2127), .val (.int g_2129), .val (.int v0), .val (.int v_2134), .val (.int v_2136), .val (.int v_2138), .val (.int v_2140), .val (.int v_2142), .val (.ref a_2145), .val (.int rm_2183), .val (.int qm_2184), .val (.int key_2185), .val (.int oth_2187), .val (.int 0), .val (.ref a_2192), .val (.int 2), .val (.ref a_2212), .val (.int nQQ), .val (.ref o_2237), .val (.ref a_2254), .unset] []
      have hmask : (own_ca [x0, x1] QQ = true ↔ (qm_2184 &&& (rm_2183 ^^^ (-1 : Int32))).toInt = 0) := by rw [← hgRR, ← hgQQ]; exact own_law rm_2183 qm_2184 v0 v_2134 v_2136 v_2138 v_2140 v_2142 hasc krm kqm
      refine Go.iload (pc' := 281) at_279 rfl rfl ?_
      refine Go.iload (pc' := 283) at_281 rfl rfl ?_
      refine Go.iconst (pc' := 284) (v := (-1 : Int32)) at_283 rfl rfl ?_
      refine Go.ixor (pc' := 285) at_284 rfl ?_
      refine Go.iand (pc' := 286) at_285 rfl ?_
      refine Go.ifc (pc1 := 293) (pc2 := 289) at_286 (by decide) (by decide) rfl (fun (c_2490 : (qm_2184 &&& (rm_2183 ^^^ (-1 : Int32))).toInt ≠ 0) => ?_) (fun (c_2490 : (qm_2184 &&& (rm_2183 ^^^ (-1 : Int32))).toInt = 0) => ?_)
      · refine Go.iconst (pc' := 294) (v := (0 : Int32)) at_293 rfl rfl ?_
        refine Go.istore (pc' := 296) (Ls' := #[.val (.int y0), .val (.int y1), .val (.int y2), .val (.int y3), .val (.int y4), .val (.int g_2119), .val (.int g_2121), .val (.int g_2123), .val (.int g_2125), .val (.int g_2127), .val (.int g_2129), .val (.int v0), .val (.int v_2134), .val (.int v_2136), .val (.int v_2138), .val (.int v_2140), .val (.int v_2142), .val (.ref a_2145), .val (.int rm_2183), .val (.int qm_2184), .val (.int key_2185), .val (.int oth_2187), .val (.int 0), .val (.ref a_2192), .val (.int 2), .val (.ref a_2212), .val (.int nQQ), .val (.ref o_2237), .val (.ref a_2254), .val (.int 0)]) at_294 rfl rfl ?_
        refine Go.aload (pc' := 298) at_296 rfl rfl rfl ?_
        refine Go.iload (pc' := 300) at_298 rfl rfl ?_
        refine Go.aload (pc' := 302) at_300 rfl rfl rfl ?_
        refine Go.callV (pc' := 305) (argsL := [(.int key_2185), (.ref o_2237)]) (rest := []) (W := 0) (own_w hw 109 rfl) (own_w hw 110 rfl) (own_w hw 112 rfl) (own_w hw 111 rfl) (own_w hw 16 rfl) (own_w hw 113 rfl) (by decide) f_2471 (m_caN l Z a0 hw a_2254 o_2434 b_2435 o_2237 key_2185 (0 : Int32) (2 : Int32) (own_m1.set key_2185.toInt.toNat (.int 0)) [(.int 2), (.int x0), (.int x1), (.int 0), (.int 0), (.int 0), (.int 0), (.int 0), (.int 0), (.int 0), (.int 0), (.int 0), (.int 0), (.int 0), (.int 0), (.int 0)] QQ [x0, x1] h_2433 n0 z_2489 f_2471 F_2445 F_2446 A_2438 A_2439 f_2470 (by omega) (own_set_at _ _ _ (by rw [own_m1_len]; omega)) hlQQ (by decide) (by decide) rfl rfl (by show (2 : Nat) ≤ 6; decide) (own_pre _ _ _ rfl)) at_302 rfl pd15 rfl rfl (Nat.le_of_eq rfl) (by decide) (by decide) (by decide) (by decide) rfl ?_
        rintro _ _ ⟨r, rfl, rfl, hr, hr2⟩
        show Go _ _ _ _ _ _ _ _ _ _ _ _ h_2433 (0 + 0 + 1 + 1 + 0 + 1 + 0 + 1 + 1 + 2 + 6 + 0) (0 + 0 + 6 + 6 + 0 + 6 + 0 + 6 + 8 + 0 + 208 + 0) 305 #[.val (.int y0), .val (.int y1), .val (.int y2), .val (.int y3), .val (.int y4), .val (.int g_2119), .val (.int g_2121), .val (.int g_2123), .val (.int g_2125), .val (.int g_2127), .val (.int g_2129), .val (.int v0), .val (.int v_2134), .val (.int v_2136), .val (.int v_2138), .val (.int v_2140), .val (.int v_2142), .val (.ref a_2145), .val (.int rm_2183), .val (.int qm_2184), .val (.int key_2185), .val (.int oth_2187), .val (.int 0), .val (.ref a_2192), .val (.int 2), .val (.ref a_2212), .val (.int nQQ), .val (.ref o_2237), .val (.ref a_2254), .val (.int 0)] [(.int r)]
        have z0 : (0 : Int32).toInt = 0 := rfl
        have z1 : (1 : Int32).toInt = 1 := rfl
        rw [hmask] at hr2
        refine Go.iload (pc' := 307) at_305 rfl rfl ?_
        refine Go.icmp (pc1 := 314) (pc2 := 310) at_307 (by decide) (by decide) rfl (fun (c_2491 : r.toInt ≠ (0 : Int)) => ?_) (fun (c_2491 : r.toInt = (0 : Int)) => ?_)
        · exact absurd (by omega) c_2491
        refine Go.iconst (pc' := 311) (v := (1 : Int32)) at_310 rfl rfl ?_
        refine Go.goto (pc' := 315) at_311 (by decide) (by decide) ?_
        exact Go.retN (t := .boolean) at_315 rfl (by simp) rfl rfl (by decide) (by decide)
      · refine Go.iconst (pc' := 290) (v := (1 : Int32)) at_289 rfl rfl ?_
        refine Go.goto (pc' := 294) at_290 (by decide) (by decide) ?_
        refine Go.istore (pc' := 296) (Ls' := #[.val (.int y0), .val (.int y1), .val (.int y2), .val (.int y3), .val (.int y4), .val (.int g_2119), .val (.int g_2121), .val (.int g_2123), .val (.int g_2125), .val (.int g_2127), .val (.int g_2129), .val (.int v0), .val (.int v_2134), .val (.int v_2136), .val (.int v_2138), .val (.int v_2140), .val (.int v_2142), .val (.ref a_2145), .val (.int rm_2183), .val (.int qm_2184), .val (.int key_2185), .val (.int oth_2187), .val (.int 0), .val (.ref a_2192), .val (.int 2), .val (.ref a_2212), .val (.int nQQ), .val (.ref o_2237), .val (.ref a_2254), .val (.int 1)]) at_294 rfl rfl ?_
        refine Go.aload (pc' := 298) at_296 rfl rfl rfl ?_
        refine Go.iload (pc' := 300) at_298 rfl rfl ?_
        refine Go.aload (pc' := 302) at_300 rfl rfl rfl ?_
        refine Go.callV (pc' := 305) (argsL := [(.int key_2185), (.ref o_2237)]) (rest := []) (W := 0) (own_w hw 109 rfl) (own_w hw 110 rfl) (own_w hw 112 rfl) (own_w hw 111 rfl) (own_w hw 16 rfl) (own_w hw 113 rfl) (by decide) f_2471 (m_caN l Z a0 hw a_2254 o_2434 b_2435 o_2237 key_2185 (0 : Int32) (2 : Int32) (own_m1.set key_2185.toInt.toNat (.int 0)) [(.int 2), (.int x0), (.int x1), (.int 0), (.int 0), (.int 0), (.int 0), (.int 0), (.int 0), (.int 0), (.int 0), (.int 0), (.int 0), (.int 0), (.int 0), (.int 0)] QQ [x0, x1] h_2433 n0 z_2489 f_2471 F_2445 F_2446 A_2438 A_2439 f_2470 (by omega) (own_set_at _ _ _ (by rw [own_m1_len]; omega)) hlQQ (by decide) (by decide) rfl rfl (by show (2 : Nat) ≤ 6; decide) (own_pre _ _ _ rfl)) at_302 rfl pd15 rfl rfl (Nat.le_of_eq rfl) (by decide) (by decide) (by decide) (by decide) rfl ?_
        rintro _ _ ⟨r, rfl, rfl, hr, hr2⟩
        show Go _ _ _ _ _ _ _ _ _ _ _ _ h_2433 (0 + 0 + 1 + 1 + 0 + 1 + 0 + 1 + 1 + 2 + 6 + 0) (0 + 0 + 6 + 6 + 0 + 6 + 0 + 6 + 8 + 0 + 208 + 0) 305 #[.val (.int y0), .val (.int y1), .val (.int y2), .val (.int y3), .val (.int y4), .val (.int g_2119), .val (.int g_2121), .val (.int g_2123), .val (.int g_2125), .val (.int g_2127), .val (.int g_2129), .val (.int v0), .val (.int v_2134), .val (.int v_2136), .val (.int v_2138), .val (.int v_2140), .val (.int v_2142), .val (.ref a_2145), .val (.int rm_2183), .val (.int qm_2184), .val (.int key_2185), .val (.int oth_2187), .val (.int 0), .val (.ref a_2192), .val (.int 2), .val (.ref a_2212), .val (.int nQQ), .val (.ref o_2237), .val (.ref a_2254), .val (.int 1)] [(.int r)]
        have z0 : (0 : Int32).toInt = 0 := rfl
        have z1 : (1 : Int32).toInt = 1 := rfl
        rw [hmask] at hr2
        refine Go.iload (pc' := 307) at_305 rfl rfl ?_
        refine Go.icmp (pc1 := 314) (pc2 := 310) at_307 (by decide) (by decide) rfl (fun (c_2492 : r.toInt ≠ (1 : Int)) => ?_) (fun (c_2492 : r.toInt = (1 : Int)) => ?_)
        · exact absurd (by omega) c_2492
        refine Go.iconst (pc' := 311) (v := (1 : Int32)) at_310 rfl rfl ?_
        refine Go.goto (pc' := 315) at_311 (by decide) (by decide) ?_
        exact Go.retN (t := .boolean) at_315 rfl (by simp) rfl rfl (by decide) (by decide)
    · obtain rfl : nRR = (3 : Int32) := Int32.toInt_inj.mp hnRR
      have y_2493 : Ary Z h_2282 a_2192 .int [(.int x0), (.int x1), (.int x2), (.int 0), (.int 0), (.int 0)] := f_2313
      show Go _ _ _ _ _ _ _ _ _ _ _ _ h_2282 (0 + 0 + 1 + 1 + 0 + 1 + 0 + 1 + 1 + 2) (0 + 0 + 6 + 6 + 0 + 6 + 0 + 6 + 8 + 0) 276 #[.val (.int y0), .val (.int y1), .val (.int y2), .val (.int y3), .val (.int y4), .val (.int g_2119), .val (.int g_2121), .val (.int g_2123), .val (.int g_2125), .val (.int g_2127), .val (.int g_2129), .val (.int v0), .val (.int v_2134), .val (.int v_2136), .val (.int v_2138), .val (.int v_2140), .val (.int v_2142), .val (.ref a_2145), .val (.int rm_2183), .val (.int qm_2184), .val (.int key_2185), .val (.int oth_2187), .val (.int 0), .val (.ref a_2192), .val (.int 3), .val (.ref a_2212), .val (.int nQQ), .val (.ref o_2237), .val (.ref a_2254), .unset] [(.int 3), (.int 0), (.ref a_2192), (.int key_2185), (.ref a_2254)]
      refine Go.callVW (pc' := 279) (argsL := [(.int key_2185), (.ref a_2192), (.int 0), (.int 3)]) (rest := []) (W := 0) (own_w hw 30 rfl) (own_w hw 31 rfl) (own_w hw 33 rfl) (own_w hw 32 rfl) (own_w hw 16 rfl) (own_w hw 34 rfl) (by decide) f_2316 (m_set0_3 l Z a0 hw a_2254 e_2283 p_2284 a_2192 key_2185 x0 x1 x2 (0 : Int32) (0 : Int32) (0 : Int32) h_2282 n0 z_2330 f_2316 F_2293 F_2294 F_2295 F_2296 F_2297 F_2298 F_2299 g_2263 A_2286 A_2287 y_2493 n_2260.symm (by omega) (by omega)) at_276 rfl pd14 rfl rfl (Nat.le_of_eq rfl) (by decide) (by decide) (by decide) (by decide) rfl ?_
      rintro _ h_2494 ⟨rfl, o_2495, b_2496, ky_2497, K_2498, F_2506, F_2507, F_2508, F_2509, F_2510, F_2511, F_2512, A_2499, A_2500, q_2501, t_2502, q_2503, t_2504, ne_2505⟩
      have n_2513 : a_2145 ≠ o_2495 := Nat.ne_of_lt (Nat.lt_of_lt_of_le t_2325 q_2501)
      have n_2514 : a_2192 ≠ o_2495 := Nat.ne_of_lt (Nat.lt_of_lt_of_le t_2326 q_2501)
      have n_2515 : a_2212 ≠ o_2495 := Nat.ne_of_lt (Nat.lt_of_lt_of_le t_2327 q_2501)
      have n_2516 : o_2237 ≠ o_2495 := Nat.ne_of_lt (Nat.lt_of_lt_of_le t_2328 q_2501)
      have n_2517 : a_2254 ≠ o_2495 := Nat.ne_of_lt (Nat.lt_of_lt_of_le t_2329 q_2501)
      have n_2518 : e_2283 ≠ o_2495 := Nat.ne_of_lt (Nat.lt_of_lt_of_le t_2289 q_2501)
      have n_2519 : p_2284 ≠ o_2495 := Nat.ne_of_lt (Nat.lt_of_lt_of_le t_2291 q_2501)
      have g_2520 : n0 ≤ o_2495 := Nat.le_trans z_2330 q_2501
      have n_2521 : a_2145 ≠ b_2496 := Nat.ne_of_lt (Nat.lt_of_lt_of_le t_2325 q_2503)
      have n_2522 : a_2192 ≠ b_2496 := Nat.ne_of_lt (Nat.lt_of_lt_of_le t_2326 q_2503)
      have n_2523 : a_2212 ≠ b_2496 := Nat.ne_of_lt (Nat.lt_of_lt_of_le t_2327 q_2503)
      have n_2524 : o_2237 ≠ b_2496 := Nat.ne_of_lt (Nat.lt_of_lt_of_le t_2328 q_2503)
      have n_2525 : a_2254 ≠ b_2496 := Nat.ne_of_lt (Nat.lt_of_lt_of_le t_2329 q_2503)
      have n_2526 : e_2283 ≠ b_2496 := Nat.ne_of_lt (Nat.lt_of_lt_of_le t_2289 q_2503)
      have n_2527 : p_2284 ≠ b_2496 := Nat.ne_of_lt (Nat.lt_of_lt_of_le t_2291 q_2503)
      have g_2528 : n0 ≤ b_2496 := Nat.le_trans z_2330 q_2503
      have f_2529 : Ary Z h_2494 a_2145 .int [(.int v0), (.int v_2134), (.int v_2136), (.int v_2138), (.int v_2140), (.int v_2142)] := f_2312.sm (Sm.keep K_2498 (ninS n_2259 nin0))
      have f_2530 : Ary Z h_2494 a_2212 .int (own_pad QQ) := f_2314.sm (Sm.keep K_2498 (ninS n_2261 nin0))
      have f_2531 : Ary Z h_2494 o_2237 .int (QQ.map Value.int) := f_2315.sm (Sm.keep K_2498 (ninS n_2262 nin0))
      have f_2532 : Exa Z h_2494 a_2254 "com/example/nearword/nearword/internal/index/IntRuns" := f_2316.keep K_2498
      have f_2540 : Ary Z h_2494 e_2283 .int [] := A_2286.sm (Sm.keep K_2498 (ninS n_2304.symm nin0))
      have f_2541 : Ary Z h_2494 p_2284 .int [] := A_2287.sm (Sm.keep K_2498 (ninS n_2310.symm nin0))
      have f_2542 : Ary Z h_2494 a_2192 .int [(.int x0), (.int x1), (.int x2), (.int 0), (.int 0), (.int 0)] := y_2493.sm (Sm.keep K_2498 (ninS n_2260 nin0))
      have t_2543 : a_2145 < h_2494.size := Nat.lt_of_lt_of_le t_2325 K_2498.1
      have t_2544 : a_2192 < h_2494.size := Nat.lt_of_lt_of_le t_2326 K_2498.1
      have t_2545 : a_2212 < h_2494.size := Nat.lt_of_lt_of_le t_2327 K_2498.1
      have t_2546 : o_2237 < h_2494.size := Nat.lt_of_lt_of_le t_2328 K_2498.1
      have t_2547 : a_2254 < h_2494.size := Nat.lt_of_lt_of_le t_2329 K_2498.1
      have t_2548 : e_2283 < h_2494.size := Nat.lt_of_lt_of_le t_2289 K_2498.1
      have t_2549 : p_2284 < h_2494.size := Nat.lt_of_lt_of_le t_2291 K_2498.1
      have z_2550 : n0 ≤ h_2494.size := Nat.le_trans z_2330 K_2498.1
      show Go _ _ _ _ _ _ _ _ _ _ _ _ h_2494 (0 + 0 + 1 + 1 + 0 + 1 + 0 + 1 + 1 + 2 + 6) (0 + 0 + 6 + 6 + 0 + 6 + 0 + 6 + 8 + 0 + 208) 279 #[.val (.int y0), .val (.int y1), .val (.int y2), .val (.int y3), .val (.int y4), .val (.int g_2119), .val (.int g_2121), .val (.int g_2123), .val (.int g_2125), .val (.int g_2127), .val (.int g_2129), .val (.int v0), .val (.int v_2134), .val (.int v_2136), .val (.int v_2138), .val (.int v_2140), .val (.int v_2142), .val (.ref a_2145), .val (.int rm_2183), .val (.int qm_2184), .val (.int key_2185), .val (.int oth_2187), .val (.int 0), .val (.ref a_2192), .val (.int 3), .val (.ref a_2212), .val (.int nQQ), .val (.ref o_2237), .val (.ref a_2254), .unset] []
      have hmask : (own_ca [x0, x1, x2] QQ = true ↔ (qm_2184 &&& (rm_2183 ^^^ (-1 : Int32))).toInt = 0) := by rw [← hgRR, ← hgQQ]; exact own_law rm_2183 qm_2184 v0 v_2134 v_2136 v_2138 v_2140 v_2142 hasc krm kqm
      refine Go.iload (pc' := 281) at_279 rfl rfl ?_
      refine Go.iload (pc' := 283) at_281 rfl rfl ?_
      refine Go.iconst (pc' := 284) (v := (-1 : Int32)) at_283 rfl rfl ?_
      refine Go.ixor (pc' := 285) at_284 rfl ?_
      refine Go.iand (pc' := 286) at_285 rfl ?_
      refine Go.ifc (pc1 := 293) (pc2 := 289) at_286 (by decide) (by decide) rfl (fun (c_2551 : (qm_2184 &&& (rm_2183 ^^^ (-1 : Int32))).toInt ≠ 0) => ?_) (fun (c_2551 : (qm_2184 &&& (rm_2183 ^^^ (-1 : Int32))).toInt = 0) => ?_)
      · refine Go.iconst (pc' := 294) (v := (0 : Int32)) at_293 rfl rfl ?_
        refine Go.istore (pc' := 296) (Ls' := #[.val (.int y0), .val (.int y1), .val (.int y2), .val (.int y3), .val (.int y4), .val (.int g_2119), .val (.int g_2121), .val (.int g_2123), .val (.int g_2125), .val (.int g_2127), .val (.int g_2129), .val (.int v0), .val (.int v_2134), .val (.int v_2136), .val (.int v_2138), .val (.int v_2140), .val (.int v_2142), .val (.ref a_2145), .val (.int rm_2183), .val (.int qm_2184), .val (.int key_2185), .val (.int oth_2187), .val (.int 0), .val (.ref a_2192), .val (.int 3), .val (.ref a_2212), .val (.int nQQ), .val (.ref o_2237), .val (.ref a_2254), .val (.int 0)]) at_294 rfl rfl ?_
        refine Go.aload (pc' := 298) at_296 rfl rfl rfl ?_
        refine Go.iload (pc' := 300) at_298 rfl rfl ?_
        refine Go.aload (pc' := 302) at_300 rfl rfl rfl ?_
        refine Go.callV (pc' := 305) (argsL := [(.int key_2185), (.ref o_2237)]) (rest := []) (W := 0) (own_w hw 109 rfl) (own_w hw 110 rfl) (own_w hw 112 rfl) (own_w hw 111 rfl) (own_w hw 16 rfl) (own_w hw 113 rfl) (by decide) f_2532 (m_caN l Z a0 hw a_2254 o_2495 b_2496 o_2237 key_2185 (0 : Int32) (3 : Int32) (own_m1.set key_2185.toInt.toNat (.int 0)) [(.int 3), (.int x0), (.int x1), (.int x2), (.int 0), (.int 0), (.int 0), (.int 0), (.int 0), (.int 0), (.int 0), (.int 0), (.int 0), (.int 0), (.int 0), (.int 0)] QQ [x0, x1, x2] h_2494 n0 z_2550 f_2532 F_2506 F_2507 A_2499 A_2500 f_2531 (by omega) (own_set_at _ _ _ (by rw [own_m1_len]; omega)) hlQQ (by decide) (by decide) rfl rfl (by show (3 : Nat) ≤ 6; decide) (own_pre _ _ _ rfl)) at_302 rfl pd15 rfl rfl (Nat.le_of_eq rfl) (by decide) (by decide) (by decide) (by decide) rfl ?_
        rintro _ _ ⟨r, rfl, rfl, hr, hr2⟩
        show Go _ _ _ _ _ _ _ _ _ _ _ _ h_2494 (0 + 0 + 1 + 1 + 0 + 1 + 0 + 1 + 1 + 2 + 6 + 0) (0 + 0 + 6 + 6 + 0 + 6 + 0 + 6 + 8 + 0 + 208 + 0) 305 #[.val (.int y0), .val (.int y1), .val (.int y2), .val (.int y3), .val (.int y4), .val (.int g_2119), .val (.int g_2121), .val (.int g_2123), .val (.int g_2125), .val (.int g_2127), .val (.int g_2129), .val (.int v0), .val (.int v_2134), .val (.int v_2136), .val (.int v_2138), .val (.int v_2140), .val (.int v_2142), .val (.ref a_2145), .val (.int rm_2183), .val (.int qm_2184), .val (.int key_2185), .val (.int oth_2187), .val (.int 0), .val (.ref a_2192), .val (.int 3), .val (.ref a_2212), .val (.int nQQ), .val (.ref o_2237), .val (.ref a_2254), .val (.int 0)] [(.int r)]
        have z0 : (0 : Int32).toInt = 0 := rfl
        have z1 : (1 : Int32).toInt = 1 := rfl
        rw [hmask] at hr2
        refine Go.iload (pc' := 307) at_305 rfl rfl ?_
        refine Go.icmp (pc1 := 314) (pc2 := 310) at_307 (by decide) (by decide) rfl (fun (c_2552 : r.toInt ≠ (0 : Int)) => ?_) (fun (c_2552 : r.toInt = (0 : Int)) => ?_)
        · exact absurd (by omega) c_2552
        refine Go.iconst (pc' := 311) (v := (1 : Int32)) at_310 rfl rfl ?_
        refine Go.goto (pc' := 315) at_311 (by decide) (by decide) ?_
        exact Go.retN (t := .boolean) at_315 rfl (by simp) rfl rfl (by decide) (by decide)
      · refine Go.iconst (pc' := 290) (v := (1 : Int32)) at_289 rfl rfl ?_
        refine Go.goto (pc' := 294) at_290 (by decide) (by decide) ?_
        refine Go.istore (pc' := 296) (Ls' := #[.val (.int y0), .val (.int y1), .val (.int y2), .val (.int y3), .val (.int y4), .val (.int g_2119), .val (.int g_2121), .val (.int g_2123), .val (.int g_2125), .val (.int g_2127), .val (.int g_2129), .val (.int v0), .val (.int v_2134), .val (.int v_2136), .val (.int v_2138), .val (.int v_2140), .val (.int v_2142), .val (.ref a_2145), .val (.int rm_2183), .val (.int qm_2184), .val (.int key_2185), .val (.int oth_2187), .val (.int 0), .val (.ref a_2192), .val (.int 3), .val (.ref a_2212), .val (.int nQQ), .val (.ref o_2237), .val (.ref a_2254), .val (.int 1)]) at_294 rfl rfl ?_
        refine Go.aload (pc' := 298) at_296 rfl rfl rfl ?_
        refine Go.iload (pc' := 300) at_298 rfl rfl ?_
        refine Go.aload (pc' := 302) at_300 rfl rfl rfl ?_
        refine Go.callV (pc' := 305) (argsL := [(.int key_2185), (.ref o_2237)]) (rest := []) (W := 0) (own_w hw 109 rfl) (own_w hw 110 rfl) (own_w hw 112 rfl) (own_w hw 111 rfl) (own_w hw 16 rfl) (own_w hw 113 rfl) (by decide) f_2532 (m_caN l Z a0 hw a_2254 o_2495 b_2496 o_2237 key_2185 (0 : Int32) (3 : Int32) (own_m1.set key_2185.toInt.toNat (.int 0)) [(.int 3), (.int x0), (.int x1), (.int x2), (.int 0), (.int 0), (.int 0), (.int 0), (.int 0), (.int 0), (.int 0), (.int 0), (.int 0), (.int 0), (.int 0), (.int 0)] QQ [x0, x1, x2] h_2494 n0 z_2550 f_2532 F_2506 F_2507 A_2499 A_2500 f_2531 (by omega) (own_set_at _ _ _ (by rw [own_m1_len]; omega)) hlQQ (by decide) (by decide) rfl rfl (by show (3 : Nat) ≤ 6; decide) (own_pre _ _ _ rfl)) at_302 rfl pd15 rfl rfl (Nat.le_of_eq rfl) (by decide) (by decide) (by decide) (by decide) rfl ?_
        rintro _ _ ⟨r, rfl, rfl, hr, hr2⟩
        show Go _ _ _ _ _ _ _ _ _ _ _ _ h_2494 (0 + 0 + 1 + 1 + 0 + 1 + 0 + 1 + 1 + 2 + 6 + 0) (0 + 0 + 6 + 6 + 0 + 6 + 0 + 6 + 8 + 0 + 208 + 0) 305 #[.val (.int y0), .val (.int y1), .val (.int y2), .val (.int y3), .val (.int y4), .val (.int g_2119), .val (.int g_2121), .val (.int g_2123), .val (.int g_2125), .val (.int g_2127), .val (.int g_2129), .val (.int v0), .val (.int v_2134), .val (.int v_2136), .val (.int v_2138), .val (.int v_2140), .val (.int v_2142), .val (.ref a_2145), .val (.int rm_2183), .val (.int qm_2184), .val (.int key_2185), .val (.int oth_2187), .val (.int 0), .val (.ref a_2192), .val (.int 3), .val (.ref a_2212), .val (.int nQQ), .val (.ref o_2237), .val (.ref a_2254), .val (.int 1)] [(.int r)]
        have z0 : (0 : Int32).toInt = 0 := rfl
        have z1 : (1 : Int32).toInt = 1 := rfl
        rw [hmask] at hr2
        refine Go.iload (pc' := 307) at_305 rfl rfl ?_
        refine Go.icmp (pc1 := 314) (pc2 := 310) at_307 (by decide) (by decide) rfl (fun (c_2553 : r.toInt ≠ (1 : Int)) => ?_) (fun (c_2553 : r.toInt = (1 : Int)) => ?_)
        · exact absurd (by omega) c_2553
        refine Go.iconst (pc' := 311) (v := (1 : Int32)) at_310 rfl rfl ?_
        refine Go.goto (pc' := 315) at_311 (by decide) (by decide) ?_
        exact Go.retN (t := .boolean) at_315 rfl (by simp) rfl rfl (by decide) (by decide)
    · obtain rfl : nRR = (4 : Int32) := Int32.toInt_inj.mp hnRR
      have y_2554 : Ary Z h_2282 a_2192 .int [(.int x0), (.int x1), (.int x2), (.int x3), (.int 0), (.int 0)] := f_2313
      show Go _ _ _ _ _ _ _ _ _ _ _ _ h_2282 (0 + 0 + 1 + 1 + 0 + 1 + 0 + 1 + 1 + 2) (0 + 0 + 6 + 6 + 0 + 6 + 0 + 6 + 8 + 0) 276 #[.val (.int y0), .val (.int y1), .val (.int y2), .val (.int y3), .val (.int y4), .val (.int g_2119), .val (.int g_2121), .val (.int g_2123), .val (.int g_2125), .val (.int g_2127), .val (.int g_2129), .val (.int v0), .val (.int v_2134), .val (.int v_2136), .val (.int v_2138), .val (.int v_2140), .val (.int v_2142), .val (.ref a_2145), .val (.int rm_2183), .val (.int qm_2184), .val (.int key_2185), .val (.int oth_2187), .val (.int 0), .val (.ref a_2192), .val (.int 4), .val (.ref a_2212), .val (.int nQQ), .val (.ref o_2237), .val (.ref a_2254), .unset] [(.int 4), (.int 0), (.ref a_2192), (.int key_2185), (.ref a_2254)]
      refine Go.callVW (pc' := 279) (argsL := [(.int key_2185), (.ref a_2192), (.int 0), (.int 4)]) (rest := []) (W := 0) (own_w hw 30 rfl) (own_w hw 31 rfl) (own_w hw 33 rfl) (own_w hw 32 rfl) (own_w hw 16 rfl) (own_w hw 34 rfl) (by decide) f_2316 (m_set0_4 l Z a0 hw a_2254 e_2283 p_2284 a_2192 key_2185 x0 x1 x2 x3 (0 : Int32) (0 : Int32) h_2282 n0 z_2330 f_2316 F_2293 F_2294 F_2295 F_2296 F_2297 F_2298 F_2299 g_2263 A_2286 A_2287 y_2554 n_2260.symm (by omega) (by omega)) at_276 rfl pd14 rfl rfl (Nat.le_of_eq rfl) (by decide) (by decide) (by decide) (by decide) rfl ?_
      rintro _ h_2555 ⟨rfl, o_2556, b_2557, ky_2558, K_2559, F_2567, F_2568, F_2569, F_2570, F_2571, F_2572, F_2573, A_2560, A_2561, q_2562, t_2563, q_2564, t_2565, ne_2566⟩
      have n_2574 : a_2145 ≠ o_2556 := Nat.ne_of_lt (Nat.lt_of_lt_of_le t_2325 q_2562)
      have n_2575 : a_2192 ≠ o_2556 := Nat.ne_of_lt (Nat.lt_of_lt_of_le t_2326 q_2562)
      have n_2576 : a_2212 ≠ o_2556 := Nat.ne_of_lt (Nat.lt_of_lt_of_le t_2327 q_2562)
      have n_2577 : o_2237 ≠ o_2556 := Nat.ne_of_lt (Nat.lt_of_lt_of_le t_2328 q_2562)
      have n_2578 : a_2254 ≠ o_2556 := Nat.ne_of_lt (Nat.lt_of_lt_of_le t_2329 q_2562)
      have n_2579 : e_2283 ≠ o_2556 := Nat.ne_of_lt (Nat.lt_of_lt_of_le t_2289 q_2562)
      have n_2580 : p_2284 ≠ o_2556 := Nat.ne_of_lt (Nat.lt_of_lt_of_le t_2291 q_2562)
      have g_2581 : n0 ≤ o_2556 := Nat.le_trans z_2330 q_2562
      have n_2582 : a_2145 ≠ b_2557 := Nat.ne_of_lt (Nat.lt_of_lt_of_le t_2325 q_2564)
      have n_2583 : a_2192 ≠ b_2557 := Nat.ne_of_lt (Nat.lt_of_lt_of_le t_2326 q_2564)
      have n_2584 : a_2212 ≠ b_2557 := Nat.ne_of_lt (Nat.lt_of_lt_of_le t_2327 q_2564)
      have n_2585 : o_2237 ≠ b_2557 := Nat.ne_of_lt (Nat.lt_of_lt_of_le t_2328 q_2564)
      have n_2586 : a_2254 ≠ b_2557 := Nat.ne_of_lt (Nat.lt_of_lt_of_le t_2329 q_2564)
      have n_2587 : e_2283 ≠ b_2557 := Nat.ne_of_lt (Nat.lt_of_lt_of_le t_2289 q_2564)
      have n_2588 : p_2284 ≠ b_2557 := Nat.ne_of_lt (Nat.lt_of_lt_of_le t_2291 q_2564)
      have g_2589 : n0 ≤ b_2557 := Nat.le_trans z_2330 q_2564
      have f_2590 : Ary Z h_2555 a_2145 .int [(.int v0), (.int v_2134), (.int v_2136), (.int v_2138), (.int v_2140), (.int v_2142)] := f_2312.sm (Sm.keep K_2559 (ninS n_2259 nin0))
      have f_2591 : Ary Z h_2555 a_2212 .int (own_pad QQ) := f_2314.sm (Sm.keep K_2559 (ninS n_2261 nin0))
      have f_2592 : Ary Z h_2555 o_2237 .int (QQ.map Value.int) := f_2315.sm (Sm.keep K_2559 (ninS n_2262 nin0))
      have f_2593 : Exa Z h_2555 a_2254 "com/example/nearword/nearword/internal/index/IntRuns" := f_2316.keep K_2559
      have f_2601 : Ary Z h_2555 e_2283 .int [] := A_2286.sm (Sm.keep K_2559 (ninS n_2304.symm nin0))
      have f_2602 : Ary Z h_2555 p_2284 .int [] := A_2287.sm (Sm.keep K_2559 (ninS n_2310.symm nin0))
      have f_2603 : Ary Z h_2555 a_2192 .int [(.int x0), (.int x1), (.int x2), (.int x3), (.int 0), (.int 0)] := y_2554.sm (Sm.keep K_2559 (ninS n_2260 nin0))
      have t_2604 : a_2145 < h_2555.size := Nat.lt_of_lt_of_le t_2325 K_2559.1
      have t_2605 : a_2192 < h_2555.size := Nat.lt_of_lt_of_le t_2326 K_2559.1
      have t_2606 : a_2212 < h_2555.size := Nat.lt_of_lt_of_le t_2327 K_2559.1
      have t_2607 : o_2237 < h_2555.size := Nat.lt_of_lt_of_le t_2328 K_2559.1
      have t_2608 : a_2254 < h_2555.size := Nat.lt_of_lt_of_le t_2329 K_2559.1
      have t_2609 : e_2283 < h_2555.size := Nat.lt_of_lt_of_le t_2289 K_2559.1
      have t_2610 : p_2284 < h_2555.size := Nat.lt_of_lt_of_le t_2291 K_2559.1
      have z_2611 : n0 ≤ h_2555.size := Nat.le_trans z_2330 K_2559.1
      show Go _ _ _ _ _ _ _ _ _ _ _ _ h_2555 (0 + 0 + 1 + 1 + 0 + 1 + 0 + 1 + 1 + 2 + 6) (0 + 0 + 6 + 6 + 0 + 6 + 0 + 6 + 8 + 0 + 208) 279 #[.val (.int y0), .val (.int y1), .val (.int y2), .val (.int y3), .val (.int y4), .val (.int g_2119), .val (.int g_2121), .val (.int g_2123), .val (.int g_2125), .val (.int g_2127), .val (.int g_2129), .val (.int v0), .val (.int v_2134), .val (.int v_2136), .val (.int v_2138), .val (.int v_2140), .val (.int v_2142), .val (.ref a_2145), .val (.int rm_2183), .val (.int qm_2184), .val (.int key_2185), .val (.int oth_2187), .val (.int 0), .val (.ref a_2192), .val (.int 4), .val (.ref a_2212), .val (.int nQQ), .val (.ref o_2237), .val (.ref a_2254), .unset] []
      have hmask : (own_ca [x0, x1, x2, x3] QQ = true ↔ (qm_2184 &&& (rm_2183 ^^^ (-1 : Int32))).toInt = 0) := by rw [← hgRR, ← hgQQ]; exact own_law rm_2183 qm_2184 v0 v_2134 v_2136 v_2138 v_2140 v_2142 hasc krm kqm
      refine Go.iload (pc' := 281) at_279 rfl rfl ?_
      refine Go.iload (pc' := 283) at_281 rfl rfl ?_
      refine Go.iconst (pc' := 284) (v := (-1 : Int32)) at_283 rfl rfl ?_
      refine Go.ixor (pc' := 285) at_284 rfl ?_
      refine Go.iand (pc' := 286) at_285 rfl ?_
      refine Go.ifc (pc1 := 293) (pc2 := 289) at_286 (by decide) (by decide) rfl (fun (c_2612 : (qm_2184 &&& (rm_2183 ^^^ (-1 : Int32))).toInt ≠ 0) => ?_) (fun (c_2612 : (qm_2184 &&& (rm_2183 ^^^ (-1 : Int32))).toInt = 0) => ?_)
      · refine Go.iconst (pc' := 294) (v := (0 : Int32)) at_293 rfl rfl ?_
        refine Go.istore (pc' := 296) (Ls' := #[.val (.int y0), .val (.int y1), .val (.int y2), .val (.int y3), .val (.int y4), .val (.int g_2119), .val (.int g_2121), .val (.int g_2123), .val (.int g_2125), .val (.int g_2127), .val (.int g_2129), .val (.int v0), .val (.int v_2134), .val (.int v_2136), .val (.int v_2138), .val (.int v_2140), .val (.int v_2142), .val (.ref a_2145), .val (.int rm_2183), .val (.int qm_2184), .val (.int key_2185), .val (.int oth_2187), .val (.int 0), .val (.ref a_2192), .val (.int 4), .val (.ref a_2212), .val (.int nQQ), .val (.ref o_2237), .val (.ref a_2254), .val (.int 0)]) at_294 rfl rfl ?_
        refine Go.aload (pc' := 298) at_296 rfl rfl rfl ?_
        refine Go.iload (pc' := 300) at_298 rfl rfl ?_
        refine Go.aload (pc' := 302) at_300 rfl rfl rfl ?_
        refine Go.callV (pc' := 305) (argsL := [(.int key_2185), (.ref o_2237)]) (rest := []) (W := 0) (own_w hw 109 rfl) (own_w hw 110 rfl) (own_w hw 112 rfl) (own_w hw 111 rfl) (own_w hw 16 rfl) (own_w hw 113 rfl) (by decide) f_2593 (m_caN l Z a0 hw a_2254 o_2556 b_2557 o_2237 key_2185 (0 : Int32) (4 : Int32) (own_m1.set key_2185.toInt.toNat (.int 0)) [(.int 4), (.int x0), (.int x1), (.int x2), (.int x3), (.int 0), (.int 0), (.int 0), (.int 0), (.int 0), (.int 0), (.int 0), (.int 0), (.int 0), (.int 0), (.int 0)] QQ [x0, x1, x2, x3] h_2555 n0 z_2611 f_2593 F_2567 F_2568 A_2560 A_2561 f_2592 (by omega) (own_set_at _ _ _ (by rw [own_m1_len]; omega)) hlQQ (by decide) (by decide) rfl rfl (by show (4 : Nat) ≤ 6; decide) (own_pre _ _ _ rfl)) at_302 rfl pd15 rfl rfl (Nat.le_of_eq rfl) (by decide) (by decide) (by decide) (by decide) rfl ?_
        rintro _ _ ⟨r, rfl, rfl, hr, hr2⟩
        show Go _ _ _ _ _ _ _ _ _ _ _ _ h_2555 (0 + 0 + 1 + 1 + 0 + 1 + 0 + 1 + 1 + 2 + 6 + 0) (0 + 0 + 6 + 6 + 0 + 6 + 0 + 6 + 8 + 0 + 208 + 0) 305 #[.val (.int y0), .val (.int y1), .val (.int y2), .val (.int y3), .val (.int y4), .val (.int g_2119), .val (.int g_2121), .val (.int g_2123), .val (.int g_2125), .val (.int g_2127), .val (.int g_2129), .val (.int v0), .val (.int v_2134), .val (.int v_2136), .val (.int v_2138), .val (.int v_2140), .val (.int v_2142), .val (.ref a_2145), .val (.int rm_2183), .val (.int qm_2184), .val (.int key_2185), .val (.int oth_2187), .val (.int 0), .val (.ref a_2192), .val (.int 4), .val (.ref a_2212), .val (.int nQQ), .val (.ref o_2237), .val (.ref a_2254), .val (.int 0)] [(.int r)]
        have z0 : (0 : Int32).toInt = 0 := rfl
        have z1 : (1 : Int32).toInt = 1 := rfl
        rw [hmask] at hr2
        refine Go.iload (pc' := 307) at_305 rfl rfl ?_
        refine Go.icmp (pc1 := 314) (pc2 := 310) at_307 (by decide) (by decide) rfl (fun (c_2613 : r.toInt ≠ (0 : Int)) => ?_) (fun (c_2613 : r.toInt = (0 : Int)) => ?_)
        · exact absurd (by omega) c_2613
        refine Go.iconst (pc' := 311) (v := (1 : Int32)) at_310 rfl rfl ?_
        refine Go.goto (pc' := 315) at_311 (by decide) (by decide) ?_
        exact Go.retN (t := .boolean) at_315 rfl (by simp) rfl rfl (by decide) (by decide)
      · refine Go.iconst (pc' := 290) (v := (1 : Int32)) at_289 rfl rfl ?_
        refine Go.goto (pc' := 294) at_290 (by decide) (by decide) ?_
        refine Go.istore (pc' := 296) (Ls' := #[.val (.int y0), .val (.int y1), .val (.int y2), .val (.int y3), .val (.int y4), .val (.int g_2119), .val (.int g_2121), .val (.int g_2123), .val (.int g_2125), .val (.int g_2127), .val (.int g_2129), .val (.int v0), .val (.int v_2134), .val (.int v_2136), .val (.int v_2138), .val (.int v_2140), .val (.int v_2142), .val (.ref a_2145), .val (.int rm_2183), .val (.int qm_2184), .val (.int key_2185), .val (.int oth_2187), .val (.int 0), .val (.ref a_2192), .val (.int 4), .val (.ref a_2212), .val (.int nQQ), .val (.ref o_2237), .val (.ref a_2254), .val (.int 1)]) at_294 rfl rfl ?_
        refine Go.aload (pc' := 298) at_296 rfl rfl rfl ?_
        refine Go.iload (pc' := 300) at_298 rfl rfl ?_
        refine Go.aload (pc' := 302) at_300 rfl rfl rfl ?_
        refine Go.callV (pc' := 305) (argsL := [(.int key_2185), (.ref o_2237)]) (rest := []) (W := 0) (own_w hw 109 rfl) (own_w hw 110 rfl) (own_w hw 112 rfl) (own_w hw 111 rfl) (own_w hw 16 rfl) (own_w hw 113 rfl) (by decide) f_2593 (m_caN l Z a0 hw a_2254 o_2556 b_2557 o_2237 key_2185 (0 : Int32) (4 : Int32) (own_m1.set key_2185.toInt.toNat (.int 0)) [(.int 4), (.int x0), (.int x1), (.int x2), (.int x3), (.int 0), (.int 0), (.int 0), (.int 0), (.int 0), (.int 0), (.int 0), (.int 0), (.int 0), (.int 0), (.int 0)] QQ [x0, x1, x2, x3] h_2555 n0 z_2611 f_2593 F_2567 F_2568 A_2560 A_2561 f_2592 (by omega) (own_set_at _ _ _ (by rw [own_m1_len]; omega)) hlQQ (by decide) (by decide) rfl rfl (by show (4 : Nat) ≤ 6; decide) (own_pre _ _ _ rfl)) at_302 rfl pd15 rfl rfl (Nat.le_of_eq rfl) (by decide) (by decide) (by decide) (by decide) rfl ?_
        rintro _ _ ⟨r, rfl, rfl, hr, hr2⟩
        show Go _ _ _ _ _ _ _ _ _ _ _ _ h_2555 (0 + 0 + 1 + 1 + 0 + 1 + 0 + 1 + 1 + 2 + 6 + 0) (0 + 0 + 6 + 6 + 0 + 6 + 0 + 6 + 8 + 0 + 208 + 0) 305 #[.val (.int y0), .val (.int y1), .val (.int y2), .val (.int y3), .val (.int y4), .val (.int g_2119), .val (.int g_2121), .val (.int g_2123), .val (.int g_2125), .val (.int g_2127), .val (.int g_2129), .val (.int v0), .val (.int v_2134), .val (.int v_2136), .val (.int v_2138), .val (.int v_2140), .val (.int v_2142), .val (.ref a_2145), .val (.int rm_2183), .val (.int qm_2184), .val (.int key_2185), .val (.int oth_2187), .val (.int 0), .val (.ref a_2192), .val (.int 4), .val (.ref a_2212), .val (.int nQQ), .val (.ref o_2237), .val (.ref a_2254), .val (.int 1)] [(.int r)]
        have z0 : (0 : Int32).toInt = 0 := rfl
        have z1 : (1 : Int32).toInt = 1 := rfl
        rw [hmask] at hr2
        refine Go.iload (pc' := 307) at_305 rfl rfl ?_
        refine Go.icmp (pc1 := 314) (pc2 := 310) at_307 (by decide) (by decide) rfl (fun (c_2614 : r.toInt ≠ (1 : Int)) => ?_) (fun (c_2614 : r.toInt = (1 : Int)) => ?_)
        · exact absurd (by omega) c_2614
        refine Go.iconst (pc' := 311) (v := (1 : Int32)) at_310 rfl rfl ?_
        refine Go.goto (pc' := 315) at_311 (by decide) (by decide) ?_
        exact Go.retN (t := .boolean) at_315 rfl (by simp) rfl rfl (by decide) (by decide)
    · obtain rfl : nRR = (5 : Int32) := Int32.toInt_inj.mp hnRR
      have y_2615 : Ary Z h_2282 a_2192 .int [(.int x0), (.int x1), (.int x2), (.int x3), (.int x4), (.int 0)] := f_2313
      show Go _ _ _ _ _ _ _ _ _ _ _ _ h_2282 (0 + 0 + 1 + 1 + 0 + 1 + 0 + 1 + 1 + 2) (0 + 0 + 6 + 6 + 0 + 6 + 0 + 6 + 8 + 0) 276 #[.val (.int y0), .val (.int y1), .val (.int y2), .val (.int y3), .val (.int y4), .val (.int g_2119), .val (.int g_2121), .val (.int g_2123), .val (.int g_2125), .val (.int g_2127), .val (.int g_2129), .val (.int v0), .val (.int v_2134), .val (.int v_2136), .val (.int v_2138), .val (.int v_2140), .val (.int v_2142), .val (.ref a_2145), .val (.int rm_2183), .val (.int qm_2184), .val (.int key_2185), .val (.int oth_2187), .val (.int 0), .val (.ref a_2192), .val (.int 5), .val (.ref a_2212), .val (.int nQQ), .val (.ref o_2237), .val (.ref a_2254), .unset] [(.int 5), (.int 0), (.ref a_2192), (.int key_2185), (.ref a_2254)]
      refine Go.callVW (pc' := 279) (argsL := [(.int key_2185), (.ref a_2192), (.int 0), (.int 5)]) (rest := []) (W := 0) (own_w hw 30 rfl) (own_w hw 31 rfl) (own_w hw 33 rfl) (own_w hw 32 rfl) (own_w hw 16 rfl) (own_w hw 34 rfl) (by decide) f_2316 (m_set0_5 l Z a0 hw a_2254 e_2283 p_2284 a_2192 key_2185 x0 x1 x2 x3 x4 (0 : Int32) h_2282 n0 z_2330 f_2316 F_2293 F_2294 F_2295 F_2296 F_2297 F_2298 F_2299 g_2263 A_2286 A_2287 y_2615 n_2260.symm (by omega) (by omega)) at_276 rfl pd14 rfl rfl (Nat.le_of_eq rfl) (by decide) (by decide) (by decide) (by decide) rfl ?_
      rintro _ h_2616 ⟨rfl, o_2617, b_2618, ky_2619, K_2620, F_2628, F_2629, F_2630, F_2631, F_2632, F_2633, F_2634, A_2621, A_2622, q_2623, t_2624, q_2625, t_2626, ne_2627⟩
      have n_2635 : a_2145 ≠ o_2617 := Nat.ne_of_lt (Nat.lt_of_lt_of_le t_2325 q_2623)
      have n_2636 : a_2192 ≠ o_2617 := Nat.ne_of_lt (Nat.lt_of_lt_of_le t_2326 q_2623)
      have n_2637 : a_2212 ≠ o_2617 := Nat.ne_of_lt (Nat.lt_of_lt_of_le t_2327 q_2623)
      have n_2638 : o_2237 ≠ o_2617 := Nat.ne_of_lt (Nat.lt_of_lt_of_le t_2328 q_2623)
      have n_2639 : a_2254 ≠ o_2617 := Nat.ne_of_lt (Nat.lt_of_lt_of_le t_2329 q_2623)
      have n_2640 : e_2283 ≠ o_2617 := Nat.ne_of_lt (Nat.lt_of_lt_of_le t_2289 q_2623)
      have n_2641 : p_2284 ≠ o_2617 := Nat.ne_of_lt (Nat.lt_of_lt_of_le t_2291 q_2623)
      have g_2642 : n0 ≤ o_2617 := Nat.le_trans z_2330 q_2623
      have n_2643 : a_2145 ≠ b_2618 := Nat.ne_of_lt (Nat.lt_of_lt_of_le t_2325 q_2625)
      have n_2644 : a_2192 ≠ b_2618 := Nat.ne_of_lt (Nat.lt_of_lt_of_le t_2326 q_2625)
      have n_2645 : a_2212 ≠ b_2618 := Nat.ne_of_lt (Nat.lt_of_lt_of_le t_2327 q_2625)
      have n_2646 : o_2237 ≠ b_2618 := Nat.ne_of_lt (Nat.lt_of_lt_of_le t_2328 q_2625)
      have n_2647 : a_2254 ≠ b_2618 := Nat.ne_of_lt (Nat.lt_of_lt_of_le t_2329 q_2625)
      have n_2648 : e_2283 ≠ b_2618 := Nat.ne_of_lt (Nat.lt_of_lt_of_le t_2289 q_2625)
      have n_2649 : p_2284 ≠ b_2618 := Nat.ne_of_lt (Nat.lt_of_lt_of_le t_2291 q_2625)
      have g_2650 : n0 ≤ b_2618 := Nat.le_trans z_2330 q_2625
      have f_2651 : Ary Z h_2616 a_2145 .int [(.int v0), (.int v_2134), (.int v_2136), (.int v_2138), (.int v_2140), (.int v_2142)] := f_2312.sm (Sm.keep K_2620 (ninS n_2259 nin0))
      have f_2652 : Ary Z h_2616 a_2212 .int (own_pad QQ) := f_2314.sm (Sm.keep K_2620 (ninS n_2261 nin0))
      have f_2653 : Ary Z h_2616 o_2237 .int (QQ.map Value.int) := f_2315.sm (Sm.keep K_2620 (ninS n_2262 nin0))
      have f_2654 : Exa Z h_2616 a_2254 "com/example/nearword/nearword/internal/index/IntRuns" := f_2316.keep K_2620
      have f_2662 : Ary Z h_2616 e_2283 .int [] := A_2286.sm (Sm.keep K_2620 (ninS n_2304.symm nin0))
      have f_2663 : Ary Z h_2616 p_2284 .int [] := A_2287.sm (Sm.keep K_2620 (ninS n_2310.symm nin0))
      have f_2664 : Ary Z h_2616 a_2192 .int [(.int x0), (.int x1), (.int x2), (.int x3), (.int x4), (.int 0)] := y_2615.sm (Sm.keep K_2620 (ninS n_2260 nin0))
      have t_2665 : a_2145 < h_2616.size := Nat.lt_of_lt_of_le t_2325 K_2620.1
      have t_2666 : a_2192 < h_2616.size := Nat.lt_of_lt_of_le t_2326 K_2620.1
      have t_2667 : a_2212 < h_2616.size := Nat.lt_of_lt_of_le t_2327 K_2620.1
      have t_2668 : o_2237 < h_2616.size := Nat.lt_of_lt_of_le t_2328 K_2620.1
      have t_2669 : a_2254 < h_2616.size := Nat.lt_of_lt_of_le t_2329 K_2620.1
      have t_2670 : e_2283 < h_2616.size := Nat.lt_of_lt_of_le t_2289 K_2620.1
      have t_2671 : p_2284 < h_2616.size := Nat.lt_of_lt_of_le t_2291 K_2620.1
      have z_2672 : n0 ≤ h_2616.size := Nat.le_trans z_2330 K_2620.1
      show Go _ _ _ _ _ _ _ _ _ _ _ _ h_2616 (0 + 0 + 1 + 1 + 0 + 1 + 0 + 1 + 1 + 2 + 6) (0 + 0 + 6 + 6 + 0 + 6 + 0 + 6 + 8 + 0 + 208) 279 #[.val (.int y0), .val (.int y1), .val (.int y2), .val (.int y3), .val (.int y4), .val (.int g_2119), .val (.int g_2121), .val (.int g_2123), .val (.int g_2125), .val (.int g_2127), .val (.int g_2129), .val (.int v0), .val (.int v_2134), .val (.int v_2136), .val (.int v_2138), .val (.int v_2140), .val (.int v_2142), .val (.ref a_2145), .val (.int rm_2183), .val (.int qm_2184), .val (.int key_2185), .val (.int oth_2187), .val (.int 0), .val (.ref a_2192), .val (.int 5), .val (.ref a_2212), .val (.int nQQ), .val (.ref o_2237), .val (.ref a_2254), .unset] []
      have hmask : (own_ca [x0, x1, x2, x3, x4] QQ = true ↔ (qm_2184 &&& (rm_2183 ^^^ (-1 : Int32))).toInt = 0) := by rw [← hgRR, ← hgQQ]; exact own_law rm_2183 qm_2184 v0 v_2134 v_2136 v_2138 v_2140 v_2142 hasc krm kqm
      refine Go.iload (pc' := 281) at_279 rfl rfl ?_
      refine Go.iload (pc' := 283) at_281 rfl rfl ?_
      refine Go.iconst (pc' := 284) (v := (-1 : Int32)) at_283 rfl rfl ?_
      refine Go.ixor (pc' := 285) at_284 rfl ?_
      refine Go.iand (pc' := 286) at_285 rfl ?_
      refine Go.ifc (pc1 := 293) (pc2 := 289) at_286 (by decide) (by decide) rfl (fun (c_2673 : (qm_2184 &&& (rm_2183 ^^^ (-1 : Int32))).toInt ≠ 0) => ?_) (fun (c_2673 : (qm_2184 &&& (rm_2183 ^^^ (-1 : Int32))).toInt = 0) => ?_)
      · refine Go.iconst (pc' := 294) (v := (0 : Int32)) at_293 rfl rfl ?_
        refine Go.istore (pc' := 296) (Ls' := #[.val (.int y0), .val (.int y1), .val (.int y2), .val (.int y3), .val (.int y4), .val (.int g_2119), .val (.int g_2121), .val (.int g_2123), .val (.int g_2125), .val (.int g_2127), .val (.int g_2129), .val (.int v0), .val (.int v_2134), .val (.int v_2136), .val (.int v_2138), .val (.int v_2140), .val (.int v_2142), .val (.ref a_2145), .val (.int rm_2183), .val (.int qm_2184), .val (.int key_2185), .val (.int oth_2187), .val (.int 0), .val (.ref a_2192), .val (.int 5), .val (.ref a_2212), .val (.int nQQ), .val (.ref o_2237), .val (.ref a_2254), .val (.int 0)]) at_294 rfl rfl ?_
        refine Go.aload (pc' := 298) at_296 rfl rfl rfl ?_
        refine Go.iload (pc' := 300) at_298 rfl rfl ?_
        refine Go.aload (pc' := 302) at_300 rfl rfl rfl ?_
        refine Go.callV (pc' := 305) (argsL := [(.int key_2185), (.ref o_2237)]) (rest := []) (W := 0) (own_w hw 109 rfl) (own_w hw 110 rfl) (own_w hw 112 rfl) (own_w hw 111 rfl) (own_w hw 16 rfl) (own_w hw 113 rfl) (by decide) f_2654 (m_caN l Z a0 hw a_2254 o_2617 b_2618 o_2237 key_2185 (0 : Int32) (5 : Int32) (own_m1.set key_2185.toInt.toNat (.int 0)) [(.int 5), (.int x0), (.int x1), (.int x2), (.int x3), (.int x4), (.int 0), (.int 0), (.int 0), (.int 0), (.int 0), (.int 0), (.int 0), (.int 0), (.int 0), (.int 0)] QQ [x0, x1, x2, x3, x4] h_2616 n0 z_2672 f_2654 F_2628 F_2629 A_2621 A_2622 f_2653 (by omega) (own_set_at _ _ _ (by rw [own_m1_len]; omega)) hlQQ (by decide) (by decide) rfl rfl (by show (5 : Nat) ≤ 6; decide) (own_pre _ _ _ rfl)) at_302 rfl pd15 rfl rfl (Nat.le_of_eq rfl) (by decide) (by decide) (by decide) (by decide) rfl ?_
        rintro _ _ ⟨r, rfl, rfl, hr, hr2⟩
        show Go _ _ _ _ _ _ _ _ _ _ _ _ h_2616 (0 + 0 + 1 + 1 + 0 + 1 + 0 + 1 + 1 + 2 + 6 + 0) (0 + 0 + 6 + 6 + 0 + 6 + 0 + 6 + 8 + 0 + 208 + 0) 305 #[.val (.int y0), .val (.int y1), .val (.int y2), .val (.int y3), .val (.int y4), .val (.int g_2119), .val (.int g_2121), .val (.int g_2123), .val (.int g_2125), .val (.int g_2127), .val (.int g_2129), .val (.int v0), .val (.int v_2134), .val (.int v_2136), .val (.int v_2138), .val (.int v_2140), .val (.int v_2142), .val (.ref a_2145), .val (.int rm_2183), .val (.int qm_2184), .val (.int key_2185), .val (.int oth_2187), .val (.int 0), .val (.ref a_2192), .val (.int 5), .val (.ref a_2212), .val (.int nQQ), .val (.ref o_2237), .val (.ref a_2254), .val (.int 0)] [(.int r)]
        have z0 : (0 : Int32).toInt = 0 := rfl
        have z1 : (1 : Int32).toInt = 1 := rfl
        rw [hmask] at hr2
        refine Go.iload (pc' := 307) at_305 rfl rfl ?_
        refine Go.icmp (pc1 := 314) (pc2 := 310) at_307 (by decide) (by decide) rfl (fun (c_2674 : r.toInt ≠ (0 : Int)) => ?_) (fun (c_2674 : r.toInt = (0 : Int)) => ?_)
        · exact absurd (by omega) c_2674
        refine Go.iconst (pc' := 311) (v := (1 : Int32)) at_310 rfl rfl ?_
        refine Go.goto (pc' := 315) at_311 (by decide) (by decide) ?_
        exact Go.retN (t := .boolean) at_315 rfl (by simp) rfl rfl (by decide) (by decide)
      · refine Go.iconst (pc' := 290) (v := (1 : Int32)) at_289 rfl rfl ?_
        refine Go.goto (pc' := 294) at_290 (by decide) (by decide) ?_
        refine Go.istore (pc' := 296) (Ls' := #[.val (.int y0), .val (.int y1), .val (.int y2), .val (.int y3), .val (.int y4), .val (.int g_2119), .val (.int g_2121), .val (.int g_2123), .val (.int g_2125), .val (.int g_2127), .val (.int g_2129), .val (.int v0), .val (.int v_2134), .val (.int v_2136), .val (.int v_2138), .val (.int v_2140), .val (.int v_2142), .val (.ref a_2145), .val (.int rm_2183), .val (.int qm_2184), .val (.int key_2185), .val (.int oth_2187), .val (.int 0), .val (.ref a_2192), .val (.int 5), .val (.ref a_2212), .val (.int nQQ), .val (.ref o_2237), .val (.ref a_2254), .val (.int 1)]) at_294 rfl rfl ?_
        refine Go.aload (pc' := 298) at_296 rfl rfl rfl ?_
        refine Go.iload (pc' := 300) at_298 rfl rfl ?_
        refine Go.aload (pc' := 302) at_300 rfl rfl rfl ?_
        refine Go.callV (pc' := 305) (argsL := [(.int key_2185), (.ref o_2237)]) (rest := []) (W := 0) (own_w hw 109 rfl) (own_w hw 110 rfl) (own_w hw 112 rfl) (own_w hw 111 rfl) (own_w hw 16 rfl) (own_w hw 113 rfl) (by decide) f_2654 (m_caN l Z a0 hw a_2254 o_2617 b_2618 o_2237 key_2185 (0 : Int32) (5 : Int32) (own_m1.set key_2185.toInt.toNat (.int 0)) [(.int 5), (.int x0), (.int x1), (.int x2), (.int x3), (.int x4), (.int 0), (.int 0), (.int 0), (.int 0), (.int 0), (.int 0), (.int 0), (.int 0), (.int 0), (.int 0)] QQ [x0, x1, x2, x3, x4] h_2616 n0 z_2672 f_2654 F_2628 F_2629 A_2621 A_2622 f_2653 (by omega) (own_set_at _ _ _ (by rw [own_m1_len]; omega)) hlQQ (by decide) (by decide) rfl rfl (by show (5 : Nat) ≤ 6; decide) (own_pre _ _ _ rfl)) at_302 rfl pd15 rfl rfl (Nat.le_of_eq rfl) (by decide) (by decide) (by decide) (by decide) rfl ?_
        rintro _ _ ⟨r, rfl, rfl, hr, hr2⟩
        show Go _ _ _ _ _ _ _ _ _ _ _ _ h_2616 (0 + 0 + 1 + 1 + 0 + 1 + 0 + 1 + 1 + 2 + 6 + 0) (0 + 0 + 6 + 6 + 0 + 6 + 0 + 6 + 8 + 0 + 208 + 0) 305 #[.val (.int y0), .val (.int y1), .val (.int y2), .val (.int y3), .val (.int y4), .val (.int g_2119), .val (.int g_2121), .val (.int g_2123), .val (.int g_2125), .val (.int g_2127), .val (.int g_2129), .val (.int v0), .val (.int v_2134), .val (.int v_2136), .val (.int v_2138), .val (.int v_2140), .val (.int v_2142), .val (.ref a_2145), .val (.int rm_2183), .val (.int qm_2184), .val (.int key_2185), .val (.int oth_2187), .val (.int 0), .val (.ref a_2192), .val (.int 5), .val (.ref a_2212), .val (.int nQQ), .val (.ref o_2237), .val (.ref a_2254), .val (.int 1)] [(.int r)]
        have z0 : (0 : Int32).toInt = 0 := rfl
        have z1 : (1 : Int32).toInt = 1 := rfl
        rw [hmask] at hr2
        refine Go.iload (pc' := 307) at_305 rfl rfl ?_
        refine Go.icmp (pc1 := 314) (pc2 := 310) at_307 (by decide) (by decide) rfl (fun (c_2675 : r.toInt ≠ (1 : Int)) => ?_) (fun (c_2675 : r.toInt = (1 : Int)) => ?_)
        · exact absurd (by omega) c_2675
        refine Go.iconst (pc' := 311) (v := (1 : Int32)) at_310 rfl rfl ?_
        refine Go.goto (pc' := 315) at_311 (by decide) (by decide) ?_
        exact Go.retN (t := .boolean) at_315 rfl (by simp) rfl rfl (by decide) (by decide)
    · obtain rfl : nRR = (6 : Int32) := Int32.toInt_inj.mp hnRR
      have y_2676 : Ary Z h_2282 a_2192 .int [(.int x0), (.int x1), (.int x2), (.int x3), (.int x4), (.int x5)] := f_2313
      show Go _ _ _ _ _ _ _ _ _ _ _ _ h_2282 (0 + 0 + 1 + 1 + 0 + 1 + 0 + 1 + 1 + 2) (0 + 0 + 6 + 6 + 0 + 6 + 0 + 6 + 8 + 0) 276 #[.val (.int y0), .val (.int y1), .val (.int y2), .val (.int y3), .val (.int y4), .val (.int g_2119), .val (.int g_2121), .val (.int g_2123), .val (.int g_2125), .val (.int g_2127), .val (.int g_2129), .val (.int v0), .val (.int v_2134), .val (.int v_2136), .val (.int v_2138), .val (.int v_2140), .val (.int v_2142), .val (.ref a_2145), .val (.int rm_2183), .val (.int qm_2184), .val (.int key_2185), .val (.int oth_2187), .val (.int 0), .val (.ref a_2192), .val (.int 6), .val (.ref a_2212), .val (.int nQQ), .val (.ref o_2237), .val (.ref a_2254), .unset] [(.int 6), (.int 0), (.ref a_2192), (.int key_2185), (.ref a_2254)]
      refine Go.callVW (pc' := 279) (argsL := [(.int key_2185), (.ref a_2192), (.int 0), (.int 6)]) (rest := []) (W := 0) (own_w hw 30 rfl) (own_w hw 31 rfl) (own_w hw 33 rfl) (own_w hw 32 rfl) (own_w hw 16 rfl) (own_w hw 34 rfl) (by decide) f_2316 (m_set0_6 l Z a0 hw a_2254 e_2283 p_2284 a_2192 key_2185 x0 x1 x2 x3 x4 x5 h_2282 n0 z_2330 f_2316 F_2293 F_2294 F_2295 F_2296 F_2297 F_2298 F_2299 g_2263 A_2286 A_2287 y_2676 n_2260.symm (by omega) (by omega)) at_276 rfl pd14 rfl rfl (Nat.le_of_eq rfl) (by decide) (by decide) (by decide) (by decide) rfl ?_
      rintro _ h_2677 ⟨rfl, o_2678, b_2679, ky_2680, K_2681, F_2689, F_2690, F_2691, F_2692, F_2693, F_2694, F_2695, A_2682, A_2683, q_2684, t_2685, q_2686, t_2687, ne_2688⟩
      have n_2696 : a_2145 ≠ o_2678 := Nat.ne_of_lt (Nat.lt_of_lt_of_le t_2325 q_2684)
      have n_2697 : a_2192 ≠ o_2678 := Nat.ne_of_lt (Nat.lt_of_lt_of_le t_2326 q_2684)
      have n_2698 : a_2212 ≠ o_2678 := Nat.ne_of_lt (Nat.lt_of_lt_of_le t_2327 q_2684)
      have n_2699 : o_2237 ≠ o_2678 := Nat.ne_of_lt (Nat.lt_of_lt_of_le t_2328 q_2684)
      have n_2700 : a_2254 ≠ o_2678 := Nat.ne_of_lt (Nat.lt_of_lt_of_le t_2329 q_2684)
      have n_2701 : e_2283 ≠ o_2678 := Nat.ne_of_lt (Nat.lt_of_lt_of_le t_2289 q_2684)
      have n_2702 : p_2284 ≠ o_2678 := Nat.ne_of_lt (Nat.lt_of_lt_of_le t_2291 q_2684)
      have g_2703 : n0 ≤ o_2678 := Nat.le_trans z_2330 q_2684
      have n_2704 : a_2145 ≠ b_2679 := Nat.ne_of_lt (Nat.lt_of_lt_of_le t_2325 q_2686)
      have n_2705 : a_2192 ≠ b_2679 := Nat.ne_of_lt (Nat.lt_of_lt_of_le t_2326 q_2686)
      have n_2706 : a_2212 ≠ b_2679 := Nat.ne_of_lt (Nat.lt_of_lt_of_le t_2327 q_2686)
      have n_2707 : o_2237 ≠ b_2679 := Nat.ne_of_lt (Nat.lt_of_lt_of_le t_2328 q_2686)
      have n_2708 : a_2254 ≠ b_2679 := Nat.ne_of_lt (Nat.lt_of_lt_of_le t_2329 q_2686)
      have n_2709 : e_2283 ≠ b_2679 := Nat.ne_of_lt (Nat.lt_of_lt_of_le t_2289 q_2686)
      have n_2710 : p_2284 ≠ b_2679 := Nat.ne_of_lt (Nat.lt_of_lt_of_le t_2291 q_2686)
      have g_2711 : n0 ≤ b_2679 := Nat.le_trans z_2330 q_2686
      have f_2712 : Ary Z h_2677 a_2145 .int [(.int v0), (.int v_2134), (.int v_2136), (.int v_2138), (.int v_2140), (.int v_2142)] := f_2312.sm (Sm.keep K_2681 (ninS n_2259 nin0))
      have f_2713 : Ary Z h_2677 a_2212 .int (own_pad QQ) := f_2314.sm (Sm.keep K_2681 (ninS n_2261 nin0))
      have f_2714 : Ary Z h_2677 o_2237 .int (QQ.map Value.int) := f_2315.sm (Sm.keep K_2681 (ninS n_2262 nin0))
      have f_2715 : Exa Z h_2677 a_2254 "com/example/nearword/nearword/internal/index/IntRuns" := f_2316.keep K_2681
      have f_2723 : Ary Z h_2677 e_2283 .int [] := A_2286.sm (Sm.keep K_2681 (ninS n_2304.symm nin0))
      have f_2724 : Ary Z h_2677 p_2284 .int [] := A_2287.sm (Sm.keep K_2681 (ninS n_2310.symm nin0))
      have f_2725 : Ary Z h_2677 a_2192 .int [(.int x0), (.int x1), (.int x2), (.int x3), (.int x4), (.int x5)] := y_2676.sm (Sm.keep K_2681 (ninS n_2260 nin0))
      have t_2726 : a_2145 < h_2677.size := Nat.lt_of_lt_of_le t_2325 K_2681.1
      have t_2727 : a_2192 < h_2677.size := Nat.lt_of_lt_of_le t_2326 K_2681.1
      have t_2728 : a_2212 < h_2677.size := Nat.lt_of_lt_of_le t_2327 K_2681.1
      have t_2729 : o_2237 < h_2677.size := Nat.lt_of_lt_of_le t_2328 K_2681.1
      have t_2730 : a_2254 < h_2677.size := Nat.lt_of_lt_of_le t_2329 K_2681.1
      have t_2731 : e_2283 < h_2677.size := Nat.lt_of_lt_of_le t_2289 K_2681.1
      have t_2732 : p_2284 < h_2677.size := Nat.lt_of_lt_of_le t_2291 K_2681.1
      have z_2733 : n0 ≤ h_2677.size := Nat.le_trans z_2330 K_2681.1
      show Go _ _ _ _ _ _ _ _ _ _ _ _ h_2677 (0 + 0 + 1 + 1 + 0 + 1 + 0 + 1 + 1 + 2 + 6) (0 + 0 + 6 + 6 + 0 + 6 + 0 + 6 + 8 + 0 + 208) 279 #[.val (.int y0), .val (.int y1), .val (.int y2), .val (.int y3), .val (.int y4), .val (.int g_2119), .val (.int g_2121), .val (.int g_2123), .val (.int g_2125), .val (.int g_2127), .val (.int g_2129), .val (.int v0), .val (.int v_2134), .val (.int v_2136), .val (.int v_2138), .val (.int v_2140), .val (.int v_2142), .val (.ref a_2145), .val (.int rm_2183), .val (.int qm_2184), .val (.int key_2185), .val (.int oth_2187), .val (.int 0), .val (.ref a_2192), .val (.int 6), .val (.ref a_2212), .val (.int nQQ), .val (.ref o_2237), .val (.ref a_2254), .unset] []
      have hmask : (own_ca [x0, x1, x2, x3, x4, x5] QQ = true ↔ (qm_2184 &&& (rm_2183 ^^^ (-1 : Int32))).toInt = 0) := by rw [← hgRR, ← hgQQ]; exact own_law rm_2183 qm_2184 v0 v_2134 v_2136 v_2138 v_2140 v_2142 hasc krm kqm
      refine Go.iload (pc' := 281) at_279 rfl rfl ?_
      refine Go.iload (pc' := 283) at_281 rfl rfl ?_
      refine Go.iconst (pc' := 284) (v := (-1 : Int32)) at_283 rfl rfl ?_
      refine Go.ixor (pc' := 285) at_284 rfl ?_
      refine Go.iand (pc' := 286) at_285 rfl ?_
      refine Go.ifc (pc1 := 293) (pc2 := 289) at_286 (by decide) (by decide) rfl (fun (c_2734 : (qm_2184 &&& (rm_2183 ^^^ (-1 : Int32))).toInt ≠ 0) => ?_) (fun (c_2734 : (qm_2184 &&& (rm_2183 ^^^ (-1 : Int32))).toInt = 0) => ?_)
      · refine Go.iconst (pc' := 294) (v := (0 : Int32)) at_293 rfl rfl ?_
        refine Go.istore (pc' := 296) (Ls' := #[.val (.int y0), .val (.int y1), .val (.int y2), .val (.int y3), .val (.int y4), .val (.int g_2119), .val (.int g_2121), .val (.int g_2123), .val (.int g_2125), .val (.int g_2127), .val (.int g_2129), .val (.int v0), .val (.int v_2134), .val (.int v_2136), .val (.int v_2138), .val (.int v_2140), .val (.int v_2142), .val (.ref a_2145), .val (.int rm_2183), .val (.int qm_2184), .val (.int key_2185), .val (.int oth_2187), .val (.int 0), .val (.ref a_2192), .val (.int 6), .val (.ref a_2212), .val (.int nQQ), .val (.ref o_2237), .val (.ref a_2254), .val (.int 0)]) at_294 rfl rfl ?_
        refine Go.aload (pc' := 298) at_296 rfl rfl rfl ?_
        refine Go.iload (pc' := 300) at_298 rfl rfl ?_
        refine Go.aload (pc' := 302) at_300 rfl rfl rfl ?_
        refine Go.callV (pc' := 305) (argsL := [(.int key_2185), (.ref o_2237)]) (rest := []) (W := 0) (own_w hw 109 rfl) (own_w hw 110 rfl) (own_w hw 112 rfl) (own_w hw 111 rfl) (own_w hw 16 rfl) (own_w hw 113 rfl) (by decide) f_2715 (m_caN l Z a0 hw a_2254 o_2678 b_2679 o_2237 key_2185 (0 : Int32) (6 : Int32) (own_m1.set key_2185.toInt.toNat (.int 0)) [(.int 6), (.int x0), (.int x1), (.int x2), (.int x3), (.int x4), (.int x5), (.int 0), (.int 0), (.int 0), (.int 0), (.int 0), (.int 0), (.int 0), (.int 0), (.int 0)] QQ [x0, x1, x2, x3, x4, x5] h_2677 n0 z_2733 f_2715 F_2689 F_2690 A_2682 A_2683 f_2714 (by omega) (own_set_at _ _ _ (by rw [own_m1_len]; omega)) hlQQ (by decide) (by decide) rfl rfl (by show (6 : Nat) ≤ 6; decide) (own_pre _ _ _ rfl)) at_302 rfl pd15 rfl rfl (Nat.le_of_eq rfl) (by decide) (by decide) (by decide) (by decide) rfl ?_
        rintro _ _ ⟨r, rfl, rfl, hr, hr2⟩
        show Go _ _ _ _ _ _ _ _ _ _ _ _ h_2677 (0 + 0 + 1 + 1 + 0 + 1 + 0 + 1 + 1 + 2 + 6 + 0) (0 + 0 + 6 + 6 + 0 + 6 + 0 + 6 + 8 + 0 + 208 + 0) 305 #[.val (.int y0), .val (.int y1), .val (.int y2), .val (.int y3), .val (.int y4), .val (.int g_2119), .val (.int g_2121), .val (.int g_2123), .val (.int g_2125), .val (.int g_2127), .val (.int g_2129), .val (.int v0), .val (.int v_2134), .val (.int v_2136), .val (.int v_2138), .val (.int v_2140), .val (.int v_2142), .val (.ref a_2145), .val (.int rm_2183), .val (.int qm_2184), .val (.int key_2185), .val (.int oth_2187), .val (.int 0), .val (.ref a_2192), .val (.int 6), .val (.ref a_2212), .val (.int nQQ), .val (.ref o_2237), .val (.ref a_2254), .val (.int 0)] [(.int r)]
        have z0 : (0 : Int32).toInt = 0 := rfl
        have z1 : (1 : Int32).toInt = 1 := rfl
        rw [hmask] at hr2
        refine Go.iload (pc' := 307) at_305 rfl rfl ?_
        refine Go.icmp (pc1 := 314) (pc2 := 310) at_307 (by decide) (by decide) rfl (fun (c_2735 : r.toInt ≠ (0 : Int)) => ?_) (fun (c_2735 : r.toInt = (0 : Int)) => ?_)
        · exact absurd (by omega) c_2735
        refine Go.iconst (pc' := 311) (v := (1 : Int32)) at_310 rfl rfl ?_
        refine Go.goto (pc' := 315) at_311 (by decide) (by decide) ?_
        exact Go.retN (t := .boolean) at_315 rfl (by simp) rfl rfl (by decide) (by decide)
      · refine Go.iconst (pc' := 290) (v := (1 : Int32)) at_289 rfl rfl ?_
        refine Go.goto (pc' := 294) at_290 (by decide) (by decide) ?_
        refine Go.istore (pc' := 296) (Ls' := #[.val (.int y0), .val (.int y1), .val (.int y2), .val (.int y3), .val (.int y4), .val (.int g_2119), .val (.int g_2121), .val (.int g_2123), .val (.int g_2125), .val (.int g_2127), .val (.int g_2129), .val (.int v0), .val (.int v_2134), .val (.int v_2136), .val (.int v_2138), .val (.int v_2140), .val (.int v_2142), .val (.ref a_2145), .val (.int rm_2183), .val (.int qm_2184), .val (.int key_2185), .val (.int oth_2187), .val (.int 0), .val (.ref a_2192), .val (.int 6), .val (.ref a_2212), .val (.int nQQ), .val (.ref o_2237), .val (.ref a_2254), .val (.int 1)]) at_294 rfl rfl ?_
        refine Go.aload (pc' := 298) at_296 rfl rfl rfl ?_
        refine Go.iload (pc' := 300) at_298 rfl rfl ?_
        refine Go.aload (pc' := 302) at_300 rfl rfl rfl ?_
        refine Go.callV (pc' := 305) (argsL := [(.int key_2185), (.ref o_2237)]) (rest := []) (W := 0) (own_w hw 109 rfl) (own_w hw 110 rfl) (own_w hw 112 rfl) (own_w hw 111 rfl) (own_w hw 16 rfl) (own_w hw 113 rfl) (by decide) f_2715 (m_caN l Z a0 hw a_2254 o_2678 b_2679 o_2237 key_2185 (0 : Int32) (6 : Int32) (own_m1.set key_2185.toInt.toNat (.int 0)) [(.int 6), (.int x0), (.int x1), (.int x2), (.int x3), (.int x4), (.int x5), (.int 0), (.int 0), (.int 0), (.int 0), (.int 0), (.int 0), (.int 0), (.int 0), (.int 0)] QQ [x0, x1, x2, x3, x4, x5] h_2677 n0 z_2733 f_2715 F_2689 F_2690 A_2682 A_2683 f_2714 (by omega) (own_set_at _ _ _ (by rw [own_m1_len]; omega)) hlQQ (by decide) (by decide) rfl rfl (by show (6 : Nat) ≤ 6; decide) (own_pre _ _ _ rfl)) at_302 rfl pd15 rfl rfl (Nat.le_of_eq rfl) (by decide) (by decide) (by decide) (by decide) rfl ?_
        rintro _ _ ⟨r, rfl, rfl, hr, hr2⟩
        show Go _ _ _ _ _ _ _ _ _ _ _ _ h_2677 (0 + 0 + 1 + 1 + 0 + 1 + 0 + 1 + 1 + 2 + 6 + 0) (0 + 0 + 6 + 6 + 0 + 6 + 0 + 6 + 8 + 0 + 208 + 0) 305 #[.val (.int y0), .val (.int y1), .val (.int y2), .val (.int y3), .val (.int y4), .val (.int g_2119), .val (.int g_2121), .val (.int g_2123), .val (.int g_2125), .val (.int g_2127), .val (.int g_2129), .val (.int v0), .val (.int v_2134), .val (.int v_2136), .val (.int v_2138), .val (.int v_2140), .val (.int v_2142), .val (.ref a_2145), .val (.int rm_2183), .val (.int qm_2184), .val (.int key_2185), .val (.int oth_2187), .val (.int 0), .val (.ref a_2192), .val (.int 6), .val (.ref a_2212), .val (.int nQQ), .val (.ref o_2237), .val (.ref a_2254), .val (.int 1)] [(.int r)]
        have z0 : (0 : Int32).toInt = 0 := rfl
        have z1 : (1 : Int32).toInt = 1 := rfl
        rw [hmask] at hr2
        refine Go.iload (pc' := 307) at_305 rfl rfl ?_
        refine Go.icmp (pc1 := 314) (pc2 := 310) at_307 (by decide) (by decide) rfl (fun (c_2736 : r.toInt ≠ (1 : Int)) => ?_) (fun (c_2736 : r.toInt = (1 : Int)) => ?_)
        · exact absurd (by omega) c_2736
        refine Go.iconst (pc' := 311) (v := (1 : Int32)) at_310 rfl rfl ?_
        refine Go.goto (pc' := 315) at_311 (by decide) (by decide) ?_
        exact Go.retN (t := .boolean) at_315 rfl (by simp) rfl rfl (by decide) (by decide)
  · refine Go.iconst (pc' := 190) (v := (1 : Int32)) at_189 rfl rfl ?_
    refine Go.goto (pc' := 194) at_190 (by decide) (by decide) ?_
    refine Go.istore (pc' := 196) (Ls' := #[.val (.int y0), .val (.int y1), .val (.int y2), .val (.int y3), .val (.int y4), .val (.int g_2119), .val (.int g_2121), .val (.int g_2123), .val (.int g_2125), .val (.int g_2127), .val (.int g_2129), .val (.int v0), .val (.int v_2134), .val (.int v_2136), .val (.int v_2138), .val (.int v_2140), .val (.int v_2142), .val (.ref a_2145), .val (.int rm_2183), .val (.int qm_2184), .val (.int key_2185), .val (.int oth_2187), .val (.int 1), .unset, .unset, .unset, .unset, .unset, .unset, .unset]) at_194 rfl rfl ?_
    refine Go.bipush (pc' := 198) (v := (6 : Int32)) at_196 rfl rfl ?_
    refine Go.newA (pc' := 200) (k := 6) (ty := .int) (cap := 6) (own_w hw 6 rfl) rfl rfl (by decide) (by decide) at_198 (by decide) (by decide) rfl ?_
    intro h_2737 a_2738 q_2739 E_2740 A_2741
    have n_2743 : a_2145 ≠ a_2738 := Nat.ne_of_lt (q_2739 ▸ t_2181)
    have g_2744 : n0 ≤ a_2738 := q_2739 ▸ z_2182
    have f_2745 : Ary Z h_2737 a_2145 .int [(.int v0), (.int v_2134), (.int v_2136), (.int v_2138), (.int v_2140), (.int v_2142)] := A_2180.sm (Sm.ext E_2740)
    have t_2746 : a_2145 < h_2737.size := Nat.lt_of_lt_of_le t_2181 E_2740.1
    have z_2747 : n0 ≤ h_2737.size := Nat.le_trans z_2182 E_2740.1
    have t_2748 : a_2738 < h_2737.size := A_2741.lt
    change Ary Z h_2737 a_2738 .int [(.int 0), (.int 0), (.int 0), (.int 0), (.int 0), (.int 0)] at A_2741
    refine Go.astore (pc' := 202) (Ls' := #[.val (.int y0), .val (.int y1), .val (.int y2), .val (.int y3), .val (.int y4), .val (.int g_2119), .val (.int g_2121), .val (.int g_2123), .val (.int g_2125), .val (.int g_2127), .val (.int g_2129), .val (.int v0), .val (.int v_2134), .val (.int v_2136), .val (.int v_2138), .val (.int v_2140), .val (.int v_2142), .val (.ref a_2145), .val (.int rm_2183), .val (.int qm_2184), .val (.int key_2185), .val (.int oth_2187), .val (.int 1), .val (.ref a_2738), .unset, .unset, .unset, .unset, .unset, .unset]) at_200 rfl rfl rfl ?_
    refine Go.aload (pc' := 204) at_202 rfl rfl rfl ?_
    refine Go.iload (pc' := 206) at_204 rfl rfl ?_
    refine Go.aload (pc' := 208) at_206 rfl rfl rfl ?_
    refine Go.callS (pc' := 211) (argsL := [(.ref a_2145), (.int rm_2183), (.ref a_2738)]) (rest := []) (W := 0) (own_w hw 7 rfl) (own_w hw 8 rfl) (own_w hw 9 rfl) (own_w hw 10 rfl) (by decide) (m_pick l Z a0 hw a_2145 a_2738 rm_2183 v0 v_2134 v_2136 v_2138 v_2140 v_2142 h_2737 n0 z_2747 f_2745 A_2741 g_2744 n_2743) at_208 rfl pd13 rfl rfl (Nat.le_of_eq rfl) (by decide) (by decide) (by decide) (by decide) rfl ?_
    rintro _ h_2749 ⟨nRR, rfl, K_2750, A_2751, hnRR, hlRR⟩
    have f_2752 : Ary Z h_2749 a_2145 .int [(.int v0), (.int v_2134), (.int v_2136), (.int v_2138), (.int v_2140), (.int v_2142)] := f_2745.sm (Sm.keep K_2750 (ninS n_2743 nin0))
    have t_2754 : a_2145 < h_2749.size := Nat.lt_of_lt_of_le t_2746 K_2750.1
    have t_2755 : a_2738 < h_2749.size := Nat.lt_of_lt_of_le t_2748 K_2750.1
    have z_2756 : n0 ≤ h_2749.size := Nat.le_trans z_2747 K_2750.1
    generalize hgRR : own_pk rm_2183 v0 v_2134 v_2136 v_2138 v_2140 v_2142 = RR at *
    show Go _ _ _ _ _ _ _ _ _ _ _ _ h_2749 (0 + 0 + 1 + 1 + 0) (0 + 0 + 6 + 6 + 0) 211 #[.val (.int y0), .val (.int y1), .val (.int y2), .val (.int y3), .val (.int y4), .val (.int g_2119), .val (.int g_2121), .val (.int g_2123), .val (.int g_2125), .val (.int g_2127), .val (.int g_2129), .val (.int v0), .val (.int v_2134), .val (.int v_2136), .val (.int v_2138), .val (.int v_2140), .val (.int v_2142), .val (.ref a_2145), .val (.int rm_2183), .val (.int qm_2184), .val (.int key_2185), .val (.int oth_2187), .val (.int 1), .val (.ref a_2738), .unset, .unset, .unset, .unset, .unset, .unset] [(.int nRR)]
    refine Go.istore (pc' := 213) (Ls' := #[.val (.int y0), .val (.int y1), .val (.int y2), .val (.int y3), .val (.int y4), .val (.int g_2119), .val (.int g_2121), .val (.int g_2123), .val (.int g_2125), .val (.int g_2127), .val (.int g_2129), .val (.int v0), .val (.int v_2134), .val (.int v_2136), .val (.int v_2138), .val (.int v_2140), .val (.int v_2142), .val (.ref a_2145), .val (.int rm_2183), .val (.int qm_2184), .val (.int key_2185), .val (.int oth_2187), .val (.int 1), .val (.ref a_2738), .val (.int nRR), .unset, .unset, .unset, .unset, .unset]) at_211 rfl rfl ?_
    refine Go.bipush (pc' := 215) (v := (6 : Int32)) at_213 rfl rfl ?_
    refine Go.newA (pc' := 217) (k := 6) (ty := .int) (cap := 6) (own_w hw 6 rfl) rfl rfl (by decide) (by decide) at_215 (by decide) (by decide) rfl ?_
    intro h_2757 a_2758 q_2759 E_2760 A_2761
    have n_2763 : a_2145 ≠ a_2758 := Nat.ne_of_lt (q_2759 ▸ t_2754)
    have n_2764 : a_2738 ≠ a_2758 := Nat.ne_of_lt (q_2759 ▸ t_2755)
    have g_2765 : n0 ≤ a_2758 := q_2759 ▸ z_2756
    have f_2766 : Ary Z h_2757 a_2145 .int [(.int v0), (.int v_2134), (.int v_2136), (.int v_2138), (.int v_2140), (.int v_2142)] := f_2752.sm (Sm.ext E_2760)
    have f_2767 : Ary Z h_2757 a_2738 .int (own_pad RR) := A_2751.sm (Sm.ext E_2760)
    have t_2768 : a_2145 < h_2757.size := Nat.lt_of_lt_of_le t_2754 E_2760.1
    have t_2769 : a_2738 < h_2757.size := Nat.lt_of_lt_of_le t_2755 E_2760.1
    have z_2770 : n0 ≤ h_2757.size := Nat.le_trans z_2756 E_2760.1
    have t_2771 : a_2758 < h_2757.size := A_2761.lt
    change Ary Z h_2757 a_2758 .int [(.int 0), (.int 0), (.int 0), (.int 0), (.int 0), (.int 0)] at A_2761
    refine Go.astore (pc' := 219) (Ls' := #[.val (.int y0), .val (.int y1), .val (.int y2), .val (.int y3), .val (.int y4), .val (.int g_2119), .val (.int g_2121), .val (.int g_2123), .val (.int g_2125), .val (.int g_2127), .val (.int g_2129), .val (.int v0), .val (.int v_2134), .val (.int v_2136), .val (.int v_2138), .val (.int v_2140), .val (.int v_2142), .val (.ref a_2145), .val (.int rm_2183), .val (.int qm_2184), .val (.int key_2185), .val (.int oth_2187), .val (.int 1), .val (.ref a_2738), .val (.int nRR), .val (.ref a_2758), .unset, .unset, .unset, .unset]) at_217 rfl rfl rfl ?_
    refine Go.aload (pc' := 221) at_219 rfl rfl rfl ?_
    refine Go.iload (pc' := 223) at_221 rfl rfl ?_
    refine Go.aload (pc' := 225) at_223 rfl rfl rfl ?_
    refine Go.callS (pc' := 228) (argsL := [(.ref a_2145), (.int qm_2184), (.ref a_2758)]) (rest := []) (W := 0) (own_w hw 7 rfl) (own_w hw 8 rfl) (own_w hw 9 rfl) (own_w hw 10 rfl) (by decide) (m_pick l Z a0 hw a_2145 a_2758 qm_2184 v0 v_2134 v_2136 v_2138 v_2140 v_2142 h_2757 n0 z_2770 f_2766 A_2761 g_2765 n_2763) at_225 rfl pd13 rfl rfl (Nat.le_of_eq rfl) (by decide) (by decide) (by decide) (by decide) rfl ?_
    rintro _ h_2772 ⟨nQQ, rfl, K_2773, A_2774, hnQQ, hlQQ⟩
    have f_2775 : Ary Z h_2772 a_2145 .int [(.int v0), (.int v_2134), (.int v_2136), (.int v_2138), (.int v_2140), (.int v_2142)] := f_2766.sm (Sm.keep K_2773 (ninS n_2763 nin0))
    have f_2776 : Ary Z h_2772 a_2738 .int (own_pad RR) := f_2767.sm (Sm.keep K_2773 (ninS n_2764 nin0))
    have t_2778 : a_2145 < h_2772.size := Nat.lt_of_lt_of_le t_2768 K_2773.1
    have t_2779 : a_2738 < h_2772.size := Nat.lt_of_lt_of_le t_2769 K_2773.1
    have t_2780 : a_2758 < h_2772.size := Nat.lt_of_lt_of_le t_2771 K_2773.1
    have z_2781 : n0 ≤ h_2772.size := Nat.le_trans z_2770 K_2773.1
    generalize hgQQ : own_pk qm_2184 v0 v_2134 v_2136 v_2138 v_2140 v_2142 = QQ at *
    show Go _ _ _ _ _ _ _ _ _ _ _ _ h_2772 (0 + 0 + 1 + 1 + 0 + 1 + 0) (0 + 0 + 6 + 6 + 0 + 6 + 0) 228 #[.val (.int y0), .val (.int y1), .val (.int y2), .val (.int y3), .val (.int y4), .val (.int g_2119), .val (.int g_2121), .val (.int g_2123), .val (.int g_2125), .val (.int g_2127), .val (.int g_2129), .val (.int v0), .val (.int v_2134), .val (.int v_2136), .val (.int v_2138), .val (.int v_2140), .val (.int v_2142), .val (.ref a_2145), .val (.int rm_2183), .val (.int qm_2184), .val (.int key_2185), .val (.int oth_2187), .val (.int 1), .val (.ref a_2738), .val (.int nRR), .val (.ref a_2758), .unset, .unset, .unset, .unset] [(.int nQQ)]
    refine Go.istore (pc' := 230) (Ls' := #[.val (.int y0), .val (.int y1), .val (.int y2), .val (.int y3), .val (.int y4), .val (.int g_2119), .val (.int g_2121), .val (.int g_2123), .val (.int g_2125), .val (.int g_2127), .val (.int g_2129), .val (.int v0), .val (.int v_2134), .val (.int v_2136), .val (.int v_2138), .val (.int v_2140), .val (.int v_2142), .val (.ref a_2145), .val (.int rm_2183), .val (.int qm_2184), .val (.int key_2185), .val (.int oth_2187), .val (.int 1), .val (.ref a_2738), .val (.int nRR), .val (.ref a_2758), .val (.int nQQ), .unset, .unset, .unset]) at_228 rfl rfl ?_
    refine Go.aload (pc' := 232) at_230 rfl rfl rfl ?_
    refine Go.iload (pc' := 234) at_232 rfl rfl ?_
    refine Go.callS (pc' := 237) (argsL := [(.ref a_2758), (.int nQQ)]) (rest := []) (W := 0) (own_w hw 11 rfl) (own_w hw 12 rfl) (own_w hw 9 rfl) (own_w hw 13 rfl) (by decide) (m_exact l Z a0 hw a_2758 nQQ QQ h_2772 n0 z_2781 A_2774 hnQQ hlQQ) at_234 rfl pd6 rfl rfl (Nat.le_of_eq rfl) (by decide) (by decide) (by decide) (by decide) rfl ?_
    rintro _ h_2782 ⟨o_2783, rfl, K_2784, A_2785, q_2786, t_2787⟩
    have n_2788 : a_2145 ≠ o_2783 := Nat.ne_of_lt (Nat.lt_of_lt_of_le t_2778 q_2786)
    have n_2789 : a_2738 ≠ o_2783 := Nat.ne_of_lt (Nat.lt_of_lt_of_le t_2779 q_2786)
    have n_2790 : a_2758 ≠ o_2783 := Nat.ne_of_lt (Nat.lt_of_lt_of_le t_2780 q_2786)
    have g_2791 : n0 ≤ o_2783 := Nat.le_trans z_2781 q_2786
    have f_2792 : Ary Z h_2782 a_2145 .int [(.int v0), (.int v_2134), (.int v_2136), (.int v_2138), (.int v_2140), (.int v_2142)] := f_2775.sm (Sm.keep K_2784 nin0)
    have f_2793 : Ary Z h_2782 a_2738 .int (own_pad RR) := f_2776.sm (Sm.keep K_2784 nin0)
    have f_2794 : Ary Z h_2782 a_2758 .int (own_pad QQ) := A_2774.sm (Sm.keep K_2784 nin0)
    have t_2795 : a_2145 < h_2782.size := Nat.lt_of_lt_of_le t_2778 K_2784.1
    have t_2796 : a_2738 < h_2782.size := Nat.lt_of_lt_of_le t_2779 K_2784.1
    have t_2797 : a_2758 < h_2782.size := Nat.lt_of_lt_of_le t_2780 K_2784.1
    have z_2798 : n0 ≤ h_2782.size := Nat.le_trans z_2781 K_2784.1
    show Go _ _ _ _ _ _ _ _ _ _ _ _ h_2782 (0 + 0 + 1 + 1 + 0 + 1 + 0 + 1) (0 + 0 + 6 + 6 + 0 + 6 + 0 + 6) 237 #[.val (.int y0), .val (.int y1), .val (.int y2), .val (.int y3), .val (.int y4), .val (.int g_2119), .val (.int g_2121), .val (.int g_2123), .val (.int g_2125), .val (.int g_2127), .val (.int g_2129), .val (.int v0), .val (.int v_2134), .val (.int v_2136), .val (.int v_2138), .val (.int v_2140), .val (.int v_2142), .val (.ref a_2145), .val (.int rm_2183), .val (.int qm_2184), .val (.int key_2185), .val (.int oth_2187), .val (.int 1), .val (.ref a_2738), .val (.int nRR), .val (.ref a_2758), .val (.int nQQ), .unset, .unset, .unset] [(.ref o_2783)]
    refine Go.astore (pc' := 239) (Ls' := #[.val (.int y0), .val (.int y1), .val (.int y2), .val (.int y3), .val (.int y4), .val (.int g_2119), .val (.int g_2121), .val (.int g_2123), .val (.int g_2125), .val (.int g_2127), .val (.int g_2129), .val (.int v0), .val (.int v_2134), .val (.int v_2136), .val (.int v_2138), .val (.int v_2140), .val (.int v_2142), .val (.ref a_2145), .val (.int rm_2183), .val (.int qm_2184), .val (.int key_2185), .val (.int oth_2187), .val (.int 1), .val (.ref a_2738), .val (.int nRR), .val (.ref a_2758), .val (.int nQQ), .val (.ref o_2783), .unset, .unset]) at_237 rfl rfl rfl ?_
    refine Go.newO (pc' := 242) (own_w hw 14 rfl) (own_w hw 15 rfl) (own_w hw 16 rfl) at_239 (by decide) (by decide) rfl ?_
    intro h_2799 a_2800 q_2801 E_2802 A_2803 D_2804
    have n_2805 : a_2145 ≠ a_2800 := Nat.ne_of_lt (q_2801 ▸ t_2795)
    have n_2806 : a_2738 ≠ a_2800 := Nat.ne_of_lt (q_2801 ▸ t_2796)
    have n_2807 : a_2758 ≠ a_2800 := Nat.ne_of_lt (q_2801 ▸ t_2797)
    have n_2808 : o_2783 ≠ a_2800 := Nat.ne_of_lt (q_2801 ▸ t_2787)
    have g_2809 : n0 ≤ a_2800 := q_2801 ▸ z_2798
    have f_2810 : Ary Z h_2799 a_2145 .int [(.int v0), (.int v_2134), (.int v_2136), (.int v_2138), (.int v_2140), (.int v_2142)] := f_2792.sm (Sm.ext E_2802)
    have f_2811 : Ary Z h_2799 a_2738 .int (own_pad RR) := f_2793.sm (Sm.ext E_2802)
    have f_2812 : Ary Z h_2799 a_2758 .int (own_pad QQ) := f_2794.sm (Sm.ext E_2802)
    have f_2813 : Ary Z h_2799 o_2783 .int (QQ.map Value.int) := A_2785.sm (Sm.ext E_2802)
    have t_2814 : a_2145 < h_2799.size := Nat.lt_of_lt_of_le t_2795 E_2802.1
    have t_2815 : a_2738 < h_2799.size := Nat.lt_of_lt_of_le t_2796 E_2802.1
    have t_2816 : a_2758 < h_2799.size := Nat.lt_of_lt_of_le t_2797 E_2802.1
    have t_2817 : o_2783 < h_2799.size := Nat.lt_of_lt_of_le t_2787 E_2802.1
    have z_2818 : n0 ≤ h_2799.size := Nat.le_trans z_2798 E_2802.1
    have t_2819 : a_2800 < h_2799.size := A_2803.lt
    have f_2820 : Fld Z h_2799 a_2800 "com/example/nearword/nearword/internal/index/IntRuns" "at" "[I" .null := D_2804 (Or.inl (own_w hw 25 rfl)) (ty := (.array .int)) (by decide)
    have f_2821 : Fld Z h_2799 a_2800 "com/example/nearword/nearword/internal/index/IntRuns" "pool" "[I" .null := D_2804 (Or.inl (own_w hw 27 rfl)) (ty := (.array .int)) (by decide)
    have f_2822 : Fld Z h_2799 a_2800 "com/example/nearword/nearword/internal/index/IntRuns" "mostInts" "I" (.int 0) := D_2804 (Or.inr (own_w hw 29 rfl)) (ty := .int) (by decide)
    have f_2823 : Fld Z h_2799 a_2800 "com/example/nearword/nearword/internal/index/IntRuns" "keys" "I" (.int 0) := D_2804 (Or.inl (own_w hw 95 rfl)) (ty := .int) (by decide)
    have f_2824 : Fld Z h_2799 a_2800 "com/example/nearword/nearword/internal/index/IntRuns" "poolLeft" "I" (.int 0) := D_2804 (Or.inl (own_w hw 106 rfl)) (ty := .int) (by decide)
    have f_2825 : Fld Z h_2799 a_2800 "com/example/nearword/nearword/internal/index/IntRuns" "poolSize" "I" (.int 0) := D_2804 (Or.inl (own_w hw 108 rfl)) (ty := .int) (by decide)
    have f_2826 : Fld Z h_2799 a_2800 "com/example/nearword/nearword/internal/index/IntRuns" "keysToCome" "I" (.int 0) := D_2804 (Or.inl (own_w hw 123 rfl)) (ty := .int) (by decide)
    have f_2827 : Fld Z h_2799 a_2800 "com/example/nearword/nearword/internal/index/IntRuns" "mostIntsToCome" "J" (.long (0 : Int64)) := D_2804 (Or.inl (own_w hw 129 rfl)) (ty := .long) (by decide)
    refine Go.dup (pc' := 243) at_242 rfl rfl ?_
    refine Go.ldcI (pc' := 245) (own_w hw 17 rfl) at_243 rfl ?_
    refine Go.callN (pc' := 248) (argsL := [(.int 1048576)]) (rest := [(.ref a_2800)]) (W := 1) rfl (own_w hw 18 rfl) (own_w hw 19 rfl) (own_w hw 16 rfl) (own_w hw 20 rfl) (by decide) (m_init l Z a0 hw a_2800 h_2799 n0 z_2818 A_2803 f_2820 f_2821 f_2822 f_2823 f_2824 f_2825 f_2826 g_2809) at_245 rfl pd9 rfl rfl (Nat.le_of_eq rfl) (by decide) (by decide) (by decide) (by decide) rfl ?_
    rintro _ h_2828 ⟨rfl, e_2829, p_2830, K_2831, F_2839, F_2840, F_2841, F_2842, F_2843, F_2844, F_2845, A_2832, A_2833, q_2834, t_2835, q_2836, t_2837, ne_2838⟩
    have n_2846 : a_2145 ≠ e_2829 := Nat.ne_of_lt (Nat.lt_of_lt_of_le t_2814 q_2834)
    have n_2847 : a_2738 ≠ e_2829 := Nat.ne_of_lt (Nat.lt_of_lt_of_le t_2815 q_2834)
    have n_2848 : a_2758 ≠ e_2829 := Nat.ne_of_lt (Nat.lt_of_lt_of_le t_2816 q_2834)
    have n_2849 : o_2783 ≠ e_2829 := Nat.ne_of_lt (Nat.lt_of_lt_of_le t_2817 q_2834)
    have n_2850 : a_2800 ≠ e_2829 := Nat.ne_of_lt (Nat.lt_of_lt_of_le t_2819 q_2834)
    have g_2851 : n0 ≤ e_2829 := Nat.le_trans z_2818 q_2834
    have n_2852 : a_2145 ≠ p_2830 := Nat.ne_of_lt (Nat.lt_of_lt_of_le t_2814 q_2836)
    have n_2853 : a_2738 ≠ p_2830 := Nat.ne_of_lt (Nat.lt_of_lt_of_le t_2815 q_2836)
    have n_2854 : a_2758 ≠ p_2830 := Nat.ne_of_lt (Nat.lt_of_lt_of_le t_2816 q_2836)
    have n_2855 : o_2783 ≠ p_2830 := Nat.ne_of_lt (Nat.lt_of_lt_of_le t_2817 q_2836)
    have n_2856 : a_2800 ≠ p_2830 := Nat.ne_of_lt (Nat.lt_of_lt_of_le t_2819 q_2836)
    have g_2857 : n0 ≤ p_2830 := Nat.le_trans z_2818 q_2836
    have f_2858 : Ary Z h_2828 a_2145 .int [(.int v0), (.int v_2134), (.int v_2136), (.int v_2138), (.int v_2140), (.int v_2142)] := f_2810.sm (Sm.keep K_2831 (ninS n_2805 nin0))
    have f_2859 : Ary Z h_2828 a_2738 .int (own_pad RR) := f_2811.sm (Sm.keep K_2831 (ninS n_2806 nin0))
    have f_2860 : Ary Z h_2828 a_2758 .int (own_pad QQ) := f_2812.sm (Sm.keep K_2831 (ninS n_2807 nin0))
    have f_2861 : Ary Z h_2828 o_2783 .int (QQ.map Value.int) := f_2813.sm (Sm.keep K_2831 (ninS n_2808 nin0))
    have f_2862 : Exa Z h_2828 a_2800 "com/example/nearword/nearword/internal/index/IntRuns" := A_2803.keep K_2831
    have t_2871 : a_2145 < h_2828.size := Nat.lt_of_lt_of_le t_2814 K_2831.1
    have t_2872 : a_2738 < h_2828.size := Nat.lt_of_lt_of_le t_2815 K_2831.1
    have t_2873 : a_2758 < h_2828.size := Nat.lt_of_lt_of_le t_2816 K_2831.1
    have t_2874 : o_2783 < h_2828.size := Nat.lt_of_lt_of_le t_2817 K_2831.1
    have t_2875 : a_2800 < h_2828.size := Nat.lt_of_lt_of_le t_2819 K_2831.1
    have z_2876 : n0 ≤ h_2828.size := Nat.le_trans z_2818 K_2831.1
    show Go _ _ _ _ _ _ _ _ _ _ _ _ h_2828 (0 + 0 + 1 + 1 + 0 + 1 + 0 + 1 + 1 + 2) (0 + 0 + 6 + 6 + 0 + 6 + 0 + 6 + 8 + 0) 248 #[.val (.int y0), .val (.int y1), .val (.int y2), .val (.int y3), .val (.int y4), .val (.int g_2119), .val (.int g_2121), .val (.int g_2123), .val (.int g_2125), .val (.int g_2127), .val (.int g_2129), .val (.int v0), .val (.int v_2134), .val (.int v_2136), .val (.int v_2138), .val (.int v_2140), .val (.int v_2142), .val (.ref a_2145), .val (.int rm_2183), .val (.int qm_2184), .val (.int key_2185), .val (.int oth_2187), .val (.int 1), .val (.ref a_2738), .val (.int nRR), .val (.ref a_2758), .val (.int nQQ), .val (.ref o_2783), .unset, .unset] [(.ref a_2800)]
    refine Go.astore (pc' := 250) (Ls' := #[.val (.int y0), .val (.int y1), .val (.int y2), .val (.int y3), .val (.int y4), .val (.int g_2119), .val (.int g_2121), .val (.int g_2123), .val (.int g_2125), .val (.int g_2127), .val (.int g_2129), .val (.int v0), .val (.int v_2134), .val (.int v_2136), .val (.int v_2138), .val (.int v_2140), .val (.int v_2142), .val (.ref a_2145), .val (.int rm_2183), .val (.int qm_2184), .val (.int key_2185), .val (.int oth_2187), .val (.int 1), .val (.ref a_2738), .val (.int nRR), .val (.ref a_2758), .val (.int nQQ), .val (.ref o_2783), .val (.ref a_2800), .unset]) at_248 rfl rfl rfl ?_
    refine Go.iload (pc' := 252) at_250 rfl rfl ?_
    refine Go.ifc (pc1 := 267) (pc2 := 255) at_252 (by decide) (by decide) rfl (fun (c_2877 : (1 : Int) = 0) => ?_) (fun (c_2877 : (1 : Int) ≠ 0) => ?_)
    · exact absurd c_2877 (by decide)
    refine Go.aload (pc' := 257) at_255 rfl rfl rfl ?_
    refine Go.iload (pc' := 259) at_257 rfl rfl ?_
    refine Go.aload (pc' := 261) at_259 rfl rfl rfl ?_
    refine Go.iconst (pc' := 262) (v := (0 : Int32)) at_261 rfl rfl ?_
    refine Go.bipush (pc' := 264) (v := (6 : Int32)) at_262 rfl rfl ?_
    refine Go.callVW (pc' := 267) (argsL := [(.int oth_2187), (.ref a_2145), (.int 0), (.int 6)]) (rest := []) (W := 0) (own_w hw 30 rfl) (own_w hw 31 rfl) (own_w hw 33 rfl) (own_w hw 32 rfl) (own_w hw 16 rfl) (own_w hw 34 rfl) (by decide) f_2862 (m_set0_6 l Z a0 hw a_2800 e_2829 p_2830 a_2145 oth_2187 v0 v_2134 v_2136 v_2138 v_2140 v_2142 h_2828 n0 z_2876 f_2862 F_2839 F_2840 F_2841 F_2842 F_2843 F_2844 F_2845 g_2809 A_2832 A_2833 f_2858 n_2805.symm (by omega) (by omega)) at_264 rfl pd14 rfl rfl (Nat.le_of_eq rfl) (by decide) (by decide) (by decide) (by decide) rfl ?_
    rintro _ h_2878 ⟨rfl, o_2879, b_2880, ky_2881, K_2882, F_2890, F_2891, F_2892, F_2893, F_2894, F_2895, F_2896, A_2883, A_2884, q_2885, t_2886, q_2887, t_2888, ne_2889⟩
    have n_2897 : a_2145 ≠ o_2879 := Nat.ne_of_lt (Nat.lt_of_lt_of_le t_2871 q_2885)
    have n_2898 : a_2738 ≠ o_2879 := Nat.ne_of_lt (Nat.lt_of_lt_of_le t_2872 q_2885)
    have n_2899 : a_2758 ≠ o_2879 := Nat.ne_of_lt (Nat.lt_of_lt_of_le t_2873 q_2885)
    have n_2900 : o_2783 ≠ o_2879 := Nat.ne_of_lt (Nat.lt_of_lt_of_le t_2874 q_2885)
    have n_2901 : a_2800 ≠ o_2879 := Nat.ne_of_lt (Nat.lt_of_lt_of_le t_2875 q_2885)
    have n_2902 : e_2829 ≠ o_2879 := Nat.ne_of_lt (Nat.lt_of_lt_of_le t_2835 q_2885)
    have n_2903 : p_2830 ≠ o_2879 := Nat.ne_of_lt (Nat.lt_of_lt_of_le t_2837 q_2885)
    have g_2904 : n0 ≤ o_2879 := Nat.le_trans z_2876 q_2885
    have n_2905 : a_2145 ≠ b_2880 := Nat.ne_of_lt (Nat.lt_of_lt_of_le t_2871 q_2887)
    have n_2906 : a_2738 ≠ b_2880 := Nat.ne_of_lt (Nat.lt_of_lt_of_le t_2872 q_2887)
    have n_2907 : a_2758 ≠ b_2880 := Nat.ne_of_lt (Nat.lt_of_lt_of_le t_2873 q_2887)
    have n_2908 : o_2783 ≠ b_2880 := Nat.ne_of_lt (Nat.lt_of_lt_of_le t_2874 q_2887)
    have n_2909 : a_2800 ≠ b_2880 := Nat.ne_of_lt (Nat.lt_of_lt_of_le t_2875 q_2887)
    have n_2910 : e_2829 ≠ b_2880 := Nat.ne_of_lt (Nat.lt_of_lt_of_le t_2835 q_2887)
    have n_2911 : p_2830 ≠ b_2880 := Nat.ne_of_lt (Nat.lt_of_lt_of_le t_2837 q_2887)
    have g_2912 : n0 ≤ b_2880 := Nat.le_trans z_2876 q_2887
    have f_2913 : Ary Z h_2878 a_2145 .int [(.int v0), (.int v_2134), (.int v_2136), (.int v_2138), (.int v_2140), (.int v_2142)] := f_2858.sm (Sm.keep K_2882 (ninS n_2805 nin0))
    have f_2914 : Ary Z h_2878 a_2738 .int (own_pad RR) := f_2859.sm (Sm.keep K_2882 (ninS n_2806 nin0))
    have f_2915 : Ary Z h_2878 a_2758 .int (own_pad QQ) := f_2860.sm (Sm.keep K_2882 (ninS n_2807 nin0))
    have f_2916 : Ary Z h_2878 o_2783 .int (QQ.map Value.int) := f_2861.sm (Sm.keep K_2882 (ninS n_2808 nin0))
    have f_2917 : Exa Z h_2878 a_2800 "com/example/nearword/nearword/internal/index/IntRuns" := f_2862.keep K_2882
    have f_2925 : Ary Z h_2878 e_2829 .int [] := A_2832.sm (Sm.keep K_2882 (ninS n_2850.symm nin0))
    have f_2926 : Ary Z h_2878 p_2830 .int [] := A_2833.sm (Sm.keep K_2882 (ninS n_2856.symm nin0))
    have t_2927 : a_2145 < h_2878.size := Nat.lt_of_lt_of_le t_2871 K_2882.1
    have t_2928 : a_2738 < h_2878.size := Nat.lt_of_lt_of_le t_2872 K_2882.1
    have t_2929 : a_2758 < h_2878.size := Nat.lt_of_lt_of_le t_2873 K_2882.1
    have t_2930 : o_2783 < h_2878.size := Nat.lt_of_lt_of_le t_2874 K_2882.1
    have t_2931 : a_2800 < h_2878.size := Nat.lt_of_lt_of_le t_2875 K_2882.1
    have t_2932 : e_2829 < h_2878.size := Nat.lt_of_lt_of_le t_2835 K_2882.1
    have t_2933 : p_2830 < h_2878.size := Nat.lt_of_lt_of_le t_2837 K_2882.1
    have z_2934 : n0 ≤ h_2878.size := Nat.le_trans z_2876 K_2882.1
    show Go _ _ _ _ _ _ _ _ _ _ _ _ h_2878 (0 + 0 + 1 + 1 + 0 + 1 + 0 + 1 + 1 + 2 + 6) (0 + 0 + 6 + 6 + 0 + 6 + 0 + 6 + 8 + 0 + 208) 267 #[.val (.int y0), .val (.int y1), .val (.int y2), .val (.int y3), .val (.int y4), .val (.int g_2119), .val (.int g_2121), .val (.int g_2123), .val (.int g_2125), .val (.int g_2127), .val (.int g_2129), .val (.int v0), .val (.int v_2134), .val (.int v_2136), .val (.int v_2138), .val (.int v_2140), .val (.int v_2142), .val (.ref a_2145), .val (.int rm_2183), .val (.int qm_2184), .val (.int key_2185), .val (.int oth_2187), .val (.int 1), .val (.ref a_2738), .val (.int nRR), .val (.ref a_2758), .val (.int nQQ), .val (.ref o_2783), .val (.ref a_2800), .unset] []
    refine Go.aload (pc' := 269) at_267 rfl rfl rfl ?_
    refine Go.iload (pc' := 271) at_269 rfl rfl ?_
    refine Go.aload (pc' := 273) at_271 rfl rfl rfl ?_
    refine Go.iconst (pc' := 274) (v := (0 : Int32)) at_273 rfl rfl ?_
    refine Go.iload (pc' := 276) at_274 rfl rfl ?_
    rcases own_len6 RR hlRR with rfl | ⟨x0, rfl⟩ | ⟨x0, x1, rfl⟩ | ⟨x0, x1, x2, rfl⟩ | ⟨x0, x1, x2, x3, rfl⟩ | ⟨x0, x1, x2, x3, x4, rfl⟩ | ⟨x0, x1, x2, x3, x4, x5, rfl⟩
    · obtain rfl : nRR = (0 : Int32) := Int32.toInt_inj.mp hnRR
      have y_2935 : Ary Z h_2878 a_2738 .int [(.int 0), (.int 0), (.int 0), (.int 0), (.int 0), (.int 0)] := f_2914
      show Go _ _ _ _ _ _ _ _ _ _ _ _ h_2878 (0 + 0 + 1 + 1 + 0 + 1 + 0 + 1 + 1 + 2 + 6) (0 + 0 + 6 + 6 + 0 + 6 + 0 + 6 + 8 + 0 + 208) 276 #[.val (.int y0), .val (.int y1), .val (.int y2), .val (.int y3), .val (.int y4), .val (.int g_2119), .val (.int g_2121), .val (.int g_2123), .val (.int g_2125), .val (.int g_2127), .val (.int g_2129), .val (.int v0), .val (.int v_2134), .val (.int v_2136), .val (.int v_2138), .val (.int v_2140), .val (.int v_2142), .val (.ref a_2145), .val (.int rm_2183), .val (.int qm_2184), .val (.int key_2185), .val (.int oth_2187), .val (.int 1), .val (.ref a_2738), .val (.int 0), .val (.ref a_2758), .val (.int nQQ), .val (.ref o_2783), .val (.ref a_2800), .unset] [(.int 0), (.int 0), (.ref a_2738), (.int key_2185), (.ref a_2800)]
      refine Go.callV (pc' := 279) (argsL := [(.int key_2185), (.ref a_2738), (.int 0), (.int 0)]) (rest := []) (W := 0) (own_w hw 30 rfl) (own_w hw 31 rfl) (own_w hw 33 rfl) (own_w hw 32 rfl) (own_w hw 16 rfl) (own_w hw 34 rfl) (by decide) f_2917 (m_set1_0 l Z a0 hw a_2800 o_2879 b_2880 a_2738 ky_2881 key_2185 (0 : Int32) (0 : Int32) (0 : Int32) (0 : Int32) (0 : Int32) (0 : Int32) v0 v_2134 v_2136 v_2138 v_2140 v_2142 (own_m1.set oth_2187.toInt.toNat (.int 0)) h_2878 n0 z_2934 f_2917 F_2890 F_2891 F_2892 F_2893 F_2894 F_2895 F_2896 g_2809 A_2883 (by rw [List.length_set]; exact own_m1_len) (by omega) (by omega) (own_set_ne _ _ _ (by omega) (by omega)) g_2904 n_2901 A_2884 g_2912 n_2909 ne_2889 y_2935 n_2806.symm n_2898 n_2906) at_276 rfl pd14 rfl rfl (Nat.le_of_eq rfl) (by decide) (by decide) (by decide) (by decide) rfl ?_
      rintro _ h_2936 ⟨rfl, ky_2937, s_2938, K_2939, F_2942, F_2943, F_2944, F_2945, F_2946, F_2947, F_2948, A_2940, A_2941⟩
      have f_2949 : Ary Z h_2936 a_2145 .int [(.int v0), (.int v_2134), (.int v_2136), (.int v_2138), (.int v_2140), (.int v_2142)] := f_2913.sm (Sm.keep K_2939 (ninS n_2805 (ninS n_2897 (ninS n_2905 nin0))))
      have f_2950 : Ary Z h_2936 a_2758 .int (own_pad QQ) := f_2915.sm (Sm.keep K_2939 (ninS n_2807 (ninS n_2899 (ninS n_2907 nin0))))
      have f_2951 : Ary Z h_2936 o_2783 .int (QQ.map Value.int) := f_2916.sm (Sm.keep K_2939 (ninS n_2808 (ninS n_2900 (ninS n_2908 nin0))))
      have f_2952 : Exa Z h_2936 a_2800 "com/example/nearword/nearword/internal/index/IntRuns" := f_2917.keep K_2939
      have f_2953 : Ary Z h_2936 e_2829 .int [] := f_2925.sm (Sm.keep K_2939 (ninS n_2850.symm (ninS n_2902 (ninS n_2910 nin0))))
      have f_2954 : Ary Z h_2936 p_2830 .int [] := f_2926.sm (Sm.keep K_2939 (ninS n_2856.symm (ninS n_2903 (ninS n_2911 nin0))))
      have f_2964 : Ary Z h_2936 a_2738 .int [(.int 0), (.int 0), (.int 0), (.int 0), (.int 0), (.int 0)] := y_2935.sm (Sm.keep K_2939 (ninS n_2806 (ninS n_2898 (ninS n_2906 nin0))))
      have t_2965 : a_2145 < h_2936.size := Nat.lt_of_lt_of_le t_2927 K_2939.1
      have t_2966 : a_2738 < h_2936.size := Nat.lt_of_lt_of_le t_2928 K_2939.1
      have t_2967 : a_2758 < h_2936.size := Nat.lt_of_lt_of_le t_2929 K_2939.1
      have t_2968 : o_2783 < h_2936.size := Nat.lt_of_lt_of_le t_2930 K_2939.1
      have t_2969 : a_2800 < h_2936.size := Nat.lt_of_lt_of_le t_2931 K_2939.1
      have t_2970 : e_2829 < h_2936.size := Nat.lt_of_lt_of_le t_2932 K_2939.1
      have t_2971 : p_2830 < h_2936.size := Nat.lt_of_lt_of_le t_2933 K_2939.1
      have t_2972 : o_2879 < h_2936.size := Nat.lt_of_lt_of_le t_2886 K_2939.1
      have t_2973 : b_2880 < h_2936.size := Nat.lt_of_lt_of_le t_2888 K_2939.1
      have z_2974 : n0 ≤ h_2936.size := Nat.le_trans z_2934 K_2939.1
      show Go _ _ _ _ _ _ _ _ _ _ _ _ h_2936 (0 + 0 + 1 + 1 + 0 + 1 + 0 + 1 + 1 + 2 + 6 + 0) (0 + 0 + 6 + 6 + 0 + 6 + 0 + 6 + 8 + 0 + 208 + 0) 279 #[.val (.int y0), .val (.int y1), .val (.int y2), .val (.int y3), .val (.int y4), .val (.int g_2119), .val (.int g_2121), .val (.int g_2123), .val (.int g_2125), .val (.int g_2127), .val (.int g_2129), .val (.int v0), .val (.int v_2134), .val (.int v_2136), .val (.int v_2138), .val (.int v_2140), .val (.int v_2142), .val (.ref a_2145), .val (.int rm_2183), .val (.int qm_2184), .val (.int key_2185), .val (.int oth_2187), .val (.int 1), .val (.ref a_2738), .val (.int 0), .val (.ref a_2758), .val (.int nQQ), .val (.ref o_2783), .val (.ref a_2800), .unset] []
      have hmask : (own_ca [] QQ = true ↔ (qm_2184 &&& (rm_2183 ^^^ (-1 : Int32))).toInt = 0) := by rw [← hgRR, ← hgQQ]; exact own_law rm_2183 qm_2184 v0 v_2134 v_2136 v_2138 v_2140 v_2142 hasc krm kqm
      refine Go.iload (pc' := 281) at_279 rfl rfl ?_
      refine Go.iload (pc' := 283) at_281 rfl rfl ?_
      refine Go.iconst (pc' := 284) (v := (-1 : Int32)) at_283 rfl rfl ?_
      refine Go.ixor (pc' := 285) at_284 rfl ?_
      refine Go.iand (pc' := 286) at_285 rfl ?_
      refine Go.ifc (pc1 := 293) (pc2 := 289) at_286 (by decide) (by decide) rfl (fun (c_2975 : (qm_2184 &&& (rm_2183 ^^^ (-1 : Int32))).toInt ≠ 0) => ?_) (fun (c_2975 : (qm_2184 &&& (rm_2183 ^^^ (-1 : Int32))).toInt = 0) => ?_)
      · refine Go.iconst (pc' := 294) (v := (0 : Int32)) at_293 rfl rfl ?_
        refine Go.istore (pc' := 296) (Ls' := #[.val (.int y0), .val (.int y1), .val (.int y2), .val (.int y3), .val (.int y4), .val (.int g_2119), .val (.int g_2121), .val (.int g_2123), .val (.int g_2125), .val (.int g_2127), .val (.int g_2129), .val (.int v0), .val (.int v_2134), .val (.int v_2136), .val (.int v_2138), .val (.int v_2140), .val (.int v_2142), .val (.ref a_2145), .val (.int rm_2183), .val (.int qm_2184), .val (.int key_2185), .val (.int oth_2187), .val (.int 1), .val (.ref a_2738), .val (.int 0), .val (.ref a_2758), .val (.int nQQ), .val (.ref o_2783), .val (.ref a_2800), .val (.int 0)]) at_294 rfl rfl ?_
        refine Go.aload (pc' := 298) at_296 rfl rfl rfl ?_
        refine Go.iload (pc' := 300) at_298 rfl rfl ?_
        refine Go.aload (pc' := 302) at_300 rfl rfl rfl ?_
        refine Go.callV (pc' := 305) (argsL := [(.int key_2185), (.ref o_2783)]) (rest := []) (W := 0) (own_w hw 109 rfl) (own_w hw 110 rfl) (own_w hw 112 rfl) (own_w hw 111 rfl) (own_w hw 16 rfl) (own_w hw 113 rfl) (by decide) f_2952 (m_caN l Z a0 hw a_2800 o_2879 b_2880 o_2783 key_2185 (7 : Int32) (0 : Int32) ((own_m1.set oth_2187.toInt.toNat (.int 0)).set key_2185.toInt.toNat (.int 7)) [(.int 6), (.int v0), (.int v_2134), (.int v_2136), (.int v_2138), (.int v_2140), (.int v_2142), (.int 0), (.int 0), (.int 0), (.int 0), (.int 0), (.int 0), (.int 0), (.int 0), (.int 0)] QQ [] h_2936 n0 z_2974 f_2952 F_2942 F_2943 A_2940 A_2941 f_2951 (by omega) (own_set_at _ _ _ (by rw [List.length_set, own_m1_len]; omega)) hlQQ (by decide) (by decide) rfl rfl (by show (0 : Nat) ≤ 6; decide) (own_pre _ _ _ rfl)) at_302 rfl pd15 rfl rfl (Nat.le_of_eq rfl) (by decide) (by decide) (by decide) (by decide) rfl ?_
        rintro _ _ ⟨r, rfl, rfl, hr, hr2⟩
        show Go _ _ _ _ _ _ _ _ _ _ _ _ h_2936 (0 + 0 + 1 + 1 + 0 + 1 + 0 + 1 + 1 + 2 + 6 + 0 + 0) (0 + 0 + 6 + 6 + 0 + 6 + 0 + 6 + 8 + 0 + 208 + 0 + 0) 305 #[.val (.int y0), .val (.int y1), .val (.int y2), .val (.int y3), .val (.int y4), .val (.int g_2119), .val (.int g_2121), .val (.int g_2123), .val (.int g_2125), .val (.int g_2127), .val (.int g_2129), .val (.int v0), .val (.int v_2134), .val (.int v_2136), .val (.int v_2138), .val (.int v_2140), .val (.int v_2142), .val (.ref a_2145), .val (.int rm_2183), .val (.int qm_2184), .val (.int key_2185), .val (.int oth_2187), .val (.int 1), .val (.ref a_2738), .val (.int 0), .val (.ref a_2758), .val (.int nQQ), .val (.ref o_2783), .val (.ref a_2800), .val (.int 0)] [(.int r)]
        have z0 : (0 : Int32).toInt = 0 := rfl
        have z1 : (1 : Int32).toInt = 1 := rfl
        rw [hmask] at hr2
        refine Go.iload (pc' := 307) at_305 rfl rfl ?_
        refine Go.icmp (pc1 := 314) (pc2 := 310) at_307 (by decide) (by decide) rfl (fun (c_2976 : r.toInt ≠ (0 : Int)) => ?_) (fun (c_2976 : r.toInt = (0 : Int)) => ?_)
        · exact absurd (by omega) c_2976
        refine Go.iconst (pc' := 311) (v := (1 : Int32)) at_310 rfl rfl ?_
        refine Go.goto (pc' := 315) at_311 (by decide) (by decide) ?_
        exact Go.retN (t := .boolean) at_315 rfl (by simp) rfl rfl (by decide) (by decide)
      · refine Go.iconst (pc' := 290) (v := (1 : Int32)) at_289 rfl rfl ?_
        refine Go.goto (pc' := 294) at_290 (by decide) (by decide) ?_
        refine Go.istore (pc' := 296) (Ls' := #[.val (.int y0), .val (.int y1), .val (.int y2), .val (.int y3), .val (.int y4), .val (.int g_2119), .val (.int g_2121), .val (.int g_2123), .val (.int g_2125), .val (.int g_2127), .val (.int g_2129), .val (.int v0), .val (.int v_2134), .val (.int v_2136), .val (.int v_2138), .val (.int v_2140), .val (.int v_2142), .val (.ref a_2145), .val (.int rm_2183), .val (.int qm_2184), .val (.int key_2185), .val (.int oth_2187), .val (.int 1), .val (.ref a_2738), .val (.int 0), .val (.ref a_2758), .val (.int nQQ), .val (.ref o_2783), .val (.ref a_2800), .val (.int 1)]) at_294 rfl rfl ?_
        refine Go.aload (pc' := 298) at_296 rfl rfl rfl ?_
        refine Go.iload (pc' := 300) at_298 rfl rfl ?_
        refine Go.aload (pc' := 302) at_300 rfl rfl rfl ?_
        refine Go.callV (pc' := 305) (argsL := [(.int key_2185), (.ref o_2783)]) (rest := []) (W := 0) (own_w hw 109 rfl) (own_w hw 110 rfl) (own_w hw 112 rfl) (own_w hw 111 rfl) (own_w hw 16 rfl) (own_w hw 113 rfl) (by decide) f_2952 (m_caN l Z a0 hw a_2800 o_2879 b_2880 o_2783 key_2185 (7 : Int32) (0 : Int32) ((own_m1.set oth_2187.toInt.toNat (.int 0)).set key_2185.toInt.toNat (.int 7)) [(.int 6), (.int v0), (.int v_2134), (.int v_2136), (.int v_2138), (.int v_2140), (.int v_2142), (.int 0), (.int 0), (.int 0), (.int 0), (.int 0), (.int 0), (.int 0), (.int 0), (.int 0)] QQ [] h_2936 n0 z_2974 f_2952 F_2942 F_2943 A_2940 A_2941 f_2951 (by omega) (own_set_at _ _ _ (by rw [List.length_set, own_m1_len]; omega)) hlQQ (by decide) (by decide) rfl rfl (by show (0 : Nat) ≤ 6; decide) (own_pre _ _ _ rfl)) at_302 rfl pd15 rfl rfl (Nat.le_of_eq rfl) (by decide) (by decide) (by decide) (by decide) rfl ?_
        rintro _ _ ⟨r, rfl, rfl, hr, hr2⟩
        show Go _ _ _ _ _ _ _ _ _ _ _ _ h_2936 (0 + 0 + 1 + 1 + 0 + 1 + 0 + 1 + 1 + 2 + 6 + 0 + 0) (0 + 0 + 6 + 6 + 0 + 6 + 0 + 6 + 8 + 0 + 208 + 0 + 0) 305 #[.val (.int y0), .val (.int y1), .val (.int y2), .val (.int y3), .val (.int y4), .val (.int g_2119), .val (.int g_2121), .val (.int g_2123), .val (.int g_2125), .val (.int g_2127), .val (.int g_2129), .val (.int v0), .val (.int v_2134), .val (.int v_2136), .val (.int v_2138), .val (.int v_2140), .val (.int v_2142), .val (.ref a_2145), .val (.int rm_2183), .val (.int qm_2184), .val (.int key_2185), .val (.int oth_2187), .val (.int 1), .val (.ref a_2738), .val (.int 0), .val (.ref a_2758), .val (.int nQQ), .val (.ref o_2783), .val (.ref a_2800), .val (.int 1)] [(.int r)]
        have z0 : (0 : Int32).toInt = 0 := rfl
        have z1 : (1 : Int32).toInt = 1 := rfl
        rw [hmask] at hr2
        refine Go.iload (pc' := 307) at_305 rfl rfl ?_
        refine Go.icmp (pc1 := 314) (pc2 := 310) at_307 (by decide) (by decide) rfl (fun (c_2977 : r.toInt ≠ (1 : Int)) => ?_) (fun (c_2977 : r.toInt = (1 : Int)) => ?_)
        · exact absurd (by omega) c_2977
        refine Go.iconst (pc' := 311) (v := (1 : Int32)) at_310 rfl rfl ?_
        refine Go.goto (pc' := 315) at_311 (by decide) (by decide) ?_
        exact Go.retN (t := .boolean) at_315 rfl (by simp) rfl rfl (by decide) (by decide)
    · obtain rfl : nRR = (1 : Int32) := Int32.toInt_inj.mp hnRR
      have y_2978 : Ary Z h_2878 a_2738 .int [(.int x0), (.int 0), (.int 0), (.int 0), (.int 0), (.int 0)] := f_2914
      show Go _ _ _ _ _ _ _ _ _ _ _ _ h_2878 (0 + 0 + 1 + 1 + 0 + 1 + 0 + 1 + 1 + 2 + 6) (0 + 0 + 6 + 6 + 0 + 6 + 0 + 6 + 8 + 0 + 208) 276 #[.val (.int y0), .val (.int y1), .val (.int y2), .val (.int y3), .val (.int y4), .val (.int g_2119), .val (.int g_2121), .val (.int g_2123), .val (.int g_2125), .val (.int g_2127), .val (.int g_2129), .val (.int v0), .val (.int v_2134), .val (.int v_2136), .val (.int v_2138), .val (.int v_2140), .val (.int v_2142), .val (.ref a_2145), .val (.int rm_2183), .val (.int qm_2184), .val (.int key_2185), .val (.int oth_2187), .val (.int 1), .val (.ref a_2738), .val (.int 1), .val (.ref a_2758), .val (.int nQQ), .val (.ref o_2783), .val (.ref a_2800), .unset] [(.int 1), (.int 0), (.ref a_2738), (.int key_2185), (.ref a_2800)]
      refine Go.callV (pc' := 279) (argsL := [(.int key_2185), (.ref a_2738), (.int 0), (.int 1)]) (rest := []) (W := 0) (own_w hw 30 rfl) (own_w hw 31 rfl) (own_w hw 33 rfl) (own_w hw 32 rfl) (own_w hw 16 rfl) (own_w hw 34 rfl) (by decide) f_2917 (m_set1_1 l Z a0 hw a_2800 o_2879 b_2880 a_2738 ky_2881 key_2185 x0 (0 : Int32) (0 : Int32) (0 : Int32) (0 : Int32) (0 : Int32) v0 v_2134 v_2136 v_2138 v_2140 v_2142 (own_m1.set oth_2187.toInt.toNat (.int 0)) h_2878 n0 z_2934 f_2917 F_2890 F_2891 F_2892 F_2893 F_2894 F_2895 F_2896 g_2809 A_2883 (by rw [List.length_set]; exact own_m1_len) (by omega) (by omega) (own_set_ne _ _ _ (by omega) (by omega)) g_2904 n_2901 A_2884 g_2912 n_2909 ne_2889 y_2978 n_2806.symm n_2898 n_2906) at_276 rfl pd14 rfl rfl (Nat.le_of_eq rfl) (by decide) (by decide) (by decide) (by decide) rfl ?_
      rintro _ h_2979 ⟨rfl, ky_2980, s_2981, K_2982, F_2985, F_2986, F_2987, F_2988, F_2989, F_2990, F_2991, A_2983, A_2984⟩
      have f_2992 : Ary Z h_2979 a_2145 .int [(.int v0), (.int v_2134), (.int v_2136), (.int v_2138), (.int v_2140), (.int v_2142)] := f_2913.sm (Sm.keep K_2982 (ninS n_2805 (ninS n_2897 (ninS n_2905 nin0))))
      have f_2993 : Ary Z h_2979 a_2758 .int (own_pad QQ) := f_2915.sm (Sm.keep K_2982 (ninS n_2807 (ninS n_2899 (ninS n_2907 nin0))))
      have f_2994 : Ary Z h_2979 o_2783 .int (QQ.map Value.int) := f_2916.sm (Sm.keep K_2982 (ninS n_2808 (ninS n_2900 (ninS n_2908 nin0))))
      have f_2995 : Exa Z h_2979 a_2800 "com/example/nearword/nearword/internal/index/IntRuns" := f_2917.keep K_2982
      have f_2996 : Ary Z h_2979 e_2829 .int [] := f_2925.sm (Sm.keep K_2982 (ninS n_2850.symm (ninS n_2902 (ninS n_2910 nin0))))
      have f_2997 : Ary Z h_2979 p_2830 .int [] := f_2926.sm (Sm.keep K_2982 (ninS n_2856.symm (ninS n_2903 (ninS n_2911 nin0))))
      have f_3007 : Ary Z h_2979 a_2738 .int [(.int x0), (.int 0), (.int 0), (.int 0), (.int 0), (.int 0)] := y_2978.sm (Sm.keep K_2982 (ninS n_2806 (ninS n_2898 (ninS n_2906 nin0))))
      have t_3008 : a_2145 < h_2979.size := Nat.lt_of_lt_of_le t_2927 K_2982.1
      have t_3009 : a_2738 < h_2979.size := Nat.lt_of_lt_of_le t_2928 K_2982.1
      have t_3010 : a_2758 < h_2979.size := Nat.lt_of_lt_of_le t_2929 K_2982.1
      have t_3011 : o_2783 < h_2979.size := Nat.lt_of_lt_of_le t_2930 K_2982.1
      have t_3012 : a_2800 < h_2979.size := Nat.lt_of_lt_of_le t_2931 K_2982.1
      have t_3013 : e_2829 < h_2979.size := Nat.lt_of_lt_of_le t_2932 K_2982.1
      have t_3014 : p_2830 < h_2979.size := Nat.lt_of_lt_of_le t_2933 K_2982.1
      have t_3015 : o_2879 < h_2979.size := Nat.lt_of_lt_of_le t_2886 K_2982.1
      have t_3016 : b_2880 < h_2979.size := Nat.lt_of_lt_of_le t_2888 K_2982.1
      have z_3017 : n0 ≤ h_2979.size := Nat.le_trans z_2934 K_2982.1
      show Go _ _ _ _ _ _ _ _ _ _ _ _ h_2979 (0 + 0 + 1 + 1 + 0 + 1 + 0 + 1 + 1 + 2 + 6 + 0) (0 + 0 + 6 + 6 + 0 + 6 + 0 + 6 + 8 + 0 + 208 + 0) 279 #[.val (.int y0), .val (.int y1), .val (.int y2), .val (.int y3), .val (.int y4), .val (.int g_2119), .val (.int g_2121), .val (.int g_2123), .val (.int g_2125), .val (.int g_2127), .val (.int g_2129), .val (.int v0), .val (.int v_2134), .val (.int v_2136), .val (.int v_2138), .val (.int v_2140), .val (.int v_2142), .val (.ref a_2145), .val (.int rm_2183), .val (.int qm_2184), .val (.int key_2185), .val (.int oth_2187), .val (.int 1), .val (.ref a_2738), .val (.int 1), .val (.ref a_2758), .val (.int nQQ), .val (.ref o_2783), .val (.ref a_2800), .unset] []
      have hx0 : 0 ≤ x0.toInt ∧ x0.toInt ≤ 2147483646 := own_pk_in (m := rm_2183) (v0 := v0) (v1 := v_2134) (v2 := v_2136) (v3 := v_2138) (v4 := v_2140) (v5 := v_2142) (by omega) (by rw [hgRR]; exact List.mem_singleton.mpr rfl)
      have hxc : ((-2 : Int32) - x0).toInt = -2 - x0.toInt := own_subN x0 hx0
      replace hx0 := hx0.1
      have hmask : (own_ca [x0] QQ = true ↔ (qm_2184 &&& (rm_2183 ^^^ (-1 : Int32))).toInt = 0) := by rw [← hgRR, ← hgQQ]; exact own_law rm_2183 qm_2184 v0 v_2134 v_2136 v_2138 v_2140 v_2142 hasc krm kqm
      refine Go.iload (pc' := 281) at_279 rfl rfl ?_
      refine Go.iload (pc' := 283) at_281 rfl rfl ?_
      refine Go.iconst (pc' := 284) (v := (-1 : Int32)) at_283 rfl rfl ?_
      refine Go.ixor (pc' := 285) at_284 rfl ?_
      refine Go.iand (pc' := 286) at_285 rfl ?_
      refine Go.ifc (pc1 := 293) (pc2 := 289) at_286 (by decide) (by decide) rfl (fun (c_3018 : (qm_2184 &&& (rm_2183 ^^^ (-1 : Int32))).toInt ≠ 0) => ?_) (fun (c_3018 : (qm_2184 &&& (rm_2183 ^^^ (-1 : Int32))).toInt = 0) => ?_)
      · refine Go.iconst (pc' := 294) (v := (0 : Int32)) at_293 rfl rfl ?_
        refine Go.istore (pc' := 296) (Ls' := #[.val (.int y0), .val (.int y1), .val (.int y2), .val (.int y3), .val (.int y4), .val (.int g_2119), .val (.int g_2121), .val (.int g_2123), .val (.int g_2125), .val (.int g_2127), .val (.int g_2129), .val (.int v0), .val (.int v_2134), .val (.int v_2136), .val (.int v_2138), .val (.int v_2140), .val (.int v_2142), .val (.ref a_2145), .val (.int rm_2183), .val (.int qm_2184), .val (.int key_2185), .val (.int oth_2187), .val (.int 1), .val (.ref a_2738), .val (.int 1), .val (.ref a_2758), .val (.int nQQ), .val (.ref o_2783), .val (.ref a_2800), .val (.int 0)]) at_294 rfl rfl ?_
        refine Go.aload (pc' := 298) at_296 rfl rfl rfl ?_
        refine Go.iload (pc' := 300) at_298 rfl rfl ?_
        refine Go.aload (pc' := 302) at_300 rfl rfl rfl ?_
        refine Go.callV (pc' := 305) (argsL := [(.int key_2185), (.ref o_2783)]) (rest := []) (W := 0) (own_w hw 109 rfl) (own_w hw 110 rfl) (own_w hw 112 rfl) (own_w hw 111 rfl) (own_w hw 16 rfl) (own_w hw 113 rfl) (by decide) f_2995 (m_ca1 l Z a0 hw a_2800 o_2879 b_2880 o_2783 key_2185 ((-2 : Int32) - x0) x0 ((own_m1.set oth_2187.toInt.toNat (.int 0)).set key_2185.toInt.toNat (.int ((-2 : Int32) - x0))) [(.int 6), (.int v0), (.int v_2134), (.int v_2136), (.int v_2138), (.int v_2140), (.int v_2142), (.int 0), (.int 0), (.int 0), (.int 0), (.int 0), (.int 0), (.int 0), (.int 0), (.int 0)] QQ h_2979 n0 z_3017 f_2995 F_2985 F_2986 A_2983 A_2984 f_2994 (by omega) (own_set_at _ _ _ (by rw [List.length_set, own_m1_len]; omega)) hlQQ (hx0) (hxc)) at_302 rfl pd15 rfl rfl (Nat.le_of_eq rfl) (by decide) (by decide) (by decide) (by decide) rfl ?_
        rintro _ _ ⟨r, rfl, rfl, hr, hr2⟩
        show Go _ _ _ _ _ _ _ _ _ _ _ _ h_2979 (0 + 0 + 1 + 1 + 0 + 1 + 0 + 1 + 1 + 2 + 6 + 0 + 0) (0 + 0 + 6 + 6 + 0 + 6 + 0 + 6 + 8 + 0 + 208 + 0 + 0) 305 #[.val (.int y0), .val (.int y1), .val (.int y2), .val (.int y3), .val (.int y4), .val (.int g_2119), .val (.int g_2121), .val (.int g_2123), .val (.int g_2125), .val (.int g_2127), .val (.int g_2129), .val (.int v0), .val (.int v_2134), .val (.int v_2136), .val (.int v_2138), .val (.int v_2140), .val (.int v_2142), .val (.ref a_2145), .val (.int rm_2183), .val (.int qm_2184), .val (.int key_2185), .val (.int oth_2187), .val (.int 1), .val (.ref a_2738), .val (.int 1), .val (.ref a_2758), .val (.int nQQ), .val (.ref o_2783), .val (.ref a_2800), .val (.int 0)] [(.int r)]
        have z0 : (0 : Int32).toInt = 0 := rfl
        have z1 : (1 : Int32).toInt = 1 := rfl
        rw [hmask] at hr2
        refine Go.iload (pc' := 307) at_305 rfl rfl ?_
        refine Go.icmp (pc1 := 314) (pc2 := 310) at_307 (by decide) (by decide) rfl (fun (c_3019 : r.toInt ≠ (0 : Int)) => ?_) (fun (c_3019 : r.toInt = (0 : Int)) => ?_)
        · exact absurd (by omega) c_3019
        refine Go.iconst (pc' := 311) (v := (1 : Int32)) at_310 rfl rfl ?_
        refine Go.goto (pc' := 315) at_311 (by decide) (by decide) ?_
        exact Go.retN (t := .boolean) at_315 rfl (by simp) rfl rfl (by decide) (by decide)
      · refine Go.iconst (pc' := 290) (v := (1 : Int32)) at_289 rfl rfl ?_
        refine Go.goto (pc' := 294) at_290 (by decide) (by decide) ?_
        refine Go.istore (pc' := 296) (Ls' := #[.val (.int y0), .val (.int y1), .val (.int y2), .val (.int y3), .val (.int y4), .val (.int g_2119), .val (.int g_2121), .val (.int g_2123), .val (.int g_2125), .val (.int g_2127), .val (.int g_2129), .val (.int v0), .val (.int v_2134), .val (.int v_2136), .val (.int v_2138), .val (.int v_2140), .val (.int v_2142), .val (.ref a_2145), .val (.int rm_2183), .val (.int qm_2184), .val (.int key_2185), .val (.int oth_2187), .val (.int 1), .val (.ref a_2738), .val (.int 1), .val (.ref a_2758), .val (.int nQQ), .val (.ref o_2783), .val (.ref a_2800), .val (.int 1)]) at_294 rfl rfl ?_
        refine Go.aload (pc' := 298) at_296 rfl rfl rfl ?_
        refine Go.iload (pc' := 300) at_298 rfl rfl ?_
        refine Go.aload (pc' := 302) at_300 rfl rfl rfl ?_
        refine Go.callV (pc' := 305) (argsL := [(.int key_2185), (.ref o_2783)]) (rest := []) (W := 0) (own_w hw 109 rfl) (own_w hw 110 rfl) (own_w hw 112 rfl) (own_w hw 111 rfl) (own_w hw 16 rfl) (own_w hw 113 rfl) (by decide) f_2995 (m_ca1 l Z a0 hw a_2800 o_2879 b_2880 o_2783 key_2185 ((-2 : Int32) - x0) x0 ((own_m1.set oth_2187.toInt.toNat (.int 0)).set key_2185.toInt.toNat (.int ((-2 : Int32) - x0))) [(.int 6), (.int v0), (.int v_2134), (.int v_2136), (.int v_2138), (.int v_2140), (.int v_2142), (.int 0), (.int 0), (.int 0), (.int 0), (.int 0), (.int 0), (.int 0), (.int 0), (.int 0)] QQ h_2979 n0 z_3017 f_2995 F_2985 F_2986 A_2983 A_2984 f_2994 (by omega) (own_set_at _ _ _ (by rw [List.length_set, own_m1_len]; omega)) hlQQ (hx0) (hxc)) at_302 rfl pd15 rfl rfl (Nat.le_of_eq rfl) (by decide) (by decide) (by decide) (by decide) rfl ?_
        rintro _ _ ⟨r, rfl, rfl, hr, hr2⟩
        show Go _ _ _ _ _ _ _ _ _ _ _ _ h_2979 (0 + 0 + 1 + 1 + 0 + 1 + 0 + 1 + 1 + 2 + 6 + 0 + 0) (0 + 0 + 6 + 6 + 0 + 6 + 0 + 6 + 8 + 0 + 208 + 0 + 0) 305 #[.val (.int y0), .val (.int y1), .val (.int y2), .val (.int y3), .val (.int y4), .val (.int g_2119), .val (.int g_2121), .val (.int g_2123), .val (.int g_2125), .val (.int g_2127), .val (.int g_2129), .val (.int v0), .val (.int v_2134), .val (.int v_2136), .val (.int v_2138), .val (.int v_2140), .val (.int v_2142), .val (.ref a_2145), .val (.int rm_2183), .val (.int qm_2184), .val (.int key_2185), .val (.int oth_2187), .val (.int 1), .val (.ref a_2738), .val (.int 1), .val (.ref a_2758), .val (.int nQQ), .val (.ref o_2783), .val (.ref a_2800), .val (.int 1)] [(.int r)]
        have z0 : (0 : Int32).toInt = 0 := rfl
        have z1 : (1 : Int32).toInt = 1 := rfl
        rw [hmask] at hr2
        refine Go.iload (pc' := 307) at_305 rfl rfl ?_
        refine Go.icmp (pc1 := 314) (pc2 := 310) at_307 (by decide) (by decide) rfl (fun (c_3020 : r.toInt ≠ (1 : Int)) => ?_) (fun (c_3020 : r.toInt = (1 : Int)) => ?_)
        · exact absurd (by omega) c_3020
        refine Go.iconst (pc' := 311) (v := (1 : Int32)) at_310 rfl rfl ?_
        refine Go.goto (pc' := 315) at_311 (by decide) (by decide) ?_
        exact Go.retN (t := .boolean) at_315 rfl (by simp) rfl rfl (by decide) (by decide)
    · obtain rfl : nRR = (2 : Int32) := Int32.toInt_inj.mp hnRR
      have y_3021 : Ary Z h_2878 a_2738 .int [(.int x0), (.int x1), (.int 0), (.int 0), (.int 0), (.int 0)] := f_2914
      show Go _ _ _ _ _ _ _ _ _ _ _ _ h_2878 (0 + 0 + 1 + 1 + 0 + 1 + 0 + 1 + 1 + 2 + 6) (0 + 0 + 6 + 6 + 0 + 6 + 0 + 6 + 8 + 0 + 208) 276 #[.val (.int y0), .val (.int y1), .val (.int y2), .val (.int y3), .val (.int y4), .val (.int g_2119), .val (.int g_2121), .val (.int g_2123), .val (.int g_2125), .val (.int g_2127), .val (.int g_2129), .val (.int v0), .val (.int v_2134), .val (.int v_2136), .val (.int v_2138), .val (.int v_2140), .val (.int v_2142), .val (.ref a_2145), .val (.int rm_2183), .val (.int qm_2184), .val (.int key_2185), .val (.int oth_2187), .val (.int 1), .val (.ref a_2738), .val (.int 2), .val (.ref a_2758), .val (.int nQQ), .val (.ref o_2783), .val (.ref a_2800), .unset] [(.int 2), (.int 0), (.ref a_2738), (.int key_2185), (.ref a_2800)]
      refine Go.callV (pc' := 279) (argsL := [(.int key_2185), (.ref a_2738), (.int 0), (.int 2)]) (rest := []) (W := 0) (own_w hw 30 rfl) (own_w hw 31 rfl) (own_w hw 33 rfl) (own_w hw 32 rfl) (own_w hw 16 rfl) (own_w hw 34 rfl) (by decide) f_2917 (m_set1_2 l Z a0 hw a_2800 o_2879 b_2880 a_2738 ky_2881 key_2185 x0 x1 (0 : Int32) (0 : Int32) (0 : Int32) (0 : Int32) v0 v_2134 v_2136 v_2138 v_2140 v_2142 (own_m1.set oth_2187.toInt.toNat (.int 0)) h_2878 n0 z_2934 f_2917 F_2890 F_2891 F_2892 F_2893 F_2894 F_2895 F_2896 g_2809 A_2883 (by rw [List.length_set]; exact own_m1_len) (by omega) (by omega) (own_set_ne _ _ _ (by omega) (by omega)) g_2904 n_2901 A_2884 g_2912 n_2909 ne_2889 y_3021 n_2806.symm n_2898 n_2906) at_276 rfl pd14 rfl rfl (Nat.le_of_eq rfl) (by decide) (by decide) (by decide) (by decide) rfl ?_
      rintro _ h_3022 ⟨rfl, ky_3023, s_3024, K_3025, F_3028, F_3029, F_3030, F_3031, F_3032, F_3033, F_3034, A_3026, A_3027⟩
      have f_3035 : Ary Z h_3022 a_2145 .int [(.int v0), (.int v_2134), (.int v_2136), (.int v_2138), (.int v_2140), (.int v_2142)] := f_2913.sm (Sm.keep K_3025 (ninS n_2805 (ninS n_2897 (ninS n_2905 nin0))))
      have f_3036 : Ary Z h_3022 a_2758 .int (own_pad QQ) := f_2915.sm (Sm.keep K_3025 (ninS n_2807 (ninS n_2899 (ninS n_2907 nin0))))
      have f_3037 : Ary Z h_3022 o_2783 .int (QQ.map Value.int) := f_2916.sm (Sm.keep K_3025 (ninS n_2808 (ninS n_2900 (ninS n_2908 nin0))))
      have f_3038 : Exa Z h_3022 a_2800 "com/example/nearword/nearword/internal/index/IntRuns" := f_2917.keep K_3025
      have f_3039 : Ary Z h_3022 e_2829 .int [] := f_2925.sm (Sm.keep K_3025 (ninS n_2850.symm (ninS n_2902 (ninS n_2910 nin0))))
      have f_3040 : Ary Z h_3022 p_2830 .int [] := f_2926.sm (Sm.keep K_3025 (ninS n_2856.symm (ninS n_2903 (ninS n_2911 nin0))))
      have f_3050 : Ary Z h_3022 a_2738 .int [(.int x0), (.int x1), (.int 0), (.int 0), (.int 0), (.int 0)] := y_3021.sm (Sm.keep K_3025 (ninS n_2806 (ninS n_2898 (ninS n_2906 nin0))))
      have t_3051 : a_2145 < h_3022.size := Nat.lt_of_lt_of_le t_2927 K_3025.1
      have t_3052 : a_2738 < h_3022.size := Nat.lt_of_lt_of_le t_2928 K_3025.1
      have t_3053 : a_2758 < h_3022.size := Nat.lt_of_lt_of_le t_2929 K_3025.1
      have t_3054 : o_2783 < h_3022.size := Nat.lt_of_lt_of_le t_2930 K_3025.1
      have t_3055 : a_2800 < h_3022.size := Nat.lt_of_lt_of_le t_2931 K_3025.1
      have t_3056 : e_2829 < h_3022.size := Nat.lt_of_lt_of_le t_2932 K_3025.1
      have t_3057 : p_2830 < h_3022.size := Nat.lt_of_lt_of_le t_2933 K_3025.1
      have t_3058 : o_2879 < h_3022.size := Nat.lt_of_lt_of_le t_2886 K_3025.1
      have t_3059 : b_2880 < h_3022.size := Nat.lt_of_lt_of_le t_2888 K_3025.1
      have z_3060 : n0 ≤ h_3022.size := Nat.le_trans z_2934 K_3025.1
      show Go _ _ _ _ _ _ _ _ _ _ _ _ h_3022 (0 + 0 + 1 + 1 + 0 + 1 + 0 + 1 + 1 + 2 + 6 + 0) (0 + 0 + 6 + 6 + 0 + 6 + 0 + 6 + 8 + 0 + 208 + 0) 279 #[.val (.int y0), .val (.int y1), .val (.int y2), .val (.int y3), .val (.int y4), .val (.int g_2119), .val (.int g_2121), .val (.int g_2123), .val (.int g_2125), .val (.int g_2127), .val (.int g_2129), .val (.int v0), .val (.int v_2134), .val (.int v_2136), .val (.int v_2138), .val (.int v_2140), .val (.int v_2142), .val (.ref a_2145), .val (.int rm_2183), .val (.int qm_2184), .val (.int key_2185), .val (.int oth_2187), .val (.int 1), .val (.ref a_2738), .val (.int 2), .val (.ref a_2758), .val (.int nQQ), .val (.ref o_2783), .val (.ref a_2800), .unset] []
      have hmask : (own_ca [x0, x1] QQ = true ↔ (qm_2184 &&& (rm_2183 ^^^ (-1 : Int32))).toInt = 0) := by rw [← hgRR, ← hgQQ]; exact own_law rm_2183 qm_2184 v0 v_2134 v_2136 v_2138 v_2140 v_2142 hasc krm kqm
      refine Go.iload (pc' := 281) at_279 rfl rfl ?_
      refine Go.iload (pc' := 283) at_281 rfl rfl ?_
      refine Go.iconst (pc' := 284) (v := (-1 : Int32)) at_283 rfl rfl ?_
      refine Go.ixor (pc' := 285) at_284 rfl ?_
      refine Go.iand (pc' := 286) at_285 rfl ?_
      refine Go.ifc (pc1 := 293) (pc2 := 289) at_286 (by decide) (by decide) rfl (fun (c_3061 : (qm_2184 &&& (rm_2183 ^^^ (-1 : Int32))).toInt ≠ 0) => ?_) (fun (c_3061 : (qm_2184 &&& (rm_2183 ^^^ (-1 : Int32))).toInt = 0) => ?_)
      · refine Go.iconst (pc' := 294) (v := (0 : Int32)) at_293 rfl rfl ?_
        refine Go.istore (pc' := 296) (Ls' := #[.val (.int y0), .val (.int y1), .val (.int y2), .val (.int y3), .val (.int y4), .val (.int g_2119), .val (.int g_2121), .val (.int g_2123), .val (.int g_2125), .val (.int g_2127), .val (.int g_2129), .val (.int v0), .val (.int v_2134), .val (.int v_2136), .val (.int v_2138), .val (.int v_2140), .val (.int v_2142), .val (.ref a_2145), .val (.int rm_2183), .val (.int qm_2184), .val (.int key_2185), .val (.int oth_2187), .val (.int 1), .val (.ref a_2738), .val (.int 2), .val (.ref a_2758), .val (.int nQQ), .val (.ref o_2783), .val (.ref a_2800), .val (.int 0)]) at_294 rfl rfl ?_
        refine Go.aload (pc' := 298) at_296 rfl rfl rfl ?_
        refine Go.iload (pc' := 300) at_298 rfl rfl ?_
        refine Go.aload (pc' := 302) at_300 rfl rfl rfl ?_
        refine Go.callV (pc' := 305) (argsL := [(.int key_2185), (.ref o_2783)]) (rest := []) (W := 0) (own_w hw 109 rfl) (own_w hw 110 rfl) (own_w hw 112 rfl) (own_w hw 111 rfl) (own_w hw 16 rfl) (own_w hw 113 rfl) (by decide) f_3038 (m_caN l Z a0 hw a_2800 o_2879 b_2880 o_2783 key_2185 (7 : Int32) (2 : Int32) ((own_m1.set oth_2187.toInt.toNat (.int 0)).set key_2185.toInt.toNat (.int 7)) [(.int 6), (.int v0), (.int v_2134), (.int v_2136), (.int v_2138), (.int v_2140), (.int v_2142), (.int 2), (.int x0), (.int x1), (.int 0), (.int 0), (.int 0), (.int 0), (.int 0), (.int 0)] QQ [x0, x1] h_3022 n0 z_3060 f_3038 F_3028 F_3029 A_3026 A_3027 f_3037 (by omega) (own_set_at _ _ _ (by rw [List.length_set, own_m1_len]; omega)) hlQQ (by decide) (by decide) rfl rfl (by show (2 : Nat) ≤ 6; decide) (own_pre _ _ _ rfl)) at_302 rfl pd15 rfl rfl (Nat.le_of_eq rfl) (by decide) (by decide) (by decide) (by decide) rfl ?_
        rintro _ _ ⟨r, rfl, rfl, hr, hr2⟩
        show Go _ _ _ _ _ _ _ _ _ _ _ _ h_3022 (0 + 0 + 1 + 1 + 0 + 1 + 0 + 1 + 1 + 2 + 6 + 0 + 0) (0 + 0 + 6 + 6 + 0 + 6 + 0 + 6 + 8 + 0 + 208 + 0 + 0) 305 #[.val (.int y0), .val (.int y1), .val (.int y2), .val (.int y3), .val (.int y4), .val (.int g_2119), .val (.int g_2121), .val (.int g_2123), .val (.int g_2125), .val (.int g_2127), .val (.int g_2129), .val (.int v0), .val (.int v_2134), .val (.int v_2136), .val (.int v_2138), .val (.int v_2140), .val (.int v_2142), .val (.ref a_2145), .val (.int rm_2183), .val (.int qm_2184), .val (.int key_2185), .val (.int oth_2187), .val (.int 1), .val (.ref a_2738), .val (.int 2), .val (.ref a_2758), .val (.int nQQ), .val (.ref o_2783), .val (.ref a_2800), .val (.int 0)] [(.int r)]
        have z0 : (0 : Int32).toInt = 0 := rfl
        have z1 : (1 : Int32).toInt = 1 := rfl
        rw [hmask] at hr2
        refine Go.iload (pc' := 307) at_305 rfl rfl ?_
        refine Go.icmp (pc1 := 314) (pc2 := 310) at_307 (by decide) (by decide) rfl (fun (c_3062 : r.toInt ≠ (0 : Int)) => ?_) (fun (c_3062 : r.toInt = (0 : Int)) => ?_)
        · exact absurd (by omega) c_3062
        refine Go.iconst (pc' := 311) (v := (1 : Int32)) at_310 rfl rfl ?_
        refine Go.goto (pc' := 315) at_311 (by decide) (by decide) ?_
        exact Go.retN (t := .boolean) at_315 rfl (by simp) rfl rfl (by decide) (by decide)
      · refine Go.iconst (pc' := 290) (v := (1 : Int32)) at_289 rfl rfl ?_
        refine Go.goto (pc' := 294) at_290 (by decide) (by decide) ?_
        refine Go.istore (pc' := 296) (Ls' := #[.val (.int y0), .val (.int y1), .val (.int y2), .val (.int y3), .val (.int y4), .val (.int g_2119), .val (.int g_2121), .val (.int g_2123), .val (.int g_2125), .val (.int g_2127), .val (.int g_2129), .val (.int v0), .val (.int v_2134), .val (.int v_2136), .val (.int v_2138), .val (.int v_2140), .val (.int v_2142), .val (.ref a_2145), .val (.int rm_2183), .val (.int qm_2184), .val (.int key_2185), .val (.int oth_2187), .val (.int 1), .val (.ref a_2738), .val (.int 2), .val (.ref a_2758), .val (.int nQQ), .val (.ref o_2783), .val (.ref a_2800), .val (.int 1)]) at_294 rfl rfl ?_
        refine Go.aload (pc' := 298) at_296 rfl rfl rfl ?_
        refine Go.iload (pc' := 300) at_298 rfl rfl ?_
        refine Go.aload (pc' := 302) at_300 rfl rfl rfl ?_
        refine Go.callV (pc' := 305) (argsL := [(.int key_2185), (.ref o_2783)]) (rest := []) (W := 0) (own_w hw 109 rfl) (own_w hw 110 rfl) (own_w hw 112 rfl) (own_w hw 111 rfl) (own_w hw 16 rfl) (own_w hw 113 rfl) (by decide) f_3038 (m_caN l Z a0 hw a_2800 o_2879 b_2880 o_2783 key_2185 (7 : Int32) (2 : Int32) ((own_m1.set oth_2187.toInt.toNat (.int 0)).set key_2185.toInt.toNat (.int 7)) [(.int 6), (.int v0), (.int v_2134), (.int v_2136), (.int v_2138), (.int v_2140), (.int v_2142), (.int 2), (.int x0), (.int x1), (.int 0), (.int 0), (.int 0), (.int 0), (.int 0), (.int 0)] QQ [x0, x1] h_3022 n0 z_3060 f_3038 F_3028 F_3029 A_3026 A_3027 f_3037 (by omega) (own_set_at _ _ _ (by rw [List.length_set, own_m1_len]; omega)) hlQQ (by decide) (by decide) rfl rfl (by show (2 : Nat) ≤ 6; decide) (own_pre _ _ _ rfl)) at_302 rfl pd15 rfl rfl (Nat.le_of_eq rfl) (by decide) (by decide) (by decide) (by decide) rfl ?_
        rintro _ _ ⟨r, rfl, rfl, hr, hr2⟩
        show Go _ _ _ _ _ _ _ _ _ _ _ _ h_3022 (0 + 0 + 1 + 1 + 0 + 1 + 0 + 1 + 1 + 2 + 6 + 0 + 0) (0 + 0 + 6 + 6 + 0 + 6 + 0 + 6 + 8 + 0 + 208 + 0 + 0) 305 #[.val (.int y0), .val (.int y1), .val (.int y2), .val (.int y3), .val (.int y4), .val (.int g_2119), .val (.int g_2121), .val (.int g_2123), .val (.int g_2125), .val (.int g_2127), .val (.int g_2129), .val (.int v0), .val (.int v_2134), .val (.int v_2136), .val (.int v_2138), .val (.int v_2140), .val (.int v_2142), .val (.ref a_2145), .val (.int rm_2183), .val (.int qm_2184), .val (.int key_2185), .val (.int oth_2187), .val (.int 1), .val (.ref a_2738), .val (.int 2), .val (.ref a_2758), .val (.int nQQ), .val (.ref o_2783), .val (.ref a_2800), .val (.int 1)] [(.int r)]
        have z0 : (0 : Int32).toInt = 0 := rfl
        have z1 : (1 : Int32).toInt = 1 := rfl
        rw [hmask] at hr2
        refine Go.iload (pc' := 307) at_305 rfl rfl ?_
        refine Go.icmp (pc1 := 314) (pc2 := 310) at_307 (by decide) (by decide) rfl (fun (c_3063 : r.toInt ≠ (1 : Int)) => ?_) (fun (c_3063 : r.toInt = (1 : Int)) => ?_)
        · exact absurd (by omega) c_3063
        refine Go.iconst (pc' := 311) (v := (1 : Int32)) at_310 rfl rfl ?_
        refine Go.goto (pc' := 315) at_311 (by decide) (by decide) ?_
        exact Go.retN (t := .boolean) at_315 rfl (by simp) rfl rfl (by decide) (by decide)
    · obtain rfl : nRR = (3 : Int32) := Int32.toInt_inj.mp hnRR
      have y_3064 : Ary Z h_2878 a_2738 .int [(.int x0), (.int x1), (.int x2), (.int 0), (.int 0), (.int 0)] := f_2914
      show Go _ _ _ _ _ _ _ _ _ _ _ _ h_2878 (0 + 0 + 1 + 1 + 0 + 1 + 0 + 1 + 1 + 2 + 6) (0 + 0 + 6 + 6 + 0 + 6 + 0 + 6 + 8 + 0 + 208) 276 #[.val (.int y0), .val (.int y1), .val (.int y2), .val (.int y3), .val (.int y4), .val (.int g_2119), .val (.int g_2121), .val (.int g_2123), .val (.int g_2125), .val (.int g_2127), .val (.int g_2129), .val (.int v0), .val (.int v_2134), .val (.int v_2136), .val (.int v_2138), .val (.int v_2140), .val (.int v_2142), .val (.ref a_2145), .val (.int rm_2183), .val (.int qm_2184), .val (.int key_2185), .val (.int oth_2187), .val (.int 1), .val (.ref a_2738), .val (.int 3), .val (.ref a_2758), .val (.int nQQ), .val (.ref o_2783), .val (.ref a_2800), .unset] [(.int 3), (.int 0), (.ref a_2738), (.int key_2185), (.ref a_2800)]
      refine Go.callV (pc' := 279) (argsL := [(.int key_2185), (.ref a_2738), (.int 0), (.int 3)]) (rest := []) (W := 0) (own_w hw 30 rfl) (own_w hw 31 rfl) (own_w hw 33 rfl) (own_w hw 32 rfl) (own_w hw 16 rfl) (own_w hw 34 rfl) (by decide) f_2917 (m_set1_3 l Z a0 hw a_2800 o_2879 b_2880 a_2738 ky_2881 key_2185 x0 x1 x2 (0 : Int32) (0 : Int32) (0 : Int32) v0 v_2134 v_2136 v_2138 v_2140 v_2142 (own_m1.set oth_2187.toInt.toNat (.int 0)) h_2878 n0 z_2934 f_2917 F_2890 F_2891 F_2892 F_2893 F_2894 F_2895 F_2896 g_2809 A_2883 (by rw [List.length_set]; exact own_m1_len) (by omega) (by omega) (own_set_ne _ _ _ (by omega) (by omega)) g_2904 n_2901 A_2884 g_2912 n_2909 ne_2889 y_3064 n_2806.symm n_2898 n_2906) at_276 rfl pd14 rfl rfl (Nat.le_of_eq rfl) (by decide) (by decide) (by decide) (by decide) rfl ?_
      rintro _ h_3065 ⟨rfl, ky_3066, s_3067, K_3068, F_3071, F_3072, F_3073, F_3074, F_3075, F_3076, F_3077, A_3069, A_3070⟩
      have f_3078 : Ary Z h_3065 a_2145 .int [(.int v0), (.int v_2134), (.int v_2136), (.int v_2138), (.int v_2140), (.int v_2142)] := f_2913.sm (Sm.keep K_3068 (ninS n_2805 (ninS n_2897 (ninS n_2905 nin0))))
      have f_3079 : Ary Z h_3065 a_2758 .int (own_pad QQ) := f_2915.sm (Sm.keep K_3068 (ninS n_2807 (ninS n_2899 (ninS n_2907 nin0))))
      have f_3080 : Ary Z h_3065 o_2783 .int (QQ.map Value.int) := f_2916.sm (Sm.keep K_3068 (ninS n_2808 (ninS n_2900 (ninS n_2908 nin0))))
      have f_3081 : Exa Z h_3065 a_2800 "com/example/nearword/nearword/internal/index/IntRuns" := f_2917.keep K_3068
      have f_3082 : Ary Z h_3065 e_2829 .int [] := f_2925.sm (Sm.keep K_3068 (ninS n_2850.symm (ninS n_2902 (ninS n_2910 nin0))))
      have f_3083 : Ary Z h_3065 p_2830 .int [] := f_2926.sm (Sm.keep K_3068 (ninS n_2856.symm (ninS n_2903 (ninS n_2911 nin0))))
      have f_3093 : Ary Z h_3065 a_2738 .int [(.int x0), (.int x1), (.int x2), (.int 0), (.int 0), (.int 0)] := y_3064.sm (Sm.keep K_3068 (ninS n_2806 (ninS n_2898 (ninS n_2906 nin0))))
      have t_3094 : a_2145 < h_3065.size := Nat.lt_of_lt_of_le t_2927 K_3068.1
      have t_3095 : a_2738 < h_3065.size := Nat.lt_of_lt_of_le t_2928 K_3068.1
      have t_3096 : a_2758 < h_3065.size := Nat.lt_of_lt_of_le t_2929 K_3068.1
      have t_3097 : o_2783 < h_3065.size := Nat.lt_of_lt_of_le t_2930 K_3068.1
      have t_3098 : a_2800 < h_3065.size := Nat.lt_of_lt_of_le t_2931 K_3068.1
      have t_3099 : e_2829 < h_3065.size := Nat.lt_of_lt_of_le t_2932 K_3068.1
      have t_3100 : p_2830 < h_3065.size := Nat.lt_of_lt_of_le t_2933 K_3068.1
      have t_3101 : o_2879 < h_3065.size := Nat.lt_of_lt_of_le t_2886 K_3068.1
      have t_3102 : b_2880 < h_3065.size := Nat.lt_of_lt_of_le t_2888 K_3068.1
      have z_3103 : n0 ≤ h_3065.size := Nat.le_trans z_2934 K_3068.1
      show Go _ _ _ _ _ _ _ _ _ _ _ _ h_3065 (0 + 0 + 1 + 1 + 0 + 1 + 0 + 1 + 1 + 2 + 6 + 0) (0 + 0 + 6 + 6 + 0 + 6 + 0 + 6 + 8 + 0 + 208 + 0) 279 #[.val (.int y0), .val (.int y1), .val (.int y2), .val (.int y3), .val (.int y4), .val (.int g_2119), .val (.int g_2121), .val (.int g_2123), .val (.int g_2125), .val (.int g_2127), .val (.int g_2129), .val (.int v0), .val (.int v_2134), .val (.int v_2136), .val (.int v_2138), .val (.int v_2140), .val (.int v_2142), .val (.ref a_2145), .val (.int rm_2183), .val (.int qm_2184), .val (.int key_2185), .val (.int oth_2187), .val (.int 1), .val (.ref a_2738), .val (.int 3), .val (.ref a_2758), .val (.int nQQ), .val (.ref o_2783), .val (.ref a_2800), .unset] []
      have hmask : (own_ca [x0, x1, x2] QQ = true ↔ (qm_2184 &&& (rm_2183 ^^^ (-1 : Int32))).toInt = 0) := by rw [← hgRR, ← hgQQ]; exact own_law rm_2183 qm_2184 v0 v_2134 v_2136 v_2138 v_2140 v_2142 hasc krm kqm
      refine Go.iload (pc' := 281) at_279 rfl rfl ?_
      refine Go.iload (pc' := 283) at_281 rfl rfl ?_
      refine Go.iconst (pc' := 284) (v := (-1 : Int32)) at_283 rfl rfl ?_
      refine Go.ixor (pc' := 285) at_284 rfl ?_
      refine Go.iand (pc' := 286) at_285 rfl ?_
      refine Go.ifc (pc1 := 293) (pc2 := 289) at_286 (by decide) (by decide) rfl (fun (c_3104 : (qm_2184 &&& (rm_2183 ^^^ (-1 : Int32))).toInt ≠ 0) => ?_) (fun (c_3104 : (qm_2184 &&& (rm_2183 ^^^ (-1 : Int32))).toInt = 0) => ?_)
      · refine Go.iconst (pc' := 294) (v := (0 : Int32)) at_293 rfl rfl ?_
        refine Go.istore (pc' := 296) (Ls' := #[.val (.int y0), .val (.int y1), .val (.int y2), .val (.int y3), .val (.int y4), .val (.int g_2119), .val (.int g_2121), .val (.int g_2123), .val (.int g_2125), .val (.int g_2127), .val (.int g_2129), .val (.int v0), .val (.int v_2134), .val (.int v_2136), .val (.int v_2138), .val (.int v_2140), .val (.int v_2142), .val (.ref a_2145), .val (.int rm_2183), .val (.int qm_2184), .val (.int key_2185), .val (.int oth_2187), .val (.int 1), .val (.ref a_2738), .val (.int 3), .val (.ref a_2758), .val (.int nQQ), .val (.ref o_2783), .val (.ref a_2800), .val (.int 0)]) at_294 rfl rfl ?_
        refine Go.aload (pc' := 298) at_296 rfl rfl rfl ?_
        refine Go.iload (pc' := 300) at_298 rfl rfl ?_
        refine Go.aload (pc' := 302) at_300 rfl rfl rfl ?_
        refine Go.callV (pc' := 305) (argsL := [(.int key_2185), (.ref o_2783)]) (rest := []) (W := 0) (own_w hw 109 rfl) (own_w hw 110 rfl) (own_w hw 112 rfl) (own_w hw 111 rfl) (own_w hw 16 rfl) (own_w hw 113 rfl) (by decide) f_3081 (m_caN l Z a0 hw a_2800 o_2879 b_2880 o_2783 key_2185 (7 : Int32) (3 : Int32) ((own_m1.set oth_2187.toInt.toNat (.int 0)).set key_2185.toInt.toNat (.int 7)) [(.int 6), (.int v0), (.int v_2134), (.int v_2136), (.int v_2138), (.int v_2140), (.int v_2142), (.int 3), (.int x0), (.int x1), (.int x2), (.int 0), (.int 0), (.int 0), (.int 0), (.int 0)] QQ [x0, x1, x2] h_3065 n0 z_3103 f_3081 F_3071 F_3072 A_3069 A_3070 f_3080 (by omega) (own_set_at _ _ _ (by rw [List.length_set, own_m1_len]; omega)) hlQQ (by decide) (by decide) rfl rfl (by show (3 : Nat) ≤ 6; decide) (own_pre _ _ _ rfl)) at_302 rfl pd15 rfl rfl (Nat.le_of_eq rfl) (by decide) (by decide) (by decide) (by decide) rfl ?_
        rintro _ _ ⟨r, rfl, rfl, hr, hr2⟩
        show Go _ _ _ _ _ _ _ _ _ _ _ _ h_3065 (0 + 0 + 1 + 1 + 0 + 1 + 0 + 1 + 1 + 2 + 6 + 0 + 0) (0 + 0 + 6 + 6 + 0 + 6 + 0 + 6 + 8 + 0 + 208 + 0 + 0) 305 #[.val (.int y0), .val (.int y1), .val (.int y2), .val (.int y3), .val (.int y4), .val (.int g_2119), .val (.int g_2121), .val (.int g_2123), .val (.int g_2125), .val (.int g_2127), .val (.int g_2129), .val (.int v0), .val (.int v_2134), .val (.int v_2136), .val (.int v_2138), .val (.int v_2140), .val (.int v_2142), .val (.ref a_2145), .val (.int rm_2183), .val (.int qm_2184), .val (.int key_2185), .val (.int oth_2187), .val (.int 1), .val (.ref a_2738), .val (.int 3), .val (.ref a_2758), .val (.int nQQ), .val (.ref o_2783), .val (.ref a_2800), .val (.int 0)] [(.int r)]
        have z0 : (0 : Int32).toInt = 0 := rfl
        have z1 : (1 : Int32).toInt = 1 := rfl
        rw [hmask] at hr2
        refine Go.iload (pc' := 307) at_305 rfl rfl ?_
        refine Go.icmp (pc1 := 314) (pc2 := 310) at_307 (by decide) (by decide) rfl (fun (c_3105 : r.toInt ≠ (0 : Int)) => ?_) (fun (c_3105 : r.toInt = (0 : Int)) => ?_)
        · exact absurd (by omega) c_3105
        refine Go.iconst (pc' := 311) (v := (1 : Int32)) at_310 rfl rfl ?_
        refine Go.goto (pc' := 315) at_311 (by decide) (by decide) ?_
        exact Go.retN (t := .boolean) at_315 rfl (by simp) rfl rfl (by decide) (by decide)
      · refine Go.iconst (pc' := 290) (v := (1 : Int32)) at_289 rfl rfl ?_
        refine Go.goto (pc' := 294) at_290 (by decide) (by decide) ?_
        refine Go.istore (pc' := 296) (Ls' := #[.val (.int y0), .val (.int y1), .val (.int y2), .val (.int y3), .val (.int y4), .val (.int g_2119), .val (.int g_2121), .val (.int g_2123), .val (.int g_2125), .val (.int g_2127), .val (.int g_2129), .val (.int v0), .val (.int v_2134), .val (.int v_2136), .val (.int v_2138), .val (.int v_2140), .val (.int v_2142), .val (.ref a_2145), .val (.int rm_2183), .val (.int qm_2184), .val (.int key_2185), .val (.int oth_2187), .val (.int 1), .val (.ref a_2738), .val (.int 3), .val (.ref a_2758), .val (.int nQQ), .val (.ref o_2783), .val (.ref a_2800), .val (.int 1)]) at_294 rfl rfl ?_
        refine Go.aload (pc' := 298) at_296 rfl rfl rfl ?_
        refine Go.iload (pc' := 300) at_298 rfl rfl ?_
        refine Go.aload (pc' := 302) at_300 rfl rfl rfl ?_
        refine Go.callV (pc' := 305) (argsL := [(.int key_2185), (.ref o_2783)]) (rest := []) (W := 0) (own_w hw 109 rfl) (own_w hw 110 rfl) (own_w hw 112 rfl) (own_w hw 111 rfl) (own_w hw 16 rfl) (own_w hw 113 rfl) (by decide) f_3081 (m_caN l Z a0 hw a_2800 o_2879 b_2880 o_2783 key_2185 (7 : Int32) (3 : Int32) ((own_m1.set oth_2187.toInt.toNat (.int 0)).set key_2185.toInt.toNat (.int 7)) [(.int 6), (.int v0), (.int v_2134), (.int v_2136), (.int v_2138), (.int v_2140), (.int v_2142), (.int 3), (.int x0), (.int x1), (.int x2), (.int 0), (.int 0), (.int 0), (.int 0), (.int 0)] QQ [x0, x1, x2] h_3065 n0 z_3103 f_3081 F_3071 F_3072 A_3069 A_3070 f_3080 (by omega) (own_set_at _ _ _ (by rw [List.length_set, own_m1_len]; omega)) hlQQ (by decide) (by decide) rfl rfl (by show (3 : Nat) ≤ 6; decide) (own_pre _ _ _ rfl)) at_302 rfl pd15 rfl rfl (Nat.le_of_eq rfl) (by decide) (by decide) (by decide) (by decide) rfl ?_
        rintro _ _ ⟨r, rfl, rfl, hr, hr2⟩
        show Go _ _ _ _ _ _ _ _ _ _ _ _ h_3065 (0 + 0 + 1 + 1 + 0 + 1 + 0 + 1 + 1 + 2 + 6 + 0 + 0) (0 + 0 + 6 + 6 + 0 + 6 + 0 + 6 + 8 + 0 + 208 + 0 + 0) 305 #[.val (.int y0), .val (.int y1), .val (.int y2), .val (.int y3), .val (.int y4), .val (.int g_2119), .val (.int g_2121), .val (.int g_2123), .val (.int g_2125), .val (.int g_2127), .val (.int g_2129), .val (.int v0), .val (.int v_2134), .val (.int v_2136), .val (.int v_2138), .val (.int v_2140), .val (.int v_2142), .val (.ref a_2145), .val (.int rm_2183), .val (.int qm_2184), .val (.int key_2185), .val (.int oth_2187), .val (.int 1), .val (.ref a_2738), .val (.int 3), .val (.ref a_2758), .val (.int nQQ), .val (.ref o_2783), .val (.ref a_2800), .val (.int 1)] [(.int r)]
        have z0 : (0 : Int32).toInt = 0 := rfl
        have z1 : (1 : Int32).toInt = 1 := rfl
        rw [hmask] at hr2
        refine Go.iload (pc' := 307) at_305 rfl rfl ?_
        refine Go.icmp (pc1 := 314) (pc2 := 310) at_307 (by decide) (by decide) rfl (fun (c_3106 : r.toInt ≠ (1 : Int)) => ?_) (fun (c_3106 : r.toInt = (1 : Int)) => ?_)
        · exact absurd (by omega) c_3106
        refine Go.iconst (pc' := 311) (v := (1 : Int32)) at_310 rfl rfl ?_
        refine Go.goto (pc' := 315) at_311 (by decide) (by decide) ?_
        exact Go.retN (t := .boolean) at_315 rfl (by simp) rfl rfl (by decide) (by decide)
    · obtain rfl : nRR = (4 : Int32) := Int32.toInt_inj.mp hnRR
      have y_3107 : Ary Z h_2878 a_2738 .int [(.int x0), (.int x1), (.int x2), (.int x3), (.int 0), (.int 0)] := f_2914
      show Go _ _ _ _ _ _ _ _ _ _ _ _ h_2878 (0 + 0 + 1 + 1 + 0 + 1 + 0 + 1 + 1 + 2 + 6) (0 + 0 + 6 + 6 + 0 + 6 + 0 + 6 + 8 + 0 + 208) 276 #[.val (.int y0), .val (.int y1), .val (.int y2), .val (.int y3), .val (.int y4), .val (.int g_2119), .val (.int g_2121), .val (.int g_2123), .val (.int g_2125), .val (.int g_2127), .val (.int g_2129), .val (.int v0), .val (.int v_2134), .val (.int v_2136), .val (.int v_2138), .val (.int v_2140), .val (.int v_2142), .val (.ref a_2145), .val (.int rm_2183), .val (.int qm_2184), .val (.int key_2185), .val (.int oth_2187), .val (.int 1), .val (.ref a_2738), .val (.int 4), .val (.ref a_2758), .val (.int nQQ), .val (.ref o_2783), .val (.ref a_2800), .unset] [(.int 4), (.int 0), (.ref a_2738), (.int key_2185), (.ref a_2800)]
      refine Go.callV (pc' := 279) (argsL := [(.int key_2185), (.ref a_2738), (.int 0), (.int 4)]) (rest := []) (W := 0) (own_w hw 30 rfl) (own_w hw 31 rfl) (own_w hw 33 rfl) (own_w hw 32 rfl) (own_w hw 16 rfl) (own_w hw 34 rfl) (by decide) f_2917 (m_set1_4 l Z a0 hw a_2800 o_2879 b_2880 a_2738 ky_2881 key_2185 x0 x1 x2 x3 (0 : Int32) (0 : Int32) v0 v_2134 v_2136 v_2138 v_2140 v_2142 (own_m1.set oth_2187.toInt.toNat (.int 0)) h_2878 n0 z_2934 f_2917 F_2890 F_2891 F_2892 F_2893 F_2894 F_2895 F_2896 g_2809 A_2883 (by rw [List.length_set]; exact own_m1_len) (by omega) (by omega) (own_set_ne _ _ _ (by omega) (by omega)) g_2904 n_2901 A_2884 g_2912 n_2909 ne_2889 y_3107 n_2806.symm n_2898 n_2906) at_276 rfl pd14 rfl rfl (Nat.le_of_eq rfl) (by decide) (by decide) (by decide) (by decide) rfl ?_
      rintro _ h_3108 ⟨rfl, ky_3109, s_3110, K_3111, F_3114, F_3115, F_3116, F_3117, F_3118, F_3119, F_3120, A_3112, A_3113⟩
      have f_3121 : Ary Z h_3108 a_2145 .int [(.int v0), (.int v_2134), (.int v_2136), (.int v_2138), (.int v_2140), (.int v_2142)] := f_2913.sm (Sm.keep K_3111 (ninS n_2805 (ninS n_2897 (ninS n_2905 nin0))))
      have f_3122 : Ary Z h_3108 a_2758 .int (own_pad QQ) := f_2915.sm (Sm.keep K_3111 (ninS n_2807 (ninS n_2899 (ninS n_2907 nin0))))
      have f_3123 : Ary Z h_3108 o_2783 .int (QQ.map Value.int) := f_2916.sm (Sm.keep K_3111 (ninS n_2808 (ninS n_2900 (ninS n_2908 nin0))))
      have f_3124 : Exa Z h_3108 a_2800 "com/example/nearword/nearword/internal/index/IntRuns" := f_2917.keep K_3111
      have f_3125 : Ary Z h_3108 e_2829 .int [] := f_2925.sm (Sm.keep K_3111 (ninS n_2850.symm (ninS n_2902 (ninS n_2910 nin0))))
      have f_3126 : Ary Z h_3108 p_2830 .int [] := f_2926.sm (Sm.keep K_3111 (ninS n_2856.symm (ninS n_2903 (ninS n_2911 nin0))))
      have f_3136 : Ary Z h_3108 a_2738 .int [(.int x0), (.int x1), (.int x2), (.int x3), (.int 0), (.int 0)] := y_3107.sm (Sm.keep K_3111 (ninS n_2806 (ninS n_2898 (ninS n_2906 nin0))))
      have t_3137 : a_2145 < h_3108.size := Nat.lt_of_lt_of_le t_2927 K_3111.1
      have t_3138 : a_2738 < h_3108.size := Nat.lt_of_lt_of_le t_2928 K_3111.1
      have t_3139 : a_2758 < h_3108.size := Nat.lt_of_lt_of_le t_2929 K_3111.1
      have t_3140 : o_2783 < h_3108.size := Nat.lt_of_lt_of_le t_2930 K_3111.1
      have t_3141 : a_2800 < h_3108.size := Nat.lt_of_lt_of_le t_2931 K_3111.1
      have t_3142 : e_2829 < h_3108.size := Nat.lt_of_lt_of_le t_2932 K_3111.1
      have t_3143 : p_2830 < h_3108.size := Nat.lt_of_lt_of_le t_2933 K_3111.1
      have t_3144 : o_2879 < h_3108.size := Nat.lt_of_lt_of_le t_2886 K_3111.1
      have t_3145 : b_2880 < h_3108.size := Nat.lt_of_lt_of_le t_2888 K_3111.1
      have z_3146 : n0 ≤ h_3108.size := Nat.le_trans z_2934 K_3111.1
      show Go _ _ _ _ _ _ _ _ _ _ _ _ h_3108 (0 + 0 + 1 + 1 + 0 + 1 + 0 + 1 + 1 + 2 + 6 + 0) (0 + 0 + 6 + 6 + 0 + 6 + 0 + 6 + 8 + 0 + 208 + 0) 279 #[.val (.int y0), .val (.int y1), .val (.int y2), .val (.int y3), .val (.int y4), .val (.int g_2119), .val (.int g_2121), .val (.int g_2123), .val (.int g_2125), .val (.int g_2127), .val (.int g_2129), .val (.int v0), .val (.int v_2134), .val (.int v_2136), .val (.int v_2138), .val (.int v_2140), .val (.int v_2142), .val (.ref a_2145), .val (.int rm_2183), .val (.int qm_2184), .val (.int key_2185), .val (.int oth_2187), .val (.int 1), .val (.ref a_2738), .val (.int 4), .val (.ref a_2758), .val (.int nQQ), .val (.ref o_2783), .val (.ref a_2800), .unset] []
      have hmask : (own_ca [x0, x1, x2, x3] QQ = true ↔ (qm_2184 &&& (rm_2183 ^^^ (-1 : Int32))).toInt = 0) := by rw [← hgRR, ← hgQQ]; exact own_law rm_2183 qm_2184 v0 v_2134 v_2136 v_2138 v_2140 v_2142 hasc krm kqm
      refine Go.iload (pc' := 281) at_279 rfl rfl ?_
      refine Go.iload (pc' := 283) at_281 rfl rfl ?_
      refine Go.iconst (pc' := 284) (v := (-1 : Int32)) at_283 rfl rfl ?_
      refine Go.ixor (pc' := 285) at_284 rfl ?_
      refine Go.iand (pc' := 286) at_285 rfl ?_
      refine Go.ifc (pc1 := 293) (pc2 := 289) at_286 (by decide) (by decide) rfl (fun (c_3147 : (qm_2184 &&& (rm_2183 ^^^ (-1 : Int32))).toInt ≠ 0) => ?_) (fun (c_3147 : (qm_2184 &&& (rm_2183 ^^^ (-1 : Int32))).toInt = 0) => ?_)
      · refine Go.iconst (pc' := 294) (v := (0 : Int32)) at_293 rfl rfl ?_
        refine Go.istore (pc' := 296) (Ls' := #[.val (.int y0), .val (.int y1), .val (.int y2), .val (.int y3), .val (.int y4), .val (.int g_2119), .val (.int g_2121), .val (.int g_2123), .val (.int g_2125), .val (.int g_2127), .val (.int g_2129), .val (.int v0), .val (.int v_2134), .val (.int v_2136), .val (.int v_2138), .val (.int v_2140), .val (.int v_2142), .val (.ref a_2145), .val (.int rm_2183), .val (.int qm_2184), .val (.int key_2185), .val (.int oth_2187), .val (.int 1), .val (.ref a_2738), .val (.int 4), .val (.ref a_2758), .val (.int nQQ), .val (.ref o_2783), .val (.ref a_2800), .val (.int 0)]) at_294 rfl rfl ?_
        refine Go.aload (pc' := 298) at_296 rfl rfl rfl ?_
        refine Go.iload (pc' := 300) at_298 rfl rfl ?_
        refine Go.aload (pc' := 302) at_300 rfl rfl rfl ?_
        refine Go.callV (pc' := 305) (argsL := [(.int key_2185), (.ref o_2783)]) (rest := []) (W := 0) (own_w hw 109 rfl) (own_w hw 110 rfl) (own_w hw 112 rfl) (own_w hw 111 rfl) (own_w hw 16 rfl) (own_w hw 113 rfl) (by decide) f_3124 (m_caN l Z a0 hw a_2800 o_2879 b_2880 o_2783 key_2185 (7 : Int32) (4 : Int32) ((own_m1.set oth_2187.toInt.toNat (.int 0)).set key_2185.toInt.toNat (.int 7)) [(.int 6), (.int v0), (.int v_2134), (.int v_2136), (.int v_2138), (.int v_2140), (.int v_2142), (.int 4), (.int x0), (.int x1), (.int x2), (.int x3), (.int 0), (.int 0), (.int 0), (.int 0)] QQ [x0, x1, x2, x3] h_3108 n0 z_3146 f_3124 F_3114 F_3115 A_3112 A_3113 f_3123 (by omega) (own_set_at _ _ _ (by rw [List.length_set, own_m1_len]; omega)) hlQQ (by decide) (by decide) rfl rfl (by show (4 : Nat) ≤ 6; decide) (own_pre _ _ _ rfl)) at_302 rfl pd15 rfl rfl (Nat.le_of_eq rfl) (by decide) (by decide) (by decide) (by decide) rfl ?_
        rintro _ _ ⟨r, rfl, rfl, hr, hr2⟩
        show Go _ _ _ _ _ _ _ _ _ _ _ _ h_3108 (0 + 0 + 1 + 1 + 0 + 1 + 0 + 1 + 1 + 2 + 6 + 0 + 0) (0 + 0 + 6 + 6 + 0 + 6 + 0 + 6 + 8 + 0 + 208 + 0 + 0) 305 #[.val (.int y0), .val (.int y1), .val (.int y2), .val (.int y3), .val (.int y4), .val (.int g_2119), .val (.int g_2121), .val (.int g_2123), .val (.int g_2125), .val (.int g_2127), .val (.int g_2129), .val (.int v0), .val (.int v_2134), .val (.int v_2136), .val (.int v_2138), .val (.int v_2140), .val (.int v_2142), .val (.ref a_2145), .val (.int rm_2183), .val (.int qm_2184), .val (.int key_2185), .val (.int oth_2187), .val (.int 1), .val (.ref a_2738), .val (.int 4), .val (.ref a_2758), .val (.int nQQ), .val (.ref o_2783), .val (.ref a_2800), .val (.int 0)] [(.int r)]
        have z0 : (0 : Int32).toInt = 0 := rfl
        have z1 : (1 : Int32).toInt = 1 := rfl
        rw [hmask] at hr2
        refine Go.iload (pc' := 307) at_305 rfl rfl ?_
        refine Go.icmp (pc1 := 314) (pc2 := 310) at_307 (by decide) (by decide) rfl (fun (c_3148 : r.toInt ≠ (0 : Int)) => ?_) (fun (c_3148 : r.toInt = (0 : Int)) => ?_)
        · exact absurd (by omega) c_3148
        refine Go.iconst (pc' := 311) (v := (1 : Int32)) at_310 rfl rfl ?_
        refine Go.goto (pc' := 315) at_311 (by decide) (by decide) ?_
        exact Go.retN (t := .boolean) at_315 rfl (by simp) rfl rfl (by decide) (by decide)
      · refine Go.iconst (pc' := 290) (v := (1 : Int32)) at_289 rfl rfl ?_
        refine Go.goto (pc' := 294) at_290 (by decide) (by decide) ?_
        refine Go.istore (pc' := 296) (Ls' := #[.val (.int y0), .val (.int y1), .val (.int y2), .val (.int y3), .val (.int y4), .val (.int g_2119), .val (.int g_2121), .val (.int g_2123), .val (.int g_2125), .val (.int g_2127), .val (.int g_2129), .val (.int v0), .val (.int v_2134), .val (.int v_2136), .val (.int v_2138), .val (.int v_2140), .val (.int v_2142), .val (.ref a_2145), .val (.int rm_2183), .val (.int qm_2184), .val (.int key_2185), .val (.int oth_2187), .val (.int 1), .val (.ref a_2738), .val (.int 4), .val (.ref a_2758), .val (.int nQQ), .val (.ref o_2783), .val (.ref a_2800), .val (.int 1)]) at_294 rfl rfl ?_
        refine Go.aload (pc' := 298) at_296 rfl rfl rfl ?_
        refine Go.iload (pc' := 300) at_298 rfl rfl ?_
        refine Go.aload (pc' := 302) at_300 rfl rfl rfl ?_
        refine Go.callV (pc' := 305) (argsL := [(.int key_2185), (.ref o_2783)]) (rest := []) (W := 0) (own_w hw 109 rfl) (own_w hw 110 rfl) (own_w hw 112 rfl) (own_w hw 111 rfl) (own_w hw 16 rfl) (own_w hw 113 rfl) (by decide) f_3124 (m_caN l Z a0 hw a_2800 o_2879 b_2880 o_2783 key_2185 (7 : Int32) (4 : Int32) ((own_m1.set oth_2187.toInt.toNat (.int 0)).set key_2185.toInt.toNat (.int 7)) [(.int 6), (.int v0), (.int v_2134), (.int v_2136), (.int v_2138), (.int v_2140), (.int v_2142), (.int 4), (.int x0), (.int x1), (.int x2), (.int x3), (.int 0), (.int 0), (.int 0), (.int 0)] QQ [x0, x1, x2, x3] h_3108 n0 z_3146 f_3124 F_3114 F_3115 A_3112 A_3113 f_3123 (by omega) (own_set_at _ _ _ (by rw [List.length_set, own_m1_len]; omega)) hlQQ (by decide) (by decide) rfl rfl (by show (4 : Nat) ≤ 6; decide) (own_pre _ _ _ rfl)) at_302 rfl pd15 rfl rfl (Nat.le_of_eq rfl) (by decide) (by decide) (by decide) (by decide) rfl ?_
        rintro _ _ ⟨r, rfl, rfl, hr, hr2⟩
        show Go _ _ _ _ _ _ _ _ _ _ _ _ h_3108 (0 + 0 + 1 + 1 + 0 + 1 + 0 + 1 + 1 + 2 + 6 + 0 + 0) (0 + 0 + 6 + 6 + 0 + 6 + 0 + 6 + 8 + 0 + 208 + 0 + 0) 305 #[.val (.int y0), .val (.int y1), .val (.int y2), .val (.int y3), .val (.int y4), .val (.int g_2119), .val (.int g_2121), .val (.int g_2123), .val (.int g_2125), .val (.int g_2127), .val (.int g_2129), .val (.int v0), .val (.int v_2134), .val (.int v_2136), .val (.int v_2138), .val (.int v_2140), .val (.int v_2142), .val (.ref a_2145), .val (.int rm_2183), .val (.int qm_2184), .val (.int key_2185), .val (.int oth_2187), .val (.int 1), .val (.ref a_2738), .val (.int 4), .val (.ref a_2758), .val (.int nQQ), .val (.ref o_2783), .val (.ref a_2800), .val (.int 1)] [(.int r)]
        have z0 : (0 : Int32).toInt = 0 := rfl
        have z1 : (1 : Int32).toInt = 1 := rfl
        rw [hmask] at hr2
        refine Go.iload (pc' := 307) at_305 rfl rfl ?_
        refine Go.icmp (pc1 := 314) (pc2 := 310) at_307 (by decide) (by decide) rfl (fun (c_3149 : r.toInt ≠ (1 : Int)) => ?_) (fun (c_3149 : r.toInt = (1 : Int)) => ?_)
        · exact absurd (by omega) c_3149
        refine Go.iconst (pc' := 311) (v := (1 : Int32)) at_310 rfl rfl ?_
        refine Go.goto (pc' := 315) at_311 (by decide) (by decide) ?_
        exact Go.retN (t := .boolean) at_315 rfl (by simp) rfl rfl (by decide) (by decide)
    · obtain rfl : nRR = (5 : Int32) := Int32.toInt_inj.mp hnRR
      have y_3150 : Ary Z h_2878 a_2738 .int [(.int x0), (.int x1), (.int x2), (.int x3), (.int x4), (.int 0)] := f_2914
      show Go _ _ _ _ _ _ _ _ _ _ _ _ h_2878 (0 + 0 + 1 + 1 + 0 + 1 + 0 + 1 + 1 + 2 + 6) (0 + 0 + 6 + 6 + 0 + 6 + 0 + 6 + 8 + 0 + 208) 276 #[.val (.int y0), .val (.int y1), .val (.int y2), .val (.int y3), .val (.int y4), .val (.int g_2119), .val (.int g_2121), .val (.int g_2123), .val (.int g_2125), .val (.int g_2127), .val (.int g_2129), .val (.int v0), .val (.int v_2134), .val (.int v_2136), .val (.int v_2138), .val (.int v_2140), .val (.int v_2142), .val (.ref a_2145), .val (.int rm_2183), .val (.int qm_2184), .val (.int key_2185), .val (.int oth_2187), .val (.int 1), .val (.ref a_2738), .val (.int 5), .val (.ref a_2758), .val (.int nQQ), .val (.ref o_2783), .val (.ref a_2800), .unset] [(.int 5), (.int 0), (.ref a_2738), (.int key_2185), (.ref a_2800)]
      refine Go.callV (pc' := 279) (argsL := [(.int key_2185), (.ref a_2738), (.int 0), (.int 5)]) (rest := []) (W := 0) (own_w hw 30 rfl) (own_w hw 31 rfl) (own_w hw 33 rfl) (own_w hw 32 rfl) (own_w hw 16 rfl) (own_w hw 34 rfl) (by decide) f_2917 (m_set1_5 l Z a0 hw a_2800 o_2879 b_2880 a_2738 ky_2881 key_2185 x0 x1 x2 x3 x4 (0 : Int32) v0 v_2134 v_2136 v_2138 v_2140 v_2142 (own_m1.set oth_2187.toInt.toNat (.int 0)) h_2878 n0 z_2934 f_2917 F_2890 F_2891 F_2892 F_2893 F_2894 F_2895 F_2896 g_2809 A_2883 (by rw [List.length_set]; exact own_m1_len) (by omega) (by omega) (own_set_ne _ _ _ (by omega) (by omega)) g_2904 n_2901 A_2884 g_2912 n_2909 ne_2889 y_3150 n_2806.symm n_2898 n_2906) at_276 rfl pd14 rfl rfl (Nat.le_of_eq rfl) (by decide) (by decide) (by decide) (by decide) rfl ?_
      rintro _ h_3151 ⟨rfl, ky_3152, s_3153, K_3154, F_3157, F_3158, F_3159, F_3160, F_3161, F_3162, F_3163, A_3155, A_3156⟩
      have f_3164 : Ary Z h_3151 a_2145 .int [(.int v0), (.int v_2134), (.int v_2136), (.int v_2138), (.int v_2140), (.int v_2142)] := f_2913.sm (Sm.keep K_3154 (ninS n_2805 (ninS n_2897 (ninS n_2905 nin0))))
      have f_3165 : Ary Z h_3151 a_2758 .int (own_pad QQ) := f_2915.sm (Sm.keep K_3154 (ninS n_2807 (ninS n_2899 (ninS n_2907 nin0))))
      have f_3166 : Ary Z h_3151 o_2783 .int (QQ.map Value.int) := f_2916.sm (Sm.keep K_3154 (ninS n_2808 (ninS n_2900 (ninS n_2908 nin0))))
      have f_3167 : Exa Z h_3151 a_2800 "com/example/nearword/nearword/internal/index/IntRuns" := f_2917.keep K_3154
      have f_3168 : Ary Z h_3151 e_2829 .int [] := f_2925.sm (Sm.keep K_3154 (ninS n_2850.symm (ninS n_2902 (ninS n_2910 nin0))))
      have f_3169 : Ary Z h_3151 p_2830 .int [] := f_2926.sm (Sm.keep K_3154 (ninS n_2856.symm (ninS n_2903 (ninS n_2911 nin0))))
      have f_3179 : Ary Z h_3151 a_2738 .int [(.int x0), (.int x1), (.int x2), (.int x3), (.int x4), (.int 0)] := y_3150.sm (Sm.keep K_3154 (ninS n_2806 (ninS n_2898 (ninS n_2906 nin0))))
      have t_3180 : a_2145 < h_3151.size := Nat.lt_of_lt_of_le t_2927 K_3154.1
      have t_3181 : a_2738 < h_3151.size := Nat.lt_of_lt_of_le t_2928 K_3154.1
      have t_3182 : a_2758 < h_3151.size := Nat.lt_of_lt_of_le t_2929 K_3154.1
      have t_3183 : o_2783 < h_3151.size := Nat.lt_of_lt_of_le t_2930 K_3154.1
      have t_3184 : a_2800 < h_3151.size := Nat.lt_of_lt_of_le t_2931 K_3154.1
      have t_3185 : e_2829 < h_3151.size := Nat.lt_of_lt_of_le t_2932 K_3154.1
      have t_3186 : p_2830 < h_3151.size := Nat.lt_of_lt_of_le t_2933 K_3154.1
      have t_3187 : o_2879 < h_3151.size := Nat.lt_of_lt_of_le t_2886 K_3154.1
      have t_3188 : b_2880 < h_3151.size := Nat.lt_of_lt_of_le t_2888 K_3154.1
      have z_3189 : n0 ≤ h_3151.size := Nat.le_trans z_2934 K_3154.1
      show Go _ _ _ _ _ _ _ _ _ _ _ _ h_3151 (0 + 0 + 1 + 1 + 0 + 1 + 0 + 1 + 1 + 2 + 6 + 0) (0 + 0 + 6 + 6 + 0 + 6 + 0 + 6 + 8 + 0 + 208 + 0) 279 #[.val (.int y0), .val (.int y1), .val (.int y2), .val (.int y3), .val (.int y4), .val (.int g_2119), .val (.int g_2121), .val (.int g_2123), .val (.int g_2125), .val (.int g_2127), .val (.int g_2129), .val (.int v0), .val (.int v_2134), .val (.int v_2136), .val (.int v_2138), .val (.int v_2140), .val (.int v_2142), .val (.ref a_2145), .val (.int rm_2183), .val (.int qm_2184), .val (.int key_2185), .val (.int oth_2187), .val (.int 1), .val (.ref a_2738), .val (.int 5), .val (.ref a_2758), .val (.int nQQ), .val (.ref o_2783), .val (.ref a_2800), .unset] []
      have hmask : (own_ca [x0, x1, x2, x3, x4] QQ = true ↔ (qm_2184 &&& (rm_2183 ^^^ (-1 : Int32))).toInt = 0) := by rw [← hgRR, ← hgQQ]; exact own_law rm_2183 qm_2184 v0 v_2134 v_2136 v_2138 v_2140 v_2142 hasc krm kqm
      refine Go.iload (pc' := 281) at_279 rfl rfl ?_
      refine Go.iload (pc' := 283) at_281 rfl rfl ?_
      refine Go.iconst (pc' := 284) (v := (-1 : Int32)) at_283 rfl rfl ?_
      refine Go.ixor (pc' := 285) at_284 rfl ?_
      refine Go.iand (pc' := 286) at_285 rfl ?_
      refine Go.ifc (pc1 := 293) (pc2 := 289) at_286 (by decide) (by decide) rfl (fun (c_3190 : (qm_2184 &&& (rm_2183 ^^^ (-1 : Int32))).toInt ≠ 0) => ?_) (fun (c_3190 : (qm_2184 &&& (rm_2183 ^^^ (-1 : Int32))).toInt = 0) => ?_)
      · refine Go.iconst (pc' := 294) (v := (0 : Int32)) at_293 rfl rfl ?_
        refine Go.istore (pc' := 296) (Ls' := #[.val (.int y0), .val (.int y1), .val (.int y2), .val (.int y3), .val (.int y4), .val (.int g_2119), .val (.int g_2121), .val (.int g_2123), .val (.int g_2125), .val (.int g_2127), .val (.int g_2129), .val (.int v0), .val (.int v_2134), .val (.int v_2136), .val (.int v_2138), .val (.int v_2140), .val (.int v_2142), .val (.ref a_2145), .val (.int rm_2183), .val (.int qm_2184), .val (.int key_2185), .val (.int oth_2187), .val (.int 1), .val (.ref a_2738), .val (.int 5), .val (.ref a_2758), .val (.int nQQ), .val (.ref o_2783), .val (.ref a_2800), .val (.int 0)]) at_294 rfl rfl ?_
        refine Go.aload (pc' := 298) at_296 rfl rfl rfl ?_
        refine Go.iload (pc' := 300) at_298 rfl rfl ?_
        refine Go.aload (pc' := 302) at_300 rfl rfl rfl ?_
        refine Go.callV (pc' := 305) (argsL := [(.int key_2185), (.ref o_2783)]) (rest := []) (W := 0) (own_w hw 109 rfl) (own_w hw 110 rfl) (own_w hw 112 rfl) (own_w hw 111 rfl) (own_w hw 16 rfl) (own_w hw 113 rfl) (by decide) f_3167 (m_caN l Z a0 hw a_2800 o_2879 b_2880 o_2783 key_2185 (7 : Int32) (5 : Int32) ((own_m1.set oth_2187.toInt.toNat (.int 0)).set key_2185.toInt.toNat (.int 7)) [(.int 6), (.int v0), (.int v_2134), (.int v_2136), (.int v_2138), (.int v_2140), (.int v_2142), (.int 5), (.int x0), (.int x1), (.int x2), (.int x3), (.int x4), (.int 0), (.int 0), (.int 0)] QQ [x0, x1, x2, x3, x4] h_3151 n0 z_3189 f_3167 F_3157 F_3158 A_3155 A_3156 f_3166 (by omega) (own_set_at _ _ _ (by rw [List.length_set, own_m1_len]; omega)) hlQQ (by decide) (by decide) rfl rfl (by show (5 : Nat) ≤ 6; decide) (own_pre _ _ _ rfl)) at_302 rfl pd15 rfl rfl (Nat.le_of_eq rfl) (by decide) (by decide) (by decide) (by decide) rfl ?_
        rintro _ _ ⟨r, rfl, rfl, hr, hr2⟩
        show Go _ _ _ _ _ _ _ _ _ _ _ _ h_3151 (0 + 0 + 1 + 1 + 0 + 1 + 0 + 1 + 1 + 2 + 6 + 0 + 0) (0 + 0 + 6 + 6 + 0 + 6 + 0 + 6 + 8 + 0 + 208 + 0 + 0) 305 #[.val (.int y0), .val (.int y1), .val (.int y2), .val (.int y3), .val (.int y4), .val (.int g_2119), .val (.int g_2121), .val (.int g_2123), .val (.int g_2125), .val (.int g_2127), .val (.int g_2129), .val (.int v0), .val (.int v_2134), .val (.int v_2136), .val (.int v_2138), .val (.int v_2140), .val (.int v_2142), .val (.ref a_2145), .val (.int rm_2183), .val (.int qm_2184), .val (.int key_2185), .val (.int oth_2187), .val (.int 1), .val (.ref a_2738), .val (.int 5), .val (.ref a_2758), .val (.int nQQ), .val (.ref o_2783), .val (.ref a_2800), .val (.int 0)] [(.int r)]
        have z0 : (0 : Int32).toInt = 0 := rfl
        have z1 : (1 : Int32).toInt = 1 := rfl
        rw [hmask] at hr2
        refine Go.iload (pc' := 307) at_305 rfl rfl ?_
        refine Go.icmp (pc1 := 314) (pc2 := 310) at_307 (by decide) (by decide) rfl (fun (c_3191 : r.toInt ≠ (0 : Int)) => ?_) (fun (c_3191 : r.toInt = (0 : Int)) => ?_)
        · exact absurd (by omega) c_3191
        refine Go.iconst (pc' := 311) (v := (1 : Int32)) at_310 rfl rfl ?_
        refine Go.goto (pc' := 315) at_311 (by decide) (by decide) ?_
        exact Go.retN (t := .boolean) at_315 rfl (by simp) rfl rfl (by decide) (by decide)
      · refine Go.iconst (pc' := 290) (v := (1 : Int32)) at_289 rfl rfl ?_
        refine Go.goto (pc' := 294) at_290 (by decide) (by decide) ?_
        refine Go.istore (pc' := 296) (Ls' := #[.val (.int y0), .val (.int y1), .val (.int y2), .val (.int y3), .val (.int y4), .val (.int g_2119), .val (.int g_2121), .val (.int g_2123), .val (.int g_2125), .val (.int g_2127), .val (.int g_2129), .val (.int v0), .val (.int v_2134), .val (.int v_2136), .val (.int v_2138), .val (.int v_2140), .val (.int v_2142), .val (.ref a_2145), .val (.int rm_2183), .val (.int qm_2184), .val (.int key_2185), .val (.int oth_2187), .val (.int 1), .val (.ref a_2738), .val (.int 5), .val (.ref a_2758), .val (.int nQQ), .val (.ref o_2783), .val (.ref a_2800), .val (.int 1)]) at_294 rfl rfl ?_
        refine Go.aload (pc' := 298) at_296 rfl rfl rfl ?_
        refine Go.iload (pc' := 300) at_298 rfl rfl ?_
        refine Go.aload (pc' := 302) at_300 rfl rfl rfl ?_
        refine Go.callV (pc' := 305) (argsL := [(.int key_2185), (.ref o_2783)]) (rest := []) (W := 0) (own_w hw 109 rfl) (own_w hw 110 rfl) (own_w hw 112 rfl) (own_w hw 111 rfl) (own_w hw 16 rfl) (own_w hw 113 rfl) (by decide) f_3167 (m_caN l Z a0 hw a_2800 o_2879 b_2880 o_2783 key_2185 (7 : Int32) (5 : Int32) ((own_m1.set oth_2187.toInt.toNat (.int 0)).set key_2185.toInt.toNat (.int 7)) [(.int 6), (.int v0), (.int v_2134), (.int v_2136), (.int v_2138), (.int v_2140), (.int v_2142), (.int 5), (.int x0), (.int x1), (.int x2), (.int x3), (.int x4), (.int 0), (.int 0), (.int 0)] QQ [x0, x1, x2, x3, x4] h_3151 n0 z_3189 f_3167 F_3157 F_3158 A_3155 A_3156 f_3166 (by omega) (own_set_at _ _ _ (by rw [List.length_set, own_m1_len]; omega)) hlQQ (by decide) (by decide) rfl rfl (by show (5 : Nat) ≤ 6; decide) (own_pre _ _ _ rfl)) at_302 rfl pd15 rfl rfl (Nat.le_of_eq rfl) (by decide) (by decide) (by decide) (by decide) rfl ?_
        rintro _ _ ⟨r, rfl, rfl, hr, hr2⟩
        show Go _ _ _ _ _ _ _ _ _ _ _ _ h_3151 (0 + 0 + 1 + 1 + 0 + 1 + 0 + 1 + 1 + 2 + 6 + 0 + 0) (0 + 0 + 6 + 6 + 0 + 6 + 0 + 6 + 8 + 0 + 208 + 0 + 0) 305 #[.val (.int y0), .val (.int y1), .val (.int y2), .val (.int y3), .val (.int y4), .val (.int g_2119), .val (.int g_2121), .val (.int g_2123), .val (.int g_2125), .val (.int g_2127), .val (.int g_2129), .val (.int v0), .val (.int v_2134), .val (.int v_2136), .val (.int v_2138), .val (.int v_2140), .val (.int v_2142), .val (.ref a_2145), .val (.int rm_2183), .val (.int qm_2184), .val (.int key_2185), .val (.int oth_2187), .val (.int 1), .val (.ref a_2738), .val (.int 5), .val (.ref a_2758), .val (.int nQQ), .val (.ref o_2783), .val (.ref a_2800), .val (.int 1)] [(.int r)]
        have z0 : (0 : Int32).toInt = 0 := rfl
        have z1 : (1 : Int32).toInt = 1 := rfl
        rw [hmask] at hr2
        refine Go.iload (pc' := 307) at_305 rfl rfl ?_
        refine Go.icmp (pc1 := 314) (pc2 := 310) at_307 (by decide) (by decide) rfl (fun (c_3192 : r.toInt ≠ (1 : Int)) => ?_) (fun (c_3192 : r.toInt = (1 : Int)) => ?_)
        · exact absurd (by omega) c_3192
        refine Go.iconst (pc' := 311) (v := (1 : Int32)) at_310 rfl rfl ?_
        refine Go.goto (pc' := 315) at_311 (by decide) (by decide) ?_
        exact Go.retN (t := .boolean) at_315 rfl (by simp) rfl rfl (by decide) (by decide)
    · obtain rfl : nRR = (6 : Int32) := Int32.toInt_inj.mp hnRR
      have y_3193 : Ary Z h_2878 a_2738 .int [(.int x0), (.int x1), (.int x2), (.int x3), (.int x4), (.int x5)] := f_2914
      show Go _ _ _ _ _ _ _ _ _ _ _ _ h_2878 (0 + 0 + 1 + 1 + 0 + 1 + 0 + 1 + 1 + 2 + 6) (0 + 0 + 6 + 6 + 0 + 6 + 0 + 6 + 8 + 0 + 208) 276 #[.val (.int y0), .val (.int y1), .val (.int y2), .val (.int y3), .val (.int y4), .val (.int g_2119), .val (.int g_2121), .val (.int g_2123), .val (.int g_2125), .val (.int g_2127), .val (.int g_2129), .val (.int v0), .val (.int v_2134), .val (.int v_2136), .val (.int v_2138), .val (.int v_2140), .val (.int v_2142), .val (.ref a_2145), .val (.int rm_2183), .val (.int qm_2184), .val (.int key_2185), .val (.int oth_2187), .val (.int 1), .val (.ref a_2738), .val (.int 6), .val (.ref a_2758), .val (.int nQQ), .val (.ref o_2783), .val (.ref a_2800), .unset] [(.int 6), (.int 0), (.ref a_2738), (.int key_2185), (.ref a_2800)]
      refine Go.callV (pc' := 279) (argsL := [(.int key_2185), (.ref a_2738), (.int 0), (.int 6)]) (rest := []) (W := 0) (own_w hw 30 rfl) (own_w hw 31 rfl) (own_w hw 33 rfl) (own_w hw 32 rfl) (own_w hw 16 rfl) (own_w hw 34 rfl) (by decide) f_2917 (m_set1_6 l Z a0 hw a_2800 o_2879 b_2880 a_2738 ky_2881 key_2185 x0 x1 x2 x3 x4 x5 v0 v_2134 v_2136 v_2138 v_2140 v_2142 (own_m1.set oth_2187.toInt.toNat (.int 0)) h_2878 n0 z_2934 f_2917 F_2890 F_2891 F_2892 F_2893 F_2894 F_2895 F_2896 g_2809 A_2883 (by rw [List.length_set]; exact own_m1_len) (by omega) (by omega) (own_set_ne _ _ _ (by omega) (by omega)) g_2904 n_2901 A_2884 g_2912 n_2909 ne_2889 y_3193 n_2806.symm n_2898 n_2906) at_276 rfl pd14 rfl rfl (Nat.le_of_eq rfl) (by decide) (by decide) (by decide) (by decide) rfl ?_
      rintro _ h_3194 ⟨rfl, ky_3195, s_3196, K_3197, F_3200, F_3201, F_3202, F_3203, F_3204, F_3205, F_3206, A_3198, A_3199⟩
      have f_3207 : Ary Z h_3194 a_2145 .int [(.int v0), (.int v_2134), (.int v_2136), (.int v_2138), (.int v_2140), (.int v_2142)] := f_2913.sm (Sm.keep K_3197 (ninS n_2805 (ninS n_2897 (ninS n_2905 nin0))))
      have f_3208 : Ary Z h_3194 a_2758 .int (own_pad QQ) := f_2915.sm (Sm.keep K_3197 (ninS n_2807 (ninS n_2899 (ninS n_2907 nin0))))
      have f_3209 : Ary Z h_3194 o_2783 .int (QQ.map Value.int) := f_2916.sm (Sm.keep K_3197 (ninS n_2808 (ninS n_2900 (ninS n_2908 nin0))))
      have f_3210 : Exa Z h_3194 a_2800 "com/example/nearword/nearword/internal/index/IntRuns" := f_2917.keep K_3197
      have f_3211 : Ary Z h_3194 e_2829 .int [] := f_2925.sm (Sm.keep K_3197 (ninS n_2850.symm (ninS n_2902 (ninS n_2910 nin0))))
      have f_3212 : Ary Z h_3194 p_2830 .int [] := f_2926.sm (Sm.keep K_3197 (ninS n_2856.symm (ninS n_2903 (ninS n_2911 nin0))))
      have f_3222 : Ary Z h_3194 a_2738 .int [(.int x0), (.int x1), (.int x2), (.int x3), (.int x4), (.int x5)] := y_3193.sm (Sm.keep K_3197 (ninS n_2806 (ninS n_2898 (ninS n_2906 nin0))))
      have t_3223 : a_2145 < h_3194.size := Nat.lt_of_lt_of_le t_2927 K_3197.1
      have t_3224 : a_2738 < h_3194.size := Nat.lt_of_lt_of_le t_2928 K_3197.1
      have t_3225 : a_2758 < h_3194.size := Nat.lt_of_lt_of_le t_2929 K_3197.1
      have t_3226 : o_2783 < h_3194.size := Nat.lt_of_lt_of_le t_2930 K_3197.1
      have t_3227 : a_2800 < h_3194.size := Nat.lt_of_lt_of_le t_2931 K_3197.1
      have t_3228 : e_2829 < h_3194.size := Nat.lt_of_lt_of_le t_2932 K_3197.1
      have t_3229 : p_2830 < h_3194.size := Nat.lt_of_lt_of_le t_2933 K_3197.1
      have t_3230 : o_2879 < h_3194.size := Nat.lt_of_lt_of_le t_2886 K_3197.1
      have t_3231 : b_2880 < h_3194.size := Nat.lt_of_lt_of_le t_2888 K_3197.1
      have z_3232 : n0 ≤ h_3194.size := Nat.le_trans z_2934 K_3197.1
      show Go _ _ _ _ _ _ _ _ _ _ _ _ h_3194 (0 + 0 + 1 + 1 + 0 + 1 + 0 + 1 + 1 + 2 + 6 + 0) (0 + 0 + 6 + 6 + 0 + 6 + 0 + 6 + 8 + 0 + 208 + 0) 279 #[.val (.int y0), .val (.int y1), .val (.int y2), .val (.int y3), .val (.int y4), .val (.int g_2119), .val (.int g_2121), .val (.int g_2123), .val (.int g_2125), .val (.int g_2127), .val (.int g_2129), .val (.int v0), .val (.int v_2134), .val (.int v_2136), .val (.int v_2138), .val (.int v_2140), .val (.int v_2142), .val (.ref a_2145), .val (.int rm_2183), .val (.int qm_2184), .val (.int key_2185), .val (.int oth_2187), .val (.int 1), .val (.ref a_2738), .val (.int 6), .val (.ref a_2758), .val (.int nQQ), .val (.ref o_2783), .val (.ref a_2800), .unset] []
      have hmask : (own_ca [x0, x1, x2, x3, x4, x5] QQ = true ↔ (qm_2184 &&& (rm_2183 ^^^ (-1 : Int32))).toInt = 0) := by rw [← hgRR, ← hgQQ]; exact own_law rm_2183 qm_2184 v0 v_2134 v_2136 v_2138 v_2140 v_2142 hasc krm kqm
      refine Go.iload (pc' := 281) at_279 rfl rfl ?_
      refine Go.iload (pc' := 283) at_281 rfl rfl ?_
      refine Go.iconst (pc' := 284) (v := (-1 : Int32)) at_283 rfl rfl ?_
      refine Go.ixor (pc' := 285) at_284 rfl ?_
      refine Go.iand (pc' := 286) at_285 rfl ?_
      refine Go.ifc (pc1 := 293) (pc2 := 289) at_286 (by decide) (by decide) rfl (fun (c_3233 : (qm_2184 &&& (rm_2183 ^^^ (-1 : Int32))).toInt ≠ 0) => ?_) (fun (c_3233 : (qm_2184 &&& (rm_2183 ^^^ (-1 : Int32))).toInt = 0) => ?_)
      · refine Go.iconst (pc' := 294) (v := (0 : Int32)) at_293 rfl rfl ?_
        refine Go.istore (pc' := 296) (Ls' := #[.val (.int y0), .val (.int y1), .val (.int y2), .val (.int y3), .val (.int y4), .val (.int g_2119), .val (.int g_2121), .val (.int g_2123), .val (.int g_2125), .val (.int g_2127), .val (.int g_2129), .val (.int v0), .val (.int v_2134), .val (.int v_2136), .val (.int v_2138), .val (.int v_2140), .val (.int v_2142), .val (.ref a_2145), .val (.int rm_2183), .val (.int qm_2184), .val (.int key_2185), .val (.int oth_2187), .val (.int 1), .val (.ref a_2738), .val (.int 6), .val (.ref a_2758), .val (.int nQQ), .val (.ref o_2783), .val (.ref a_2800), .val (.int 0)]) at_294 rfl rfl ?_
        refine Go.aload (pc' := 298) at_296 rfl rfl rfl ?_
        refine Go.iload (pc' := 300) at_298 rfl rfl ?_
        refine Go.aload (pc' := 302) at_300 rfl rfl rfl ?_
        refine Go.callV (pc' := 305) (argsL := [(.int key_2185), (.ref o_2783)]) (rest := []) (W := 0) (own_w hw 109 rfl) (own_w hw 110 rfl) (own_w hw 112 rfl) (own_w hw 111 rfl) (own_w hw 16 rfl) (own_w hw 113 rfl) (by decide) f_3210 (m_caN l Z a0 hw a_2800 o_2879 b_2880 o_2783 key_2185 (7 : Int32) (6 : Int32) ((own_m1.set oth_2187.toInt.toNat (.int 0)).set key_2185.toInt.toNat (.int 7)) [(.int 6), (.int v0), (.int v_2134), (.int v_2136), (.int v_2138), (.int v_2140), (.int v_2142), (.int 6), (.int x0), (.int x1), (.int x2), (.int x3), (.int x4), (.int x5), (.int 0), (.int 0)] QQ [x0, x1, x2, x3, x4, x5] h_3194 n0 z_3232 f_3210 F_3200 F_3201 A_3198 A_3199 f_3209 (by omega) (own_set_at _ _ _ (by rw [List.length_set, own_m1_len]; omega)) hlQQ (by decide) (by decide) rfl rfl (by show (6 : Nat) ≤ 6; decide) (own_pre _ _ _ rfl)) at_302 rfl pd15 rfl rfl (Nat.le_of_eq rfl) (by decide) (by decide) (by decide) (by decide) rfl ?_
        rintro _ _ ⟨r, rfl, rfl, hr, hr2⟩
        show Go _ _ _ _ _ _ _ _ _ _ _ _ h_3194 (0 + 0 + 1 + 1 + 0 + 1 + 0 + 1 + 1 + 2 + 6 + 0 + 0) (0 + 0 + 6 + 6 + 0 + 6 + 0 + 6 + 8 + 0 + 208 + 0 + 0) 305 #[.val (.int y0), .val (.int y1), .val (.int y2), .val (.int y3), .val (.int y4), .val (.int g_2119), .val (.int g_2121), .val (.int g_2123), .val (.int g_2125), .val (.int g_2127), .val (.int g_2129), .val (.int v0), .val (.int v_2134), .val (.int v_2136), .val (.int v_2138), .val (.int v_2140), .val (.int v_2142), .val (.ref a_2145), .val (.int rm_2183), .val (.int qm_2184), .val (.int key_2185), .val (.int oth_2187), .val (.int 1), .val (.ref a_2738), .val (.int 6), .val (.ref a_2758), .val (.int nQQ), .val (.ref o_2783), .val (.ref a_2800), .val (.int 0)] [(.int r)]
        have z0 : (0 : Int32).toInt = 0 := rfl
        have z1 : (1 : Int32).toInt = 1 := rfl
        rw [hmask] at hr2
        refine Go.iload (pc' := 307) at_305 rfl rfl ?_
        refine Go.icmp (pc1 := 314) (pc2 := 310) at_307 (by decide) (by decide) rfl (fun (c_3234 : r.toInt ≠ (0 : Int)) => ?_) (fun (c_3234 : r.toInt = (0 : Int)) => ?_)
        · exact absurd (by omega) c_3234
        refine Go.iconst (pc' := 311) (v := (1 : Int32)) at_310 rfl rfl ?_
        refine Go.goto (pc' := 315) at_311 (by decide) (by decide) ?_
        exact Go.retN (t := .boolean) at_315 rfl (by simp) rfl rfl (by decide) (by decide)
      · refine Go.iconst (pc' := 290) (v := (1 : Int32)) at_289 rfl rfl ?_
        refine Go.goto (pc' := 294) at_290 (by decide) (by decide) ?_
        refine Go.istore (pc' := 296) (Ls' := #[.val (.int y0), .val (.int y1), .val (.int y2), .val (.int y3), .val (.int y4), .val (.int g_2119), .val (.int g_2121), .val (.int g_2123), .val (.int g_2125), .val (.int g_2127), .val (.int g_2129), .val (.int v0), .val (.int v_2134), .val (.int v_2136), .val (.int v_2138), .val (.int v_2140), .val (.int v_2142), .val (.ref a_2145), .val (.int rm_2183), .val (.int qm_2184), .val (.int key_2185), .val (.int oth_2187), .val (.int 1), .val (.ref a_2738), .val (.int 6), .val (.ref a_2758), .val (.int nQQ), .val (.ref o_2783), .val (.ref a_2800), .val (.int 1)]) at_294 rfl rfl ?_
        refine Go.aload (pc' := 298) at_296 rfl rfl rfl ?_
        refine Go.iload (pc' := 300) at_298 rfl rfl ?_
        refine Go.aload (pc' := 302) at_300 rfl rfl rfl ?_
        refine Go.callV (pc' := 305) (argsL := [(.int key_2185), (.ref o_2783)]) (rest := []) (W := 0) (own_w hw 109 rfl) (own_w hw 110 rfl) (own_w hw 112 rfl) (own_w hw 111 rfl) (own_w hw 16 rfl) (own_w hw 113 rfl) (by decide) f_3210 (m_caN l Z a0 hw a_2800 o_2879 b_2880 o_2783 key_2185 (7 : Int32) (6 : Int32) ((own_m1.set oth_2187.toInt.toNat (.int 0)).set key_2185.toInt.toNat (.int 7)) [(.int 6), (.int v0), (.int v_2134), (.int v_2136), (.int v_2138), (.int v_2140), (.int v_2142), (.int 6), (.int x0), (.int x1), (.int x2), (.int x3), (.int x4), (.int x5), (.int 0), (.int 0)] QQ [x0, x1, x2, x3, x4, x5] h_3194 n0 z_3232 f_3210 F_3200 F_3201 A_3198 A_3199 f_3209 (by omega) (own_set_at _ _ _ (by rw [List.length_set, own_m1_len]; omega)) hlQQ (by decide) (by decide) rfl rfl (by show (6 : Nat) ≤ 6; decide) (own_pre _ _ _ rfl)) at_302 rfl pd15 rfl rfl (Nat.le_of_eq rfl) (by decide) (by decide) (by decide) (by decide) rfl ?_
        rintro _ _ ⟨r, rfl, rfl, hr, hr2⟩
        show Go _ _ _ _ _ _ _ _ _ _ _ _ h_3194 (0 + 0 + 1 + 1 + 0 + 1 + 0 + 1 + 1 + 2 + 6 + 0 + 0) (0 + 0 + 6 + 6 + 0 + 6 + 0 + 6 + 8 + 0 + 208 + 0 + 0) 305 #[.val (.int y0), .val (.int y1), .val (.int y2), .val (.int y3), .val (.int y4), .val (.int g_2119), .val (.int g_2121), .val (.int g_2123), .val (.int g_2125), .val (.int g_2127), .val (.int g_2129), .val (.int v0), .val (.int v_2134), .val (.int v_2136), .val (.int v_2138), .val (.int v_2140), .val (.int v_2142), .val (.ref a_2145), .val (.int rm_2183), .val (.int qm_2184), .val (.int key_2185), .val (.int oth_2187), .val (.int 1), .val (.ref a_2738), .val (.int 6), .val (.ref a_2758), .val (.int nQQ), .val (.ref o_2783), .val (.ref a_2800), .val (.int 1)] [(.int r)]
        have z0 : (0 : Int32).toInt = 0 := rfl
        have z1 : (1 : Int32).toInt = 1 := rfl
        rw [hmask] at hr2
        refine Go.iload (pc' := 307) at_305 rfl rfl ?_
        refine Go.icmp (pc1 := 314) (pc2 := 310) at_307 (by decide) (by decide) rfl (fun (c_3235 : r.toInt ≠ (1 : Int)) => ?_) (fun (c_3235 : r.toInt = (1 : Int)) => ?_)
        · exact absurd (by omega) c_3235
        refine Go.iconst (pc' := 311) (v := (1 : Int32)) at_310 rfl rfl ?_
        refine Go.goto (pc' := 315) at_311 (by decide) (by decide) ?_
        exact Go.retN (t := .boolean) at_315 rfl (by simp) rfl rfl (by decide) (by decide)
set_option maxRecDepth 65536 in
set_option maxHeartbeats 40000000 in
theorem comes_1 {Post : Tables → Env → Array Value → State → Outcome → State → Prop} (hpost : ∀ tb e args s v u, (limb_1_1.after args s (.returned v) u = true ∧ limb_1_2.after args s (.returned v) u = true ∧ True) → Jvm.D.FramedW s (.returned v) u (Jvm.fieldLocs frame_1_writes args s ++ Jvm.arrayLocs frame_1_arrays args s ++ Jvm.staticLocs frame_1_statics s) 32 1280 → Post tb e args s (.returned v) u) :
    ArmFor flags0 classFile x code maxLocals ret World_1 tables_1 room_1 Calls_1 rest_1 Pre_1 Post := by
  intro l hfl _ _ p e ha hc hk s m args below hf hA hF happ hP
  obtain ⟨hcalls, hrest, hpre⟩ := hP
  obtain ⟨-, -, -, hnamed, -, -, -, hat⟩ := (Spec.applies_iff hf).mp happ
  obtain ⟨hg, hn⟩ := and_e (Cond.before_iff.mp (show (Jvm.Cond.and given_1 narrow_1).before args s = true from hpre))
  obtain ⟨h1, hg1⟩ := and_e hg
  obtain ⟨w0, w1, w2, w3, w4, rfl⟩ : ∃ w0 w1 w2 w3 w4 : Value, args = #[w0, w1, w2, w3, w4] := by
    have hs : args.size = 5 := by simpa [Cond.value, given_1] using h1
    obtain ⟨L⟩ := args
    match L, hs with
    | [w0, w1, w2, w3, w4], _ => exact ⟨w0, w1, w2, w3, w4, rfl⟩
  have hw := fun d (hd : d ∈ tables_1) => atoms_spec (ws := Jvm.Cond.code x code maxLocals ret :: tables_1) hat d (List.mem_cons_of_mem _ hd)
  have hfit : Fit s := fun {y c} hc i hi => by
    obtain ⟨ha, rfl⟩ := Array.getElem?_eq_some_iff.mp hc
    have q := List.all_eq_true.mp ((Array.all_eq_true_iff_forall_mem.mp hF) _ (Array.getElem_mem ha)) i (List.mem_range.mpr hi)
    simpa [Array.getElem?_eq_getElem hi] using q
  obtain ⟨b0, hg2⟩ := and_e hg1
  obtain ⟨i0, e0⟩ := is_v b0
  obtain rfl : w0 = (.int i0) := Option.some.inj e0
  obtain ⟨b1, hg3⟩ := and_e hg2
  obtain ⟨i1, e1⟩ := is_v b1
  obtain rfl : w1 = (.int i1) := Option.some.inj e1
  obtain ⟨b2, hg4⟩ := and_e hg3
  obtain ⟨i2, e2⟩ := is_v b2
  obtain rfl : w2 = (.int i2) := Option.some.inj e2
  obtain ⟨b3, hg5⟩ := and_e hg4
  obtain ⟨i3, e3⟩ := is_v b3
  obtain rfl : w3 = (.int i3) := Option.some.inj e3
  obtain ⟨i4, e4⟩ := is_v hg5
  obtain rfl : w4 = (.int i4) := Option.some.inj e4
  obtain ⟨n, o, h1, h2, h3, _, L, rfl, ⟨⟨rfl, -⟩, N⟩, hq⟩ := rm1 l s _ hw tables_1 i0 i1 i2 i3 i4 s.heap s.heap.size (Nat.le_refl _)  p e ha hc hk s m _ below hf ((Spec.applies_iff_loose hf).mp happ).1 ⟨rfl, State.Warmed39.refl s, rfl⟩ trivial
  refine ⟨n, _, h1, h2, h3, hpost _ _ _ _ _ _ ⟨Cond.after_iff.mpr rfl, Cond.after_iff.mpr (eq_i res_at (Term.int_eval (1)) rfl), trivial⟩ ⟨hq.1, hq.2.1, hq.2.2.1, (hq.2.2.2.sift fun y hy => Or.inr (N y hy)).mono (by decide) (by decide)⟩⟩
theorem main_1_1 : Claimed_1_1 := comes_1 fun _ _ _ _ _ _ h hF => ⟨h.1, hF⟩
theorem main_1_2 : Claimed_1_2 := comes_1 fun _ _ _ _ _ _ h hF => ⟨h.2.1, hF⟩
end Jvm.Pilot.@@N@@
namespace Jvm.Pilot.@@N@@
open Jvm Jvm.ClassFile Sem Op Lib Jvm.Free Jvm.Stand Jvm.Pilot.@@N@@.Jvm.D
/-! MADE BY PROGRAM (witnessworld.py) out of the Statement's table words and the real class files: 18 classes; the members and pool entries that the words name. The judged class is class 1, her method 1. -/
namespace start1
open Jvm.ClassFile
def u (s : String) : CpInfo := .utf8 (stringToUtf16 s)
/-- a pool by its gaps: so many unusable entries, then the entry; so many at the end -/
def gap : Nat → List CpInfo → List CpInfo
  | 0, r => r
  | n + 1, r => .unusable :: gap n r
def poolList (es : List (Nat × CpInfo)) (last : Nat) : List CpInfo := es.foldr (fun e r => gap e.1 (e.2 :: r)) (gap last [])
def pool (es : List (Nat × CpInfo)) (last : Nat) : Array CpInfo := ⟨poolList es last⟩
def fileOf (pool : Array CpInfo) (this : Nat) (attrs : Array Attribute := #[]) (ms : Array MethodInfo := #[]) (fl : Nat := 33) (sup : Nat := 0) (ifs : Array Nat := #[]) (fds : Array FieldInfo := #[]) : ClassFile where
  minorVersion := 0
  majorVersion := 65
  constantPool := pool
  accessFlags := fl
  thisClass := this
  superClass := sup
  interfaces := ifs
  fields := fds
  methods := ms
  attributes := attrs
def plain (name : String) (sup : Option ClassId) : Class where
  name := name
  kind := .ordinary
  loader := none
  accessFlags := 33
  super := sup
  interfaces := #[]
  cf := none
  fields := #[]
  methods := #[]
  instanceTypes := #[]
  staticTypes := #[]
  resolved := #[]
  callSites := []
  init := .initialized
  statics := none
  mirror := none

def pool0 : Array CpInfo := pool [(5, u "<init>"), (0, u "()V"), (1, .class_ 10), (1, u "java/lang/Object")] 113

def k0c0 : Code := { maxStack := 0, maxLocals := 1, code := object_method_1_code, exceptionTable := #[], attributes := #[] }
def k0m0 : Method := { name := "<init>", desc := "()V", sig := { parameters := [], returnType := none }, accessFlags := 1, code := some k0c0 }
/-- java/lang/Object -/
def k0 : Class := { plain "java/lang/Object" none with
  accessFlags := 33
  interfaces := #[]
  cf := some (fileOf pool0 8 #[] #[{ accessFlags := 1, nameIndex := 5, descriptorIndex := 6, attributes := #[] }] 33 0 #[] #[])
  fields := #[]
  methods := #[k0m0]
  instanceTypes := #[]
  staticTypes := #[]
  resolved := Array.replicate 124 none
  statics := none }

def pool1 : Array CpInfo := pool [(2, .class_ 4), (1, u "java/lang/Object"), (0, u "<init>"), (0, u "()V"), (0, .integer 2147483647), (2, .integer 2147483646), (0, .methodref 12 13), (0, .class_ 14), (0, .nameAndType 15 16), (0, u "java/lang/Math"), (0, u "min"), (0, u "(II)I"), (0, .methodref 18 19), (0, .class_ 20), (0, .nameAndType 21 22), (0, u "com/example/nearword/nearword/internal/index/IntRunsContainsAllPinLaw"), (0, u "pick"), (0, u "([II[I)I"), (0, .methodref 18 24), (0, .nameAndType 25 26), (0, u "exact"), (0, u "([II)[I"), (0, .class_ 28), (0, u "com/example/nearword/nearword/internal/index/IntRuns"), (0, .integer 1048576), (0, .methodref 27 31), (0, .nameAndType 5 32), (0, u "(I)V"), (0, .methodref 27 34), (0, .nameAndType 35 36), (0, u "set"), (0, u "(I[III)V"), (0, .methodref 27 38), (0, .nameAndType 39 40), (0, u "containsAll"), (0, u "(I[I)Z"), (2, u "law"), (0, u "(IIIII)Z")] 5

def k1m0 : Method := { name := "<init>", desc := "()V", sig := { parameters := [], returnType := none }, accessFlags := 2, code := none }
def k1c1 : Code := { maxStack := 5, maxLocals := 30, code := code, exceptionTable := #[], attributes := #[] }
def k1m1 : Method := { name := "law", desc := "(IIIII)Z", sig := { parameters := [.int, .int, .int, .int, .int], returnType := some .boolean }, accessFlags := 9, code := some k1c1 }
def k1c2 : Code := { maxStack := 4, maxLocals := 4, code := method_3_code, exceptionTable := #[], attributes := #[] }
def k1m2 : Method := { name := "pick", desc := "([II[I)I", sig := { parameters := [(.array .int), .int, (.array .int)], returnType := some .int }, accessFlags := 10, code := some k1c2 }
def k1c3 : Code := { maxStack := 5, maxLocals := 2, code := method_4_code, exceptionTable := #[], attributes := #[] }
def k1m3 : Method := { name := "exact", desc := "([II)[I", sig := { parameters := [(.array .int), .int], returnType := some (.array .int) }, accessFlags := 10, code := some k1c3 }
/-- com/example/nearword/nearword/internal/index/IntRunsContainsAllPinLaw -/
def k1 : Class := { plain "com/example/nearword/nearword/internal/index/IntRunsContainsAllPinLaw" (some 0) with
  accessFlags := 49
  interfaces := #[]
  cf := some (fileOf pool1 18 #[] #[{ accessFlags := 2, nameIndex := 5, descriptorIndex := 6, attributes := #[] }, { accessFlags := 9, nameIndex := 43, descriptorIndex := 44, attributes := #[] }, { accessFlags := 10, nameIndex := 21, descriptorIndex := 22, attributes := #[] }, { accessFlags := 10, nameIndex := 25, descriptorIndex := 26, attributes := #[] }] 49 2 #[] #[])
  fields := #[]
  methods := #[k1m0, k1m1, k1m2, k1m3]
  instanceTypes := #[]
  staticTypes := #[]
  resolved := Array.replicate 50 none
  statics := none }

def pool2 : Array CpInfo := pool [(1, .class_ 2), (0, u "java/lang/Math"), (1, .class_ 6), (1, u "java/lang/Object"), (0, u "<init>"), (0, u "()V"), (89, .class_ 100), (1, u "java/lang/Math$RandomNumberGeneratorHolder"), (20, u "(JJ)J"), (50, u "negativeZeroFloatBits"), (0, u "J"), (2, u "negativeZeroDoubleBits"), (21, u "max"), (2, u "min"), (43, u "$assertionsDisabled"), (0, u "Z"), (88, u "(II)I"), (2, u "twoToTheDoubleScaleDown"), (0, u "D"), (4, u "twoToTheDoubleScaleUp"), (9, u "E"), (3, u "PI"), (2, u "TAU"), (2, u "DEGREES_TO_RADIANS"), (0, u "RADIANS_TO_DEGREES")] 94

def k2m0 : Method := { name := "<init>", desc := "()V", sig := { parameters := [], returnType := none }, accessFlags := 2, code := none }
def k2c1 : Code := { maxStack := 2, maxLocals := 2, code := jdk_29_method_65_code, exceptionTable := #[], attributes := #[] }
def k2m1 : Method := { name := "max", desc := "(II)I", sig := { parameters := [.int, .int], returnType := some .int }, accessFlags := 9, code := some k2c1 }
def k2c2 : Code := { maxStack := 4, maxLocals := 4, code := jdk_29_method_66_code, exceptionTable := #[], attributes := #[] }
def k2m2 : Method := { name := "max", desc := "(JJ)J", sig := { parameters := [.long, .long], returnType := some .long }, accessFlags := 9, code := some k2c2 }
def k2c3 : Code := { maxStack := 2, maxLocals := 2, code := jdk_29_method_69_code, exceptionTable := #[], attributes := #[] }
def k2m3 : Method := { name := "min", desc := "(II)I", sig := { parameters := [.int, .int], returnType := some .int }, accessFlags := 9, code := some k2c3 }
def k2c4 : Code := { maxStack := 4, maxLocals := 4, code := jdk_29_method_70_code, exceptionTable := #[], attributes := #[] }
def k2m4 : Method := { name := "min", desc := "(JJ)J", sig := { parameters := [.long, .long], returnType := some .long }, accessFlags := 9, code := some k2c4 }
/-- java/lang/Math -/
def k2 : Class := { plain "java/lang/Math" (some 0) with
  accessFlags := 49
  interfaces := #[]
  cf := some (fileOf pool2 1 #[.nestMembers #[98]] #[{ accessFlags := 2, nameIndex := 7, descriptorIndex := 8, attributes := #[] }, { accessFlags := 9, nameIndex := 198, descriptorIndex := 335, attributes := #[] }, { accessFlags := 9, nameIndex := 198, descriptorIndex := 121, attributes := #[] }, { accessFlags := 9, nameIndex := 201, descriptorIndex := 335, attributes := #[] }, { accessFlags := 9, nameIndex := 201, descriptorIndex := 121, attributes := #[] }] 49 4 #[] #[{ accessFlags := 25, nameIndex := 354, descriptorIndex := 339, attributes := #[] }, { accessFlags := 25, nameIndex := 358, descriptorIndex := 339, attributes := #[] }, { accessFlags := 25, nameIndex := 361, descriptorIndex := 339, attributes := #[] }, { accessFlags := 26, nameIndex := 364, descriptorIndex := 339, attributes := #[] }, { accessFlags := 26, nameIndex := 365, descriptorIndex := 339, attributes := #[] }, { accessFlags := 26, nameIndex := 172, descriptorIndex := 173, attributes := #[] }, { accessFlags := 26, nameIndex := 176, descriptorIndex := 173, attributes := #[] }, { accessFlags := 8, nameIndex := 344, descriptorIndex := 339, attributes := #[] }, { accessFlags := 8, nameIndex := 338, descriptorIndex := 339, attributes := #[] }, { accessFlags := 4120, nameIndex := 245, descriptorIndex := 246, attributes := #[] }])
  fields := #[{ name := "E", type := .double, accessFlags := 25, slot := 0, constantValue := 0 }, { name := "PI", type := .double, accessFlags := 25, slot := 1, constantValue := 0 }, { name := "TAU", type := .double, accessFlags := 25, slot := 2, constantValue := 0 }, { name := "DEGREES_TO_RADIANS", type := .double, accessFlags := 26, slot := 3, constantValue := 0 }, { name := "RADIANS_TO_DEGREES", type := .double, accessFlags := 26, slot := 4, constantValue := 0 }, { name := "negativeZeroFloatBits", type := .long, accessFlags := 26, slot := 5, constantValue := 0 }, { name := "negativeZeroDoubleBits", type := .long, accessFlags := 26, slot := 6, constantValue := 0 }, { name := "twoToTheDoubleScaleUp", type := .double, accessFlags := 8, slot := 7, constantValue := 0 }, { name := "twoToTheDoubleScaleDown", type := .double, accessFlags := 8, slot := 8, constantValue := 0 }, { name := "$assertionsDisabled", type := .boolean, accessFlags := 4120, slot := 9, constantValue := 0 }]
  methods := #[k2m0, k2m1, k2m2, k2m3, k2m4]
  instanceTypes := #[]
  staticTypes := #[.double, .double, .double, .double, .double, .long, .long, .double, .double, .boolean]
  resolved := Array.replicate 460 none
  statics := none }

def pool3 : Array CpInfo := pool [(1, .class_ 2), (0, u "com/example/nearword/nearword/internal/index/Room"), (2, .class_ 7), (1, u "com/example/nearword/nearword/internal/index/IntRuns"), (0, u "<init>"), (0, u "(I)V"), (0, .methodref 11 12), (0, .class_ 13), (0, .nameAndType 8 14), (0, u "java/lang/Object"), (0, u "()V"), (0, .fieldref 5 16), (0, .nameAndType 17 18), (0, u "at"), (0, u "[I"), (0, .fieldref 5 20), (0, .nameAndType 21 18), (0, u "pool"), (0, .fieldref 5 23), (0, .nameAndType 24 25), (0, u "mostInts"), (0, u "I"), (0, .fieldref 5 27), (0, .nameAndType 28 25), (0, u "keys"), (19, .class_ 50), (1, u "java/util/Arrays"), (4, .fieldref 5 56), (0, .nameAndType 57 25), (0, u "poolSize"), (4, .methodref 5 63), (0, .nameAndType 64 65), (0, u "setOne"), (0, u "(II)V"), (0, .methodref 5 67), (0, .nameAndType 68 69), (0, u "place"), (0, u "(II)I"), (0, .methodref 71 72), (0, .class_ 73), (0, .nameAndType 74 75), (0, u "java/lang/System"), (0, u "arraycopy"), (0, u "(Ljava/lang/Object;ILjava/lang/Object;II)V"), (0, .methodref 5 77), (0, .nameAndType 78 14), (0, u "compactIfHalfLeft"), (4, .methodref 5 84), (0, .nameAndType 85 86), (0, u "makeRoom"), (0, u "(J)V"), (7, .fieldref 5 95), (0, .nameAndType 96 25), (0, u "poolLeft"), (0, .methodref 5 98), (0, .nameAndType 99 9), (0, u "leave"), (0, .methodref 5 101), (0, .nameAndType 102 9), (0, u "reserveKey"), (0, .methodref 1 104), (0, .nameAndType 105 106), (0, u "grown"), (0, u "(IJ)I"), (0, .methodref 5 108), (0, .nameAndType 109 9), (0, u "growKeys"), (0, .methodref 111 112), (0, .class_ 113), (0, .nameAndType 114 69), (0, u "java/lang/Math"), (0, u "max"), (0, .fieldref 5 116), (0, .nameAndType 117 25), (0, u "keysToCome"), (0, .fieldref 5 119), (0, .nameAndType 120 121), (0, u "mostIntsToCome"), (0, u "J"), (0, .methodref 111 123), (0, .nameAndType 114 124), (0, u "(JJ)J"), (0, .methodref 111 126), (0, .nameAndType 127 124), (0, u "min"), (0, .methodref 48 129), (0, .nameAndType 130 131), (0, u "copyOf"), (0, u "([II)[I"), (0, .methodref 48 133), (0, .nameAndType 134 135), (0, u "fill"), (0, u "([IIII)V"), (0, .long 9), (1, .long 8), (1, .methodref 1 141), (0, .nameAndType 105 142), (0, u "(IJI)I"), (3, u "NONE"), (8, u "containsAll"), (0, u "(I[I)Z"), (5, u "set"), (0, u "(I[III)V")] 10

def k3m0 : Method := { name := "<init>", desc := "()V", sig := { parameters := [], returnType := none }, accessFlags := 0, code := none }
def k3c1 : Code := { maxStack := 2, maxLocals := 2, code := prog_42_method_2_code, exceptionTable := #[], attributes := #[] }
def k3m1 : Method := { name := "<init>", desc := "(I)V", sig := { parameters := [.int], returnType := none }, accessFlags := 0, code := some k3c1 }
def k3c2 : Code := { maxStack := 3, maxLocals := 10, code := prog_42_method_7_code, exceptionTable := #[], attributes := #[] }
def k3m2 : Method := { name := "containsAll", desc := "(I[I)Z", sig := { parameters := [.int, (.array .int)], returnType := some .boolean }, accessFlags := 0, code := some k3c2 }
def k3c3 : Code := { maxStack := 5, maxLocals := 7, code := prog_42_method_13_code, exceptionTable := #[], attributes := #[] }
def k3m3 : Method := { name := "set", desc := "(I[III)V", sig := { parameters := [.int, (.array .int), .int, .int], returnType := none }, accessFlags := 0, code := some k3c3 }
def k3c4 : Code := { maxStack := 4, maxLocals := 3, code := prog_42_method_17_code, exceptionTable := #[], attributes := #[] }
def k3m4 : Method := { name := "setOne", desc := "(II)V", sig := { parameters := [.int, .int], returnType := none }, accessFlags := 0, code := some k3c4 }
def k3c5 : Code := { maxStack := 5, maxLocals := 4, code := prog_42_method_18_code, exceptionTable := #[], attributes := #[] }
def k3m5 : Method := { name := "place", desc := "(II)I", sig := { parameters := [.int, .int], returnType := some .int }, accessFlags := 2, code := some k3c5 }
def k3c6 : Code := { maxStack := 5, maxLocals := 3, code := prog_42_method_19_code, exceptionTable := #[], attributes := #[] }
def k3m6 : Method := { name := "leave", desc := "(I)V", sig := { parameters := [.int], returnType := none }, accessFlags := 2, code := some k3c6 }
def k3c7 : Code := { maxStack := 6, maxLocals := 2, code := prog_42_method_20_code, exceptionTable := #[], attributes := #[] }
def k3m7 : Method := { name := "reserveKey", desc := "(I)V", sig := { parameters := [.int], returnType := none }, accessFlags := 2, code := some k3c7 }
def k3c8 : Code := { maxStack := 4, maxLocals := 3, code := prog_42_method_23_code, exceptionTable := #[], attributes := #[] }
def k3m8 : Method := { name := "growKeys", desc := "(I)V", sig := { parameters := [.int], returnType := none }, accessFlags := 2, code := some k3c8 }
def k3c9 : Code := { maxStack := 8, maxLocals := 7, code := prog_42_method_24_code, exceptionTable := #[], attributes := #[] }
def k3m9 : Method := { name := "makeRoom", desc := "(J)V", sig := { parameters := [.long], returnType := none }, accessFlags := 2, code := some k3c9 }
def k3c10 : Code := { maxStack := 3, maxLocals := 1, code := prog_42_method_25_code, exceptionTable := #[], attributes := #[] }
def k3m10 : Method := { name := "compactIfHalfLeft", desc := "()V", sig := { parameters := [], returnType := none }, accessFlags := 2, code := some k3c10 }
/-- com/example/nearword/nearword/internal/index/IntRuns -/
def k3 : Class := { plain "com/example/nearword/nearword/internal/index/IntRuns" (some 0) with
  accessFlags := 48
  interfaces := #[]
  cf := some (fileOf pool3 5 #[] #[{ accessFlags := 0, nameIndex := 8, descriptorIndex := 14, attributes := #[] }, { accessFlags := 0, nameIndex := 8, descriptorIndex := 9, attributes := #[] }, { accessFlags := 0, nameIndex := 155, descriptorIndex := 156, attributes := #[] }, { accessFlags := 0, nameIndex := 162, descriptorIndex := 163, attributes := #[] }, { accessFlags := 0, nameIndex := 64, descriptorIndex := 65, attributes := #[] }, { accessFlags := 2, nameIndex := 68, descriptorIndex := 69, attributes := #[] }, { accessFlags := 2, nameIndex := 99, descriptorIndex := 9, attributes := #[] }, { accessFlags := 2, nameIndex := 102, descriptorIndex := 9, attributes := #[] }, { accessFlags := 2, nameIndex := 109, descriptorIndex := 9, attributes := #[] }, { accessFlags := 2, nameIndex := 85, descriptorIndex := 86, attributes := #[] }, { accessFlags := 2, nameIndex := 78, descriptorIndex := 14, attributes := #[] }] 48 11 #[] #[{ accessFlags := 26, nameIndex := 146, descriptorIndex := 25, attributes := #[] }, { accessFlags := 2, nameIndex := 17, descriptorIndex := 18, attributes := #[] }, { accessFlags := 2, nameIndex := 21, descriptorIndex := 18, attributes := #[] }, { accessFlags := 2, nameIndex := 28, descriptorIndex := 25, attributes := #[] }, { accessFlags := 2, nameIndex := 57, descriptorIndex := 25, attributes := #[] }, { accessFlags := 2, nameIndex := 96, descriptorIndex := 25, attributes := #[] }, { accessFlags := 2, nameIndex := 117, descriptorIndex := 25, attributes := #[] }, { accessFlags := 2, nameIndex := 120, descriptorIndex := 121, attributes := #[] }, { accessFlags := 18, nameIndex := 24, descriptorIndex := 25, attributes := #[] }])
  fields := #[{ name := "NONE", type := .int, accessFlags := 26, slot := 0, constantValue := 0 }, { name := "at", type := (.array .int), accessFlags := 2, slot := 0, constantValue := 0 }, { name := "pool", type := (.array .int), accessFlags := 2, slot := 1, constantValue := 0 }, { name := "keys", type := .int, accessFlags := 2, slot := 2, constantValue := 0 }, { name := "poolSize", type := .int, accessFlags := 2, slot := 3, constantValue := 0 }, { name := "poolLeft", type := .int, accessFlags := 2, slot := 4, constantValue := 0 }, { name := "keysToCome", type := .int, accessFlags := 2, slot := 5, constantValue := 0 }, { name := "mostIntsToCome", type := .long, accessFlags := 2, slot := 6, constantValue := 0 }, { name := "mostInts", type := .int, accessFlags := 18, slot := 7, constantValue := 0 }]
  methods := #[k3m0, k3m1, k3m2, k3m3, k3m4, k3m5, k3m6, k3m7, k3m8, k3m9, k3m10]
  instanceTypes := #[(.array .int), (.array .int), .int, .int, .int, .int, .long, .int]
  staticTypes := #[.int]
  resolved := Array.replicate 174 none
  statics := none }

def pool4 : Array CpInfo := pool [(4, .class_ 6), (1, u "java/lang/Object"), (0, u "<init>"), (0, u "()V"), (9, .string 19), (0, u "elements in one array"), (0, .methodref 21 22), (0, .class_ 23), (0, .nameAndType 24 25), (0, u "com/example/nearword/nearword/internal/index/Room"), (0, u "require"), (0, u "(JJLjava/lang/String;)V"), (0, .methodref 21 27), (0, .nameAndType 28 29), (0, u "requireElements"), (0, u "(JJ)V"), (0, .methodref 31 32), (0, .class_ 33), (0, .nameAndType 34 35), (0, u "java/lang/Math"), (0, u "max"), (0, u "(II)I"), (0, .methodref 31 37), (0, .nameAndType 34 38), (0, u "(JJ)J"), (0, .methodref 31 40), (0, .nameAndType 41 38), (0, u "min"), (0, .integer 2147483639), (0, .methodref 21 44), (0, .nameAndType 45 46), (0, u "grown"), (0, u "(IJI)I"), (0, u "MOST_ELEMENTS"), (0, u "I"), (4, u "(IJ)I")] 17

def k4m0 : Method := { name := "<init>", desc := "()V", sig := { parameters := [], returnType := none }, accessFlags := 2, code := none }
def k4c1 : Code := { maxStack := 5, maxLocals := 5, code := prog_62_method_2_code, exceptionTable := #[], attributes := #[] }
def k4m1 : Method := { name := "require", desc := "(JJLjava/lang/String;)V", sig := { parameters := [.long, .long, (.object "java/lang/String")], returnType := none }, accessFlags := 8, code := some k4c1 }
def k4c2 : Code := { maxStack := 5, maxLocals := 4, code := prog_62_method_3_code, exceptionTable := #[], attributes := #[] }
def k4m2 : Method := { name := "requireElements", desc := "(JJ)V", sig := { parameters := [.long, .long], returnType := none }, accessFlags := 9, code := some k4c2 }
def k4c3 : Code := { maxStack := 6, maxLocals := 6, code := prog_62_method_4_code, exceptionTable := #[], attributes := #[] }
def k4m3 : Method := { name := "grown", desc := "(IJI)I", sig := { parameters := [.int, .long, .int], returnType := some .int }, accessFlags := 8, code := some k4c3 }
def k4c4 : Code := { maxStack := 4, maxLocals := 3, code := prog_62_method_5_code, exceptionTable := #[], attributes := #[] }
def k4m4 : Method := { name := "grown", desc := "(IJ)I", sig := { parameters := [.int, .long], returnType := some .int }, accessFlags := 8, code := some k4c4 }
/-- com/example/nearword/nearword/internal/index/Room -/
def k4 : Class := { plain "com/example/nearword/nearword/internal/index/Room" (some 0) with
  accessFlags := 49
  interfaces := #[]
  cf := some (fileOf pool4 21 #[] #[{ accessFlags := 2, nameIndex := 7, descriptorIndex := 8, attributes := #[] }, { accessFlags := 8, nameIndex := 24, descriptorIndex := 25, attributes := #[] }, { accessFlags := 9, nameIndex := 28, descriptorIndex := 29, attributes := #[] }, { accessFlags := 8, nameIndex := 45, descriptorIndex := 46, attributes := #[] }, { accessFlags := 8, nameIndex := 45, descriptorIndex := 53, attributes := #[] }] 49 4 #[] #[{ accessFlags := 25, nameIndex := 47, descriptorIndex := 48, attributes := #[] }])
  fields := #[{ name := "MOST_ELEMENTS", type := .int, accessFlags := 25, slot := 0, constantValue := 0 }]
  methods := #[k4m0, k4m1, k4m2, k4m3, k4m4]
  instanceTypes := #[]
  staticTypes := #[.int]
  resolved := Array.replicate 71 none
  statics := none }

def pool5 : Array CpInfo := pool [(1, .class_ 2), (0, u "java/io/Serializable"), (0, .class_ 4), (0, u "java/lang/Object")] 2

/-- java/io/Serializable -/
def k5 : Class := { plain "java/io/Serializable" (some 0) with
  accessFlags := 1537
  interfaces := #[]
  cf := some (fileOf pool5 1 #[] #[] 1537 3 #[] #[])
  fields := #[]
  methods := #[]
  instanceTypes := #[]
  staticTypes := #[]
  resolved := Array.replicate 7 none
  statics := none }

def pool6 : Array CpInfo := pool [(1, .class_ 2), (0, u "java/lang/Comparable"), (0, .class_ 4), (0, u "java/lang/Object")] 7

/-- java/lang/Comparable -/
def k6 : Class := { plain "java/lang/Comparable" (some 0) with
  accessFlags := 1537
  interfaces := #[]
  cf := some (fileOf pool6 1 #[] #[] 1537 3 #[] #[])
  fields := #[]
  methods := #[]
  instanceTypes := #[]
  staticTypes := #[]
  resolved := Array.replicate 12 none
  statics := none }

def pool7 : Array CpInfo := pool [(2, .class_ 4), (1, u "java/lang/CharSequence"), (42, .class_ 48), (0, u "java/lang/CharSequence$1CodePointIterator"), (10, .class_ 60), (0, u "java/lang/CharSequence$1CharIterator"), (5, .class_ 67), (0, u "java/lang/Object")] 63

/-- java/lang/CharSequence -/
def k7 : Class := { plain "java/lang/CharSequence" (some 0) with
  accessFlags := 1537
  interfaces := #[]
  cf := some (fileOf pool7 2 #[.nestMembers #[47, 59]] #[] 1537 66 #[] #[])
  fields := #[]
  methods := #[]
  instanceTypes := #[]
  staticTypes := #[]
  resolved := Array.replicate 131 none
  statics := none }

def pool8 : Array CpInfo := pool [(1, .class_ 2), (0, u "java/lang/constant/Constable"), (0, .class_ 4), (0, u "java/lang/Object")] 6

/-- java/lang/constant/Constable -/
def k8 : Class := { plain "java/lang/constant/Constable" (some 0) with
  accessFlags := 1537
  interfaces := #[]
  cf := some (fileOf pool8 1 #[] #[] 1537 3 #[] #[])
  fields := #[]
  methods := #[]
  instanceTypes := #[]
  staticTypes := #[]
  resolved := Array.replicate 11 none
  statics := none }

def pool9 : Array CpInfo := pool [(1, .class_ 2), (0, u "java/lang/constant/ConstantDesc"), (0, .class_ 4), (0, u "java/lang/Object")] 32

/-- java/lang/constant/ConstantDesc -/
def k9 : Class := { plain "java/lang/constant/ConstantDesc" (some 0) with
  accessFlags := 1537
  interfaces := #[]
  cf := some (fileOf pool9 1 #[] #[] 1537 3 #[] #[])
  fields := #[]
  methods := #[]
  instanceTypes := #[]
  staticTypes := #[]
  resolved := Array.replicate 37 none
  statics := none }

def pool10 : Array CpInfo := pool [(2, .class_ 4), (1, u "java/lang/Object"), (0, u "<init>"), (0, u "()V"), (3, .class_ 12), (1, u "java/lang/String"), (0, u "value"), (0, u "[B"), (2, u "coder"), (0, u "B"), (2, u "hash"), (0, u "I"), (2, u "hashIsZero"), (0, u "Z"), (13, u "COMPACT_STRINGS"), (534, .class_ 576), (0, u "java/lang/CharSequence"), (22, u "CASE_INSENSITIVE_ORDER"), (0, u "Ljava/util/Comparator;"), (500, u "serialPersistentFields"), (0, u "[Ljava/io/ObjectStreamField;"), (0, .class_ 1104), (0, u "java/lang/String$CaseInsensitiveComparator"), (1, .class_ 1107), (0, u "java/io/Serializable"), (0, .class_ 1109), (0, u "java/lang/Comparable"), (0, .class_ 1111), (0, u "java/lang/constant/Constable"), (0, .class_ 1113), (0, u "java/lang/constant/ConstantDesc"), (2, u "serialVersionUID"), (0, u "J"), (3, u "REPL"), (0, u "C"), (2, u "LATIN1"), (1, u "UTF16")] 323

def k10m0 : Method := { name := "<init>", desc := "()V", sig := { parameters := [], returnType := none }, accessFlags := 1, code := none }
/-- java/lang/String -/
def k10 : Class := { plain "java/lang/String" (some 0) with
  accessFlags := 49
  interfaces := #[5, 6, 7, 8, 9]
  cf := some (fileOf pool10 10 #[.nestMembers #[1103]] #[{ accessFlags := 1, nameIndex := 5, descriptorIndex := 6, attributes := #[] }] 49 2 #[1106, 1108, 575, 1110, 1112] #[{ accessFlags := 18, nameIndex := 13, descriptorIndex := 14, attributes := #[] }, { accessFlags := 18, nameIndex := 17, descriptorIndex := 18, attributes := #[] }, { accessFlags := 2, nameIndex := 21, descriptorIndex := 22, attributes := #[] }, { accessFlags := 2, nameIndex := 25, descriptorIndex := 26, attributes := #[] }, { accessFlags := 26, nameIndex := 1116, descriptorIndex := 1117, attributes := #[] }, { accessFlags := 24, nameIndex := 40, descriptorIndex := 26, attributes := #[] }, { accessFlags := 26, nameIndex := 1101, descriptorIndex := 1102, attributes := #[] }, { accessFlags := 26, nameIndex := 1121, descriptorIndex := 1122, attributes := #[] }, { accessFlags := 25, nameIndex := 599, descriptorIndex := 600, attributes := #[] }, { accessFlags := 24, nameIndex := 1125, descriptorIndex := 18, attributes := #[] }, { accessFlags := 24, nameIndex := 1127, descriptorIndex := 18, attributes := #[] }])
  fields := #[{ name := "value", type := (.array .byte), accessFlags := 18, slot := 0, constantValue := 0 }, { name := "coder", type := .byte, accessFlags := 18, slot := 1, constantValue := 0 }, { name := "hash", type := .int, accessFlags := 2, slot := 2, constantValue := 0 }, { name := "hashIsZero", type := .boolean, accessFlags := 2, slot := 3, constantValue := 0 }, { name := "serialVersionUID", type := .long, accessFlags := 26, slot := 0, constantValue := 0 }, { name := "COMPACT_STRINGS", type := .boolean, accessFlags := 24, slot := 1, constantValue := 0 }, { name := "serialPersistentFields", type := (.array (.object "java/io/ObjectStreamField")), accessFlags := 26, slot := 2, constantValue := 0 }, { name := "REPL", type := .char, accessFlags := 26, slot := 3, constantValue := 0 }, { name := "CASE_INSENSITIVE_ORDER", type := (.object "java/util/Comparator"), accessFlags := 25, slot := 4, constantValue := 0 }, { name := "LATIN1", type := .byte, accessFlags := 24, slot := 5, constantValue := 0 }, { name := "UTF16", type := .byte, accessFlags := 24, slot := 6, constantValue := 0 }]
  methods := #[k10m0]
  instanceTypes := #[(.array .byte), .byte, .int, .boolean]
  staticTypes := #[.long, .boolean, (.array (.object "java/io/ObjectStreamField")), .char, (.object "java/util/Comparator"), .byte, .byte]
  resolved := Array.replicate 1451 none
  statics := none }

def pool11 : Array CpInfo := pool [(2, .class_ 4), (1, u "java/lang/Object"), (0, u "<init>"), (0, u "()V"), (5, u "([IIII)V"), (0, .methodref 14 15), (0, .class_ 16), (0, .nameAndType 17 18), (0, u "java/util/Arrays"), (0, u "rangeCheck"), (0, u "(III)V"), (55, .class_ 76), (1, u "java/util/Arrays$NaturalOrder"), (36, .class_ 115), (1, u "java/util/Arrays$LegacyMergeSort"), (1, u "Z"), (32, .methodref 151 152), (0, .class_ 153), (0, .nameAndType 154 155), (0, u "java/lang/System"), (0, u "arraycopy"), (0, u "(Ljava/lang/Object;ILjava/lang/Object;II)V"), (146, u "copyOf"), (1, .methodref 305 306), (0, .class_ 307), (0, .nameAndType 308 309), (0, u "java/lang/Math"), (0, u "min"), (0, u "(II)I"), (65, .class_ 376), (0, u "java/util/Arrays$ArrayList"), (68, u "$assertionsDisabled"), (269, u "MIN_ARRAY_SORT_GRAN"), (0, u "I"), (2, u "INSERTIONSORT_THRESHOLD"), (120, u "fill"), (30, u "([II)[I"), (103, .class_ 976), (0, u "java/util/Arrays$ArrayItr")] 52

def k11m0 : Method := { name := "<init>", desc := "()V", sig := { parameters := [], returnType := none }, accessFlags := 2, code := none }
def k11c1 : Code := { maxStack := 4, maxLocals := 3, code := jdk_65_method_30_code, exceptionTable := #[], attributes := #[] }
def k11m1 : Method := { name := "rangeCheck", desc := "(III)V", sig := { parameters := [.int, .int, .int], returnType := none }, accessFlags := 8, code := some k11c1 }
def k11c2 : Code := { maxStack := 3, maxLocals := 5, code := jdk_65_method_104_code, exceptionTable := #[], attributes := #[] }
def k11m2 : Method := { name := "fill", desc := "([IIII)V", sig := { parameters := [(.array .int), .int, .int, .int], returnType := none }, accessFlags := 9, code := some k11c2 }
def k11c3 : Code := { maxStack := 6, maxLocals := 3, code := jdk_65_method_123_code, exceptionTable := #[], attributes := #[] }
def k11m3 : Method := { name := "copyOf", desc := "([II)[I", sig := { parameters := [(.array .int), .int], returnType := some (.array .int) }, accessFlags := 9, code := some k11c3 }
/-- java/util/Arrays -/
def k11 : Class := { plain "java/util/Arrays" (some 0) with
  accessFlags := 49
  interfaces := #[]
  cf := some (fileOf pool11 14 #[.nestMembers #[975, 375, 113, 74]] #[{ accessFlags := 2, nameIndex := 5, descriptorIndex := 6, attributes := #[] }, { accessFlags := 8, nameIndex := 17, descriptorIndex := 18, attributes := #[] }, { accessFlags := 9, nameIndex := 840, descriptorIndex := 12, attributes := #[] }, { accessFlags := 9, nameIndex := 302, descriptorIndex := 871, attributes := #[] }] 49 2 #[] #[{ accessFlags := 26, nameIndex := 715, descriptorIndex := 716, attributes := #[] }, { accessFlags := 26, nameIndex := 719, descriptorIndex := 716, attributes := #[] }, { accessFlags := 4120, nameIndex := 445, descriptorIndex := 117, attributes := #[] }])
  fields := #[{ name := "MIN_ARRAY_SORT_GRAN", type := .int, accessFlags := 26, slot := 0, constantValue := 0 }, { name := "INSERTIONSORT_THRESHOLD", type := .int, accessFlags := 26, slot := 1, constantValue := 0 }, { name := "$assertionsDisabled", type := .boolean, accessFlags := 4120, slot := 2, constantValue := 0 }]
  methods := #[k11m0, k11m1, k11m2, k11m3]
  instanceTypes := #[]
  staticTypes := #[.int, .int, .boolean]
  resolved := Array.replicate 1029 none
  statics := none }

def pool12 : Array CpInfo := pool [(2, .class_ 4), (1, u "java/lang/Object"), (0, u "<init>"), (0, u "()V"), (1, .class_ 10), (1, u "java/lang/System"), (0, u "allowSecurityManager"), (0, u "I"), (16, u "cons"), (0, u "Ljava/io/Console;"), (77, .class_ 110), (1, u "java/lang/System$CallersHolder"), (43, u "initialErrStream"), (0, u "Ljava/io/PrintStream;"), (19, u "security"), (0, u "Ljava/lang/SecurityManager;"), (31, .class_ 209), (0, u "java/lang/System$1"), (7, u "props"), (0, u "Ljava/util/Properties;"), (2, u "lineSeparator"), (0, u "Ljava/lang/String;"), (96, .class_ 321), (1, u "java/lang/System$LoggerFinder"), (5, .class_ 328), (0, u "java/lang/System$Logger"), (67, u "err"), (2, u "out"), (91, u "notSupportedJnuEncoding"), (15, u "in"), (17, u "initialIn"), (0, u "Ljava/io/InputStream;"), (35, u "bootLayer"), (0, u "Ljava/lang/ModuleLayer;"), (99, .class_ 664), (0, u "java/lang/System$2"), (9, u "NEVER"), (2, u "MAYBE"), (49, u "arraycopy"), (0, u "(Ljava/lang/Object;ILjava/lang/Object;II)V"), (72, .class_ 802), (0, u "java/lang/System$Logger$Level")] 31

def k12m0 : Method := { name := "<init>", desc := "()V", sig := { parameters := [], returnType := none }, accessFlags := 2, code := none }
def k12m1 : Method := { name := "arraycopy", desc := "(Ljava/lang/Object;ILjava/lang/Object;II)V", sig := { parameters := [(.object "java/lang/Object"), .int, (.object "java/lang/Object"), .int, .int], returnType := none }, accessFlags := 265, code := none }
/-- java/lang/System -/
def k12 : Class := { plain "java/lang/System" (some 0) with
  accessFlags := 49
  interfaces := #[]
  cf := some (fileOf pool12 8 #[.nestMembers #[319, 327, 801, 108, 663, 208]] #[{ accessFlags := 2, nameIndex := 5, descriptorIndex := 6, attributes := #[] }, { accessFlags := 265, nameIndex := 727, descriptorIndex := 728, attributes := #[] }] 49 2 #[] #[{ accessFlags := 25, nameIndex := 507, descriptorIndex := 526, attributes := #[] }, { accessFlags := 25, nameIndex := 399, descriptorIndex := 155, attributes := #[] }, { accessFlags := 25, nameIndex := 396, descriptorIndex := 155, attributes := #[] }, { accessFlags := 10, nameIndex := 525, descriptorIndex := 526, attributes := #[] }, { accessFlags := 26, nameIndex := 674, descriptorIndex := 12, attributes := #[] }, { accessFlags := 26, nameIndex := 677, descriptorIndex := 12, attributes := #[] }, { accessFlags := 10, nameIndex := 11, descriptorIndex := 12, attributes := #[] }, { accessFlags := 74, nameIndex := 175, descriptorIndex := 176, attributes := #[] }, { accessFlags := 10, nameIndex := 491, descriptorIndex := 222, attributes := #[] }, { accessFlags := 74, nameIndex := 29, descriptorIndex := 30, attributes := #[] }, { accessFlags := 74, nameIndex := 154, descriptorIndex := 155, attributes := #[] }, { accessFlags := 10, nameIndex := 217, descriptorIndex := 218, attributes := #[] }, { accessFlags := 10, nameIndex := 221, descriptorIndex := 222, attributes := #[] }, { accessFlags := 8, nameIndex := 562, descriptorIndex := 563, attributes := #[] }])
  fields := #[{ name := "in", type := (.object "java/io/InputStream"), accessFlags := 25, slot := 0, constantValue := 0 }, { name := "out", type := (.object "java/io/PrintStream"), accessFlags := 25, slot := 1, constantValue := 0 }, { name := "err", type := (.object "java/io/PrintStream"), accessFlags := 25, slot := 2, constantValue := 0 }, { name := "initialIn", type := (.object "java/io/InputStream"), accessFlags := 10, slot := 3, constantValue := 0 }, { name := "NEVER", type := .int, accessFlags := 26, slot := 4, constantValue := 0 }, { name := "MAYBE", type := .int, accessFlags := 26, slot := 5, constantValue := 0 }, { name := "allowSecurityManager", type := .int, accessFlags := 10, slot := 6, constantValue := 0 }, { name := "security", type := (.object "java/lang/SecurityManager"), accessFlags := 74, slot := 7, constantValue := 0 }, { name := "notSupportedJnuEncoding", type := (.object "java/lang/String"), accessFlags := 10, slot := 8, constantValue := 0 }, { name := "cons", type := (.object "java/io/Console"), accessFlags := 74, slot := 9, constantValue := 0 }, { name := "initialErrStream", type := (.object "java/io/PrintStream"), accessFlags := 74, slot := 10, constantValue := 0 }, { name := "props", type := (.object "java/util/Properties"), accessFlags := 10, slot := 11, constantValue := 0 }, { name := "lineSeparator", type := (.object "java/lang/String"), accessFlags := 10, slot := 12, constantValue := 0 }, { name := "bootLayer", type := (.object "java/lang/ModuleLayer"), accessFlags := 8, slot := 13, constantValue := 0 }]
  methods := #[k12m0, k12m1]
  instanceTypes := #[]
  staticTypes := #[(.object "java/io/InputStream"), (.object "java/io/PrintStream"), (.object "java/io/PrintStream"), (.object "java/io/InputStream"), .int, .int, .int, (.object "java/lang/SecurityManager"), (.object "java/lang/String"), (.object "java/io/Console"), (.object "java/io/PrintStream"), (.object "java/util/Properties"), (.object "java/lang/String"), (.object "java/lang/ModuleLayer")]
  resolved := Array.replicate 834 none
  statics := none }

def pool13 : Array CpInfo := pool [(1, u "java/lang/Cloneable"), (0, .class_ 1), (0, u "java/lang/Object"), (0, .class_ 3)] 3

/-- java/lang/Cloneable -/
def k13 : Class := { plain "java/lang/Cloneable" (some 0) with
  accessFlags := 1537
  interfaces := #[]
  cf := some (fileOf pool13 2 #[] #[] 1537 4 #[] #[])
  fields := #[]
  methods := #[]
  instanceTypes := #[]
  staticTypes := #[]
  resolved := Array.replicate 8 none
  statics := none }

/-- the primitive byte -/
def k14 : Class := { plain "byte" none with kind := .primitive 'B', accessFlags := 0x411 }
/-- [B -/
def k15 : Class := { plain "[B" (some 0) with kind := .array 14 .byte, interfaces := #[13, 5], accessFlags := 1041 }

/-- the primitive int -/
def k16 : Class := { plain "int" none with kind := .primitive 'I', accessFlags := 0x411 }
/-- [I -/
def k17 : Class := { plain "[I" (some 0) with kind := .array 16 .int, interfaces := #[13, 5], accessFlags := 1041 }

def heap : Heap := #[]
def classes : Array Class := #[k0, k1, k2, k3, k4, k5, k6, k7, k8, k9, k10, k11, k12, k13, k14, k15, k16, k17]
def interned : List (Array UInt16 × Addr) := []
def slotsUsed : Nat := 0
def theMethod : MethodId := ⟨1, 1⟩
def args0 : Array Value := #[.int 5, .int 6, .int 7, .int 8, .int 9]
def aboutOver (below : List Frame) : State where
  vm := { classes := classes, interned := interned.toArray }
  heap := heap
  slotsUsed := slotsUsed
  threads := #[{ frames := .invoking theMethod args0 :: below }]
def below0 : List Frame := [.native { method := ⟨0, 0⟩, args := #[] }]
def about1 : State := aboutOver below0
def p0 : Program := .bare "" "" ""
def e0 : Env := launch0.env 0 0 0
theorem w_frames : about1.frames = Frame.invoking theMethod args0 :: below0 := rfl
set_option maxRecDepth 65536 in
theorem w_args : argsFit about1.vm theMethod args0 = true := by decide +kernel
set_option maxRecDepth 65536 in
theorem w_heap : heapFits about1 = true := by decide +kernel
set_option maxRecDepth 65536 in
theorem w_runnable : about1.curStatus? = some .runnable := by decide +kernel
set_option maxRecDepth 65536 in
theorem w_alone : about1.alone = true := by decide +kernel
set_option maxRecDepth 65536 in
theorem w_named : about1.methodNamed? x = some theMethod := by decide +kernel
set_option maxRecDepth 65536 in
theorem w_hears : about1.hears theMethod below0 = true := by decide +kernel
set_option maxRecDepth 65536 in
theorem w_ripe : about1.ripe theMethod args0 below0 = true := by decide +kernel
theorem w_running : about1.status = .running := rfl
set_option maxRecDepth 65536 in
theorem w_room : about1.hasRoom e0.platform room_1 = true :=
  launch0.hasRoom_least _ room_1 (by decide +kernel) (by decide +kernel) (by decide +kernel) (by decide +kernel) (by decide +kernel) (by decide +kernel)
theorem allAtoms_all (ts : List Jvm.Cond) (a : Array Jvm.Value) (st : Jvm.State) : (allAtoms ts).before a st = ts.all (fun c => c.before a st) := by
  induction ts with
  | nil => rfl
  | cons c t ih =>
    show (Jvm.Cond.and c (allAtoms t)).before a st = _
    rw [Jvm.Cond.before_and, ih, List.all_cons]
def words1 : List Jvm.Cond := Jvm.Cond.code x code maxLocals ret :: tables_1
/-- a 'code' word, met by the world's own term for the bytes: nothing is compared byte by byte -/
theorem code_word {y : MethodName} {bytes : ByteArray} {mx : Nat} {rt : Option FieldType} {a : Array Value} {s : State} {m : MethodId} {meth : Method} {c : Code} (h1 : s.methodNamed? y = some m) (h2 : s.vm.method? m = some meth) (h3 : meth.code = some c) (h4 : c.code = bytes)
    (h5 : (c.maxLocals == mx && c.exceptionTable.isEmpty && decide (c.maxStack ≤ mostOperands) && decide (meth.sig.returnType = rt) && !meth.locks && decide (parseMethodDescriptor y.desc = some meth.sig)) = true) : (Jvm.Cond.code y bytes mx rt).before a s = true := by
  simp only [Bool.and_eq_true, beq_iff_eq, Bool.not_eq_true', decide_eq_true_eq] at h5
  obtain ⟨⟨⟨⟨⟨g1, g2⟩, g3⟩, g4⟩, g5⟩, g6⟩ := h5
  simp [Cond.before, Cond.holds, Cond.value, h1, h2, h3, h4, g1, g2, g3, g4, g5, g6]
def isCode : Jvm.Cond → Bool
  | .code _ _ _ _ => true
  | _ => false
theorem all_split {L : List Jvm.Cond} {P : Jvm.Cond → Bool} (h1 : L.all (fun c => isCode c || P c) = true) (h2 : ∀ c ∈ L.filter isCode, P c = true) : L.all P = true := by
  refine List.all_eq_true.mpr fun c hc => ?_
  have h := List.all_eq_true.mp h1 c hc
  rcases Bool.eq_false_or_eq_true (isCode c) with hi | hi
  · exact h2 c (List.mem_filter.mpr ⟨hc, hi⟩)
  · simpa [hi] using h
set_option maxRecDepth 65536 in
theorem w_c0 : (Jvm.Cond.code x code maxLocals ret).before args0 about1 = true := code_word (m := ⟨1, 1⟩) (meth := k1m1) (c := k1c1) (by decide +kernel) rfl rfl rfl (by decide +kernel)
set_option maxRecDepth 65536 in
theorem w_c1 : (Jvm.Cond.code ({ cls := "java/lang/Math", name := "min", desc := "(II)I" } : Jvm.MethodName) jdk_29_method_69_code (2 : Nat) (Option.some Jvm.ClassFile.FieldType.int)).before args0 about1 = true := code_word (m := ⟨2, 3⟩) (meth := k2m3) (c := k2c3) (by decide +kernel) rfl rfl rfl (by decide +kernel)
set_option maxRecDepth 65536 in
theorem w_c2 : (Jvm.Cond.code ({ cls := "com/example/nearword/nearword/internal/index/IntRunsContainsAllPinLaw", name := "pick", desc := "([II[I)I" } : Jvm.MethodName) method_3_code (4 : Nat) (Option.some Jvm.ClassFile.FieldType.int)).before args0 about1 = true := code_word (m := ⟨1, 2⟩) (meth := k1m2) (c := k1c2) (by decide +kernel) rfl rfl rfl (by decide +kernel)
set_option maxRecDepth 65536 in
theorem w_c3 : (Jvm.Cond.code ({ cls := "com/example/nearword/nearword/internal/index/IntRunsContainsAllPinLaw", name := "exact", desc := "([II)[I" } : Jvm.MethodName) method_4_code (2 : Nat) (Option.some (Jvm.ClassFile.FieldType.array Jvm.ClassFile.FieldType.int))).before args0 about1 = true := code_word (m := ⟨1, 3⟩) (meth := k1m3) (c := k1c3) (by decide +kernel) rfl rfl rfl (by decide +kernel)
set_option maxRecDepth 65536 in
theorem w_c4 : (Jvm.Cond.code ({ cls := "com/example/nearword/nearword/internal/index/IntRuns", name := "<init>", desc := "(I)V" } : Jvm.MethodName) prog_42_method_2_code (2 : Nat) (Option.none : Option Jvm.ClassFile.FieldType)).before args0 about1 = true := code_word (m := ⟨3, 1⟩) (meth := k3m1) (c := k3c1) (by decide +kernel) rfl rfl rfl (by decide +kernel)
set_option maxRecDepth 65536 in
theorem w_c5 : (Jvm.Cond.code ({ cls := "java/lang/Object", name := "<init>", desc := "()V" } : Jvm.MethodName) object_method_1_code (1 : Nat) (Option.none : Option Jvm.ClassFile.FieldType)).before args0 about1 = true := code_word (m := ⟨0, 0⟩) (meth := k0m0) (c := k0c0) (by decide +kernel) rfl rfl rfl (by decide +kernel)
set_option maxRecDepth 65536 in
theorem w_c6 : (Jvm.Cond.code ({ cls := "com/example/nearword/nearword/internal/index/IntRuns", name := "set", desc := "(I[III)V" } : Jvm.MethodName) prog_42_method_13_code (7 : Nat) (Option.none : Option Jvm.ClassFile.FieldType)).before args0 about1 = true := code_word (m := ⟨3, 3⟩) (meth := k3m3) (c := k3c3) (by decide +kernel) rfl rfl rfl (by decide +kernel)
set_option maxRecDepth 65536 in
theorem w_c7 : (Jvm.Cond.code ({ cls := "com/example/nearword/nearword/internal/index/IntRuns", name := "setOne", desc := "(II)V" } : Jvm.MethodName) prog_42_method_17_code (3 : Nat) (Option.none : Option Jvm.ClassFile.FieldType)).before args0 about1 = true := code_word (m := ⟨3, 4⟩) (meth := k3m4) (c := k3c4) (by decide +kernel) rfl rfl rfl (by decide +kernel)
set_option maxRecDepth 65536 in
theorem w_c8 : (Jvm.Cond.code ({ cls := "com/example/nearword/nearword/internal/index/IntRuns", name := "reserveKey", desc := "(I)V" } : Jvm.MethodName) prog_42_method_20_code (2 : Nat) (Option.none : Option Jvm.ClassFile.FieldType)).before args0 about1 = true := code_word (m := ⟨3, 7⟩) (meth := k3m7) (c := k3c7) (by decide +kernel) rfl rfl rfl (by decide +kernel)
set_option maxRecDepth 65536 in
theorem w_c9 : (Jvm.Cond.code ({ cls := "com/example/nearword/nearword/internal/index/Room", name := "grown", desc := "(IJ)I" } : Jvm.MethodName) prog_62_method_5_code (3 : Nat) (Option.some Jvm.ClassFile.FieldType.int)).before args0 about1 = true := code_word (m := ⟨4, 4⟩) (meth := k4m4) (c := k4c4) (by decide +kernel) rfl rfl rfl (by decide +kernel)
set_option maxRecDepth 65536 in
theorem w_c10 : (Jvm.Cond.code ({ cls := "com/example/nearword/nearword/internal/index/Room", name := "grown", desc := "(IJI)I" } : Jvm.MethodName) prog_62_method_4_code (6 : Nat) (Option.some Jvm.ClassFile.FieldType.int)).before args0 about1 = true := code_word (m := ⟨4, 3⟩) (meth := k4m3) (c := k4c3) (by decide +kernel) rfl rfl rfl (by decide +kernel)
set_option maxRecDepth 65536 in
theorem w_c11 : (Jvm.Cond.code ({ cls := "com/example/nearword/nearword/internal/index/Room", name := "requireElements", desc := "(JJ)V" } : Jvm.MethodName) prog_62_method_3_code (4 : Nat) (Option.none : Option Jvm.ClassFile.FieldType)).before args0 about1 = true := code_word (m := ⟨4, 2⟩) (meth := k4m2) (c := k4c2) (by decide +kernel) rfl rfl rfl (by decide +kernel)
set_option maxRecDepth 65536 in
theorem w_c12 : (Jvm.Cond.code ({ cls := "com/example/nearword/nearword/internal/index/Room", name := "require", desc := "(JJLjava/lang/String;)V" } : Jvm.MethodName) prog_62_method_2_code (5 : Nat) (Option.none : Option Jvm.ClassFile.FieldType)).before args0 about1 = true := code_word (m := ⟨4, 1⟩) (meth := k4m1) (c := k4c1) (by decide +kernel) rfl rfl rfl (by decide +kernel)
set_option maxRecDepth 65536 in
theorem w_c13 : (Jvm.Cond.code ({ cls := "java/lang/Math", name := "max", desc := "(II)I" } : Jvm.MethodName) jdk_29_method_65_code (2 : Nat) (Option.some Jvm.ClassFile.FieldType.int)).before args0 about1 = true := code_word (m := ⟨2, 1⟩) (meth := k2m1) (c := k2c1) (by decide +kernel) rfl rfl rfl (by decide +kernel)
set_option maxRecDepth 65536 in
theorem w_c14 : (Jvm.Cond.code ({ cls := "java/lang/Math", name := "max", desc := "(JJ)J" } : Jvm.MethodName) jdk_29_method_66_code (4 : Nat) (Option.some Jvm.ClassFile.FieldType.long)).before args0 about1 = true := code_word (m := ⟨2, 2⟩) (meth := k2m2) (c := k2c2) (by decide +kernel) rfl rfl rfl (by decide +kernel)
set_option maxRecDepth 65536 in
theorem w_c15 : (Jvm.Cond.code ({ cls := "java/lang/Math", name := "min", desc := "(JJ)J" } : Jvm.MethodName) jdk_29_method_70_code (4 : Nat) (Option.some Jvm.ClassFile.FieldType.long)).before args0 about1 = true := code_word (m := ⟨2, 4⟩) (meth := k2m4) (c := k2c4) (by decide +kernel) rfl rfl rfl (by decide +kernel)
set_option maxRecDepth 65536 in
theorem w_c16 : (Jvm.Cond.code ({ cls := "com/example/nearword/nearword/internal/index/IntRuns", name := "growKeys", desc := "(I)V" } : Jvm.MethodName) prog_42_method_23_code (3 : Nat) (Option.none : Option Jvm.ClassFile.FieldType)).before args0 about1 = true := code_word (m := ⟨3, 8⟩) (meth := k3m8) (c := k3c8) (by decide +kernel) rfl rfl rfl (by decide +kernel)
set_option maxRecDepth 65536 in
theorem w_c17 : (Jvm.Cond.code ({ cls := "java/util/Arrays", name := "copyOf", desc := "([II)[I" } : Jvm.MethodName) jdk_65_method_123_code (3 : Nat) (Option.some (Jvm.ClassFile.FieldType.array Jvm.ClassFile.FieldType.int))).before args0 about1 = true := code_word (m := ⟨11, 3⟩) (meth := k11m3) (c := k11c3) (by decide +kernel) rfl rfl rfl (by decide +kernel)
set_option maxRecDepth 65536 in
theorem w_c18 : (Jvm.Cond.code ({ cls := "java/util/Arrays", name := "fill", desc := "([IIII)V" } : Jvm.MethodName) jdk_65_method_104_code (5 : Nat) (Option.none : Option Jvm.ClassFile.FieldType)).before args0 about1 = true := code_word (m := ⟨11, 2⟩) (meth := k11m2) (c := k11c2) (by decide +kernel) rfl rfl rfl (by decide +kernel)
set_option maxRecDepth 65536 in
theorem w_c19 : (Jvm.Cond.code ({ cls := "java/util/Arrays", name := "rangeCheck", desc := "(III)V" } : Jvm.MethodName) jdk_65_method_30_code (3 : Nat) (Option.none : Option Jvm.ClassFile.FieldType)).before args0 about1 = true := code_word (m := ⟨11, 1⟩) (meth := k11m1) (c := k11c1) (by decide +kernel) rfl rfl rfl (by decide +kernel)
set_option maxRecDepth 65536 in
theorem w_c20 : (Jvm.Cond.code ({ cls := "com/example/nearword/nearword/internal/index/IntRuns", name := "leave", desc := "(I)V" } : Jvm.MethodName) prog_42_method_19_code (3 : Nat) (Option.none : Option Jvm.ClassFile.FieldType)).before args0 about1 = true := code_word (m := ⟨3, 6⟩) (meth := k3m6) (c := k3c6) (by decide +kernel) rfl rfl rfl (by decide +kernel)
set_option maxRecDepth 65536 in
theorem w_c21 : (Jvm.Cond.code ({ cls := "com/example/nearword/nearword/internal/index/IntRuns", name := "compactIfHalfLeft", desc := "()V" } : Jvm.MethodName) prog_42_method_25_code (1 : Nat) (Option.none : Option Jvm.ClassFile.FieldType)).before args0 about1 = true := code_word (m := ⟨3, 10⟩) (meth := k3m10) (c := k3c10) (by decide +kernel) rfl rfl rfl (by decide +kernel)
set_option maxRecDepth 65536 in
theorem w_c22 : (Jvm.Cond.code ({ cls := "com/example/nearword/nearword/internal/index/IntRuns", name := "containsAll", desc := "(I[I)Z" } : Jvm.MethodName) prog_42_method_7_code (10 : Nat) (Option.some Jvm.ClassFile.FieldType.boolean)).before args0 about1 = true := code_word (m := ⟨3, 2⟩) (meth := k3m2) (c := k3c2) (by decide +kernel) rfl rfl rfl (by decide +kernel)
set_option maxRecDepth 65536 in
theorem w_c23 : (Jvm.Cond.code ({ cls := "com/example/nearword/nearword/internal/index/IntRuns", name := "place", desc := "(II)I" } : Jvm.MethodName) prog_42_method_18_code (4 : Nat) (Option.some Jvm.ClassFile.FieldType.int)).before args0 about1 = true := code_word (m := ⟨3, 5⟩) (meth := k3m5) (c := k3c5) (by decide +kernel) rfl rfl rfl (by decide +kernel)
set_option maxRecDepth 65536 in
theorem w_c24 : (Jvm.Cond.code ({ cls := "com/example/nearword/nearword/internal/index/IntRuns", name := "makeRoom", desc := "(J)V" } : Jvm.MethodName) prog_42_method_24_code (7 : Nat) (Option.none : Option Jvm.ClassFile.FieldType)).before args0 about1 = true := code_word (m := ⟨3, 9⟩) (meth := k3m9) (c := k3c9) (by decide +kernel) rfl rfl rfl (by decide +kernel)
def codes1 : List Jvm.Cond := [Jvm.Cond.code x code maxLocals ret, Jvm.Cond.code ({ cls := "java/lang/Math", name := "min", desc := "(II)I" } : Jvm.MethodName) jdk_29_method_69_code (2 : Nat) (Option.some Jvm.ClassFile.FieldType.int), Jvm.Cond.code ({ cls := "com/example/nearword/nearword/internal/index/IntRunsContainsAllPinLaw", name := "pick", desc := "([II[I)I" } : Jvm.MethodName) method_3_code (4 : Nat) (Option.some Jvm.ClassFile.FieldType.int), Jvm.Cond.code ({ cls := "com/example/nearword/nearword/internal/index/IntRunsContainsAllPinLaw", name := "exact", desc := "([II)[I" } : Jvm.MethodName) method_4_code (2 : Nat) (Option.some (Jvm.ClassFile.FieldType.array Jvm.ClassFile.FieldType.int)), Jvm.Cond.code ({ cls := "com/example/nearword/nearword/internal/index/IntRuns", name := "<init>", desc := "(I)V" } : Jvm.MethodName) prog_42_method_2_code (2 : Nat) (Option.none : Option Jvm.ClassFile.FieldType), Jvm.Cond.code ({ cls := "java/lang/Object", name := "<init>", desc := "()V" } : Jvm.MethodName) object_method_1_code (1 : Nat) (Option.none : Option Jvm.ClassFile.FieldType), Jvm.Cond.code ({ cls := "com/example/nearword/nearword/internal/index/IntRuns", name := "set", desc := "(I[III)V" } : Jvm.MethodName) prog_42_method_13_code (7 : Nat) (Option.none : Option Jvm.ClassFile.FieldType), Jvm.Cond.code ({ cls := "com/example/nearword/nearword/internal/index/IntRuns", name := "setOne", desc := "(II)V" } : Jvm.MethodName) prog_42_method_17_code (3 : Nat) (Option.none : Option Jvm.ClassFile.FieldType), Jvm.Cond.code ({ cls := "com/example/nearword/nearword/internal/index/IntRuns", name := "reserveKey", desc := "(I)V" } : Jvm.MethodName) prog_42_method_20_code (2 : Nat) (Option.none : Option Jvm.ClassFile.FieldType), Jvm.Cond.code ({ cls := "com/example/nearword/nearword/internal/index/Room", name := "grown", desc := "(IJ)I" } : Jvm.MethodName) prog_62_method_5_code (3 : Nat) (Option.some Jvm.ClassFile.FieldType.int), Jvm.Cond.code ({ cls := "com/example/nearword/nearword/internal/index/Room", name := "grown", desc := "(IJI)I" } : Jvm.MethodName) prog_62_method_4_code (6 : Nat) (Option.some Jvm.ClassFile.FieldType.int), Jvm.Cond.code ({ cls := "com/example/nearword/nearword/internal/index/Room", name := "requireElements", desc := "(JJ)V" } : Jvm.MethodName) prog_62_method_3_code (4 : Nat) (Option.none : Option Jvm.ClassFile.FieldType), Jvm.Cond.code ({ cls := "com/example/nearword/nearword/internal/index/Room", name := "require", desc := "(JJLjava/lang/String;)V" } : Jvm.MethodName) prog_62_method_2_code (5 : Nat) (Option.none : Option Jvm.ClassFile.FieldType), Jvm.Cond.code ({ cls := "java/lang/Math", name := "max", desc := "(II)I" } : Jvm.MethodName) jdk_29_method_65_code (2 : Nat) (Option.some Jvm.ClassFile.FieldType.int), Jvm.Cond.code ({ cls := "java/lang/Math", name := "max", desc := "(JJ)J" } : Jvm.MethodName) jdk_29_method_66_code (4 : Nat) (Option.some Jvm.ClassFile.FieldType.long), Jvm.Cond.code ({ cls := "java/lang/Math", name := "min", desc := "(JJ)J" } : Jvm.MethodName) jdk_29_method_70_code (4 : Nat) (Option.some Jvm.ClassFile.FieldType.long), Jvm.Cond.code ({ cls := "com/example/nearword/nearword/internal/index/IntRuns", name := "growKeys", desc := "(I)V" } : Jvm.MethodName) prog_42_method_23_code (3 : Nat) (Option.none : Option Jvm.ClassFile.FieldType), Jvm.Cond.code ({ cls := "java/util/Arrays", name := "copyOf", desc := "([II)[I" } : Jvm.MethodName) jdk_65_method_123_code (3 : Nat) (Option.some (Jvm.ClassFile.FieldType.array Jvm.ClassFile.FieldType.int)), Jvm.Cond.code ({ cls := "java/util/Arrays", name := "fill", desc := "([IIII)V" } : Jvm.MethodName) jdk_65_method_104_code (5 : Nat) (Option.none : Option Jvm.ClassFile.FieldType), Jvm.Cond.code ({ cls := "java/util/Arrays", name := "rangeCheck", desc := "(III)V" } : Jvm.MethodName) jdk_65_method_30_code (3 : Nat) (Option.none : Option Jvm.ClassFile.FieldType), Jvm.Cond.code ({ cls := "com/example/nearword/nearword/internal/index/IntRuns", name := "leave", desc := "(I)V" } : Jvm.MethodName) prog_42_method_19_code (3 : Nat) (Option.none : Option Jvm.ClassFile.FieldType), Jvm.Cond.code ({ cls := "com/example/nearword/nearword/internal/index/IntRuns", name := "compactIfHalfLeft", desc := "()V" } : Jvm.MethodName) prog_42_method_25_code (1 : Nat) (Option.none : Option Jvm.ClassFile.FieldType), Jvm.Cond.code ({ cls := "com/example/nearword/nearword/internal/index/IntRuns", name := "containsAll", desc := "(I[I)Z" } : Jvm.MethodName) prog_42_method_7_code (10 : Nat) (Option.some Jvm.ClassFile.FieldType.boolean), Jvm.Cond.code ({ cls := "com/example/nearword/nearword/internal/index/IntRuns", name := "place", desc := "(II)I" } : Jvm.MethodName) prog_42_method_18_code (4 : Nat) (Option.some Jvm.ClassFile.FieldType.int), Jvm.Cond.code ({ cls := "com/example/nearword/nearword/internal/index/IntRuns", name := "makeRoom", desc := "(J)V" } : Jvm.MethodName) prog_42_method_24_code (7 : Nat) (Option.none : Option Jvm.ClassFile.FieldType)]
set_option maxRecDepth 65536 in
theorem codes_eq : words1.filter isCode = codes1 := rfl
theorem w_codes : ∀ c ∈ words1.filter isCode, c.before args0 about1 = true := by
  rw [codes_eq]
  intro c hc
  simp only [codes1, List.mem_cons, List.not_mem_nil, or_false] at hc
  rcases hc with rfl | rfl | rfl | rfl | rfl | rfl | rfl | rfl | rfl | rfl | rfl | rfl | rfl | rfl | rfl | rfl | rfl | rfl | rfl | rfl | rfl | rfl | rfl | rfl | rfl
  · exact w_c0
  · exact w_c1
  · exact w_c2
  · exact w_c3
  · exact w_c4
  · exact w_c5
  · exact w_c6
  · exact w_c7
  · exact w_c8
  · exact w_c9
  · exact w_c10
  · exact w_c11
  · exact w_c12
  · exact w_c13
  · exact w_c14
  · exact w_c15
  · exact w_c16
  · exact w_c17
  · exact w_c18
  · exact w_c19
  · exact w_c20
  · exact w_c21
  · exact w_c22
  · exact w_c23
  · exact w_c24
set_option maxRecDepth 65536 in
theorem w_t1 : (words1.take 24).all (fun c => isCode c || c.before args0 about1) = true := by decide +kernel
set_option maxRecDepth 65536 in
theorem w_t2 : ((words1.drop 24).take 24).all (fun c => isCode c || c.before args0 about1) = true := by decide +kernel
set_option maxRecDepth 65536 in
theorem w_t3 : (((words1.drop 24).drop 24).take 24).all (fun c => isCode c || c.before args0 about1) = true := by decide +kernel
set_option maxRecDepth 65536 in
theorem w_t4 : ((((words1.drop 24).drop 24).drop 24).take 24).all (fun c => isCode c || c.before args0 about1) = true := by decide +kernel
set_option maxRecDepth 65536 in
theorem w_t5 : (((((words1.drop 24).drop 24).drop 24).drop 24).take 24).all (fun c => isCode c || c.before args0 about1) = true := by decide +kernel
set_option maxRecDepth 65536 in
theorem w_t6 : (((((words1.drop 24).drop 24).drop 24).drop 24).drop 24).all (fun c => isCode c || c.before args0 about1) = true := by decide +kernel
theorem w_tables : (allAtoms (Jvm.Cond.code x code maxLocals ret :: tables_1)).before args0 about1 = true := by
  rw [allAtoms_all]
  show words1.all (fun c => c.before args0 about1) = true
  refine all_split ?_ w_codes
  rw [← List.take_append_drop 24 words1, List.all_append, w_t1, ← List.take_append_drop 24 (words1.drop 24), List.all_append, w_t2, ← List.take_append_drop 24 ((words1.drop 24).drop 24), List.all_append, w_t3, ← List.take_append_drop 24 (((words1.drop 24).drop 24).drop 24), List.all_append, w_t4, ← List.take_append_drop 24 ((((words1.drop 24).drop 24).drop 24).drop 24), List.all_append, w_t5, w_t6]
  rfl
set_option maxRecDepth 65536 in
theorem w_case : (Jvm.Cond.and given_1 narrow_1).before args0 about1 = true := by decide +kernel
theorem w_applies : (headSpec (Jvm.Cond.code x code maxLocals ret :: tables_1) room_1).applies x e0.platform about1 = true :=
  (Spec.applies_iff w_frames).mpr ⟨w_running, w_runnable, w_alone, w_named, w_hears, w_ripe, w_room, w_tables⟩
theorem atStart : AtStart classFile x code maxLocals ret World_1 tables_1 room_1 Calls_1 rest_1 Pre_1 launch0 p0 e0 about1 theMethod args0 below0 :=
  ⟨lists_1, trivial, launch0.admits_env _ _ _, launch0.least_env, fairChoices_fair.cas, fairChoices_fair.clock, w_frames, w_args, w_heap, w_applies, trivial, trivial, w_case⟩
end start1
theorem witness_1 : WitnessClaimed_1 := ⟨start1.p0, start1.e0, start1.about1, start1.theMethod, start1.args0, start1.below0, start1.atStart⟩
end Jvm.Pilot.@@N@@
