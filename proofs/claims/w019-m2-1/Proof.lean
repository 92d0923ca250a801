import JvmDerived
import JvmDerived.Pilot.@@N@@Statement
import JvmDerived.Pilot.@@N@@Code
set_option linter.unusedVariables false
set_option linter.unusedSimpArgs false
namespace Jvm.RoadKit
open Sem ClassFile Op Lib Jvm.Stand Jvm.Free Jvm.LawKit
/-- what a walk knows of the method that it walks -/
def Own (Z : State) (y : MethodName) (bytes : ByteArray) (maxL : Nat) (ret : Option FieldType) (p : Program) (s : State) (m : MethodId) (meth : Method) (c : Code) : Prop :=
  p.tables.exec = Jvm.exec ∧ c.code = bytes ∧ c.maxLocals = maxL ∧ s.vm.findClass y.cls = some m.cls ∧ meth.name = y.name ∧ Z.Warmed39 s.vm ∧ meth.sig.returnType = ret ∧ meth.locks = false
/-- how the start s over which the walk stands belongs to the true start s0 (wd: strings may have been interned since) -/
def GoRel (wd : Bool) (s0 s : State) (k : Nat) : Prop := match wd with
  | false => s0 = s
  | true => ∃ (vm0 : Vm) (k0 : Nat), s = s0.setVm vm0 ∧ s0.Since vm0 k0 ∧ k0 ≤ k
/-- the frame of the end -/
def GoEnd (wd : Bool) (s0 : State) (o : Outcome) (t : State) (L : List Loc) (K N : Nat) : Prop := match wd with
  | false => FrameEnd s0 o t L K N
  | true => ReturnedEndW s0 o t L K N
theorem GoRel.mono {wd : Bool} {s0 s : State} {k k' : Nat} (h : GoRel wd s0 s k) (q : k ≤ k') : GoRel wd s0 s k' := by
  cases wd
  · exact h
  · obtain ⟨vm0, k0, h1, h2, h3⟩ := h; exact ⟨vm0, k0, h1, h2, Nat.le_trans h3 q⟩
theorem GoRel.refl (wd : Bool) (s : State) (k : Nat) : GoRel wd s s k := by
  cases wd
  · rfl
  · exact ⟨s.vm, 0, rfl, (State.WarmedH.refl s).since 0, Nat.zero_le _⟩
theorem GoEnd.grow {wd : Bool} {s0 t : State} {o : Outcome} {L : List Loc} {K N : Nat} (h : GoEnd wd s0 o t L K N) : s0.heap.size ≤ t.heap.size := by
  cases wd
  · exact h.2.2.2.1
  · exact h.2.2.2.2.1
theorem GoRel.ended {wd : Bool} {s0 s : State} {v : Option Value} {U : State} {locs : List Loc} {c k c' k' : Nat} (h : GoRel wd s0 s U.heap.size) (hW : s.WarmedH U.vm) (hs : s.sameButNew ({ U with vm := s.vm } : State) locs c k) (hc : c ≤ c') (hk : k ≤ k') : GoEnd wd s0 (.returned v) U locs c' k' := by
  cases wd
  · obtain rfl : s0 = s := h
    exact ⟨⟨_, rfl⟩, hW, hs.mono hc hk⟩
  · obtain ⟨vm0, k0, rfl, h2, h3⟩ := h
    obtain ⟨q1, q2, q3⟩ := h2.ended hW h3 hs
    exact ⟨⟨_, rfl⟩, q1, q2, q3.mono hc hk⟩
/-- from pc, Ls, st over the heap h (so many cells and slots made so far) the walk comes to its end, and Q holds of what it returns and of the heap there; what it wrote lies at or above n0 -/
def Go (wd : Bool) (l : Launch) (R : Room) (Z : State) (y : MethodName) (bytes : ByteArray) (maxL : Nat) (ret : Option FieldType) (n0 K N : Nat) (Q : Option Value → Heap → Prop) (h : Heap) (cells slots pc : Nat) (Ls : Array Slot) (st : List Value) : Prop :=
  ∀ (p : Program) (e : Env) (s0 s : State) (m : MethodId) (args : Array Value) (below : List Frame) (meth : Method) (c : Code) (T : State) (locs : List Loc),
    GoRel wd s0 s h.size → Own Z y bytes maxL ret p s m meth c → Stand p l e R s m args below meth c T locs cells slots → T.heap = h → Fr n0 locs →
    ∃ s₂ o, Steps p.tables e below (T.setTop (mkF m pc Ls st)) s₂ ∧ s₂.status = .running ∧ Ended s₂ below o ∧ ∃ v L, o = .returned v ∧ (Q v s₂.heap ∧ Fr n0 L) ∧ GoEnd wd s0 o s₂ L K N
section GoLaws
variable {wd : Bool} {l : Launch} {R : Room} {Z : State} {y : MethodName} {bytes : ByteArray} {maxL : Nat} {ret : Option FieldType} {n0 K N : Nat} {Q : Option Value → Heap → Prop} {h : Heap} {cells slots pc pc' : Nat} {Ls Ls' : Array Slot} {st st' : List Value} {a0 : Array Value}
theorem Go.of (k : Go wd l R Z y bytes maxL ret n0 K N Q h cells slots pc' Ls' st')
    (q : ∀ (p : Program) (e : Env) (s : State) (m : MethodId) (args : Array Value) (below : List Frame) (meth : Method) (c : Code) (T : State) (locs : List Loc), Own Z y bytes maxL ret p s m meth c → Stand p l e R s m args below meth c T locs cells slots → T.heap = h →
      ∀ target, Steps p.tables e below (T.setTop (mkF m pc' Ls' st')) target → Steps p.tables e below (T.setTop (mkF m pc Ls st)) target) : Go wd l R Z y bytes maxL ret n0 K N Q h cells slots pc Ls st := by
  intro p e s0 s m args below meth c T locs hR O X eT F
  obtain ⟨s₂, o, h1, r⟩ := k p e s0 s m args below meth c T locs hR O X eT F
  exact ⟨s₂, o, q p e s m args below meth c T locs O X eT _ h1, r⟩
theorem Go.weaken {Q' : Option Value → Heap → Prop} (hQ : ∀ v h, Q' v h → Q v h) (k : Go wd l R Z y bytes maxL ret n0 K N Q' h cells slots pc Ls st) : Go wd l R Z y bytes maxL ret n0 K N Q h cells slots pc Ls st := by
  intro p e s0 s m args below meth c T locs hR O X eT F
  obtain ⟨s₂, o, h1, h2, h3, v, L, h4, h5, h6⟩ := k p e s0 s m args below meth c T locs hR O X eT F
  exact ⟨s₂, o, h1, h2, h3, v, L, h4, ⟨hQ _ _ h5.1, h5.2⟩, h6⟩
/-! plain steps -/
theorem Go.iload {k : Nat} {v : Int32} (hd : decode bytes pc = .ok (.iload k, 2)) (hl : Ls[k]? = some (.val (.int v))) (hp : pc + 2 = pc') (q : Go wd l R Z y bytes maxL ret n0 K N Q h cells slots pc' Ls (.int v :: st)) : Go wd l R Z y bytes maxL ret n0 K N Q h cells slots pc Ls st := by
  subst hp; exact Go.of q fun p e s m args below meth c T locs O X eT t hr => XS.iload X.here O.1 rfl (hb O.2.1 hd) hl hr
theorem Go.iloadN {k : Fin 4} {v : Int32} (hd : decode bytes pc = .ok (.iload_n k, 1)) (hl : Ls[k.val]? = some (.val (.int v))) (hp : pc + 1 = pc') (q : Go wd l R Z y bytes maxL ret n0 K N Q h cells slots pc' Ls (.int v :: st)) : Go wd l R Z y bytes maxL ret n0 K N Q h cells slots pc Ls st := by
  subst hp; exact Go.of q fun p e s m args below meth c T locs O X eT t hr => XS.iloadN X.here O.1 rfl (hb O.2.1 hd) hl hr
theorem Go.lload {k : Nat} {v : Int64} (hd : decode bytes pc = .ok (.lload k, 2)) (hl : Ls[k]? = some (.val (.long v))) (hp : pc + 2 = pc') (q : Go wd l R Z y bytes maxL ret n0 K N Q h cells slots pc' Ls (.long v :: st)) : Go wd l R Z y bytes maxL ret n0 K N Q h cells slots pc Ls st := by
  subst hp; exact Go.of q fun p e s m args below meth c T locs O X eT t hr => XS.lload X.here O.1 rfl (hb O.2.1 hd) hl hr
theorem Go.lloadN {k : Fin 4} {v : Int64} (hd : decode bytes pc = .ok (.lload_n k, 1)) (hl : Ls[k.val]? = some (.val (.long v))) (hp : pc + 1 = pc') (q : Go wd l R Z y bytes maxL ret n0 K N Q h cells slots pc' Ls (.long v :: st)) : Go wd l R Z y bytes maxL ret n0 K N Q h cells slots pc Ls st := by
  subst hp; exact Go.of q fun p e s m args below meth c T locs O X eT t hr => XS.lloadN X.here O.1 rfl (hb O.2.1 hd) hl hr
theorem Go.aload {k : Nat} {v : Value} (hd : decode bytes pc = .ok (.aload k, 2)) (hl : Ls[k]? = some (.val v)) (hv : v.isRef = true) (hp : pc + 2 = pc') (q : Go wd l R Z y bytes maxL ret n0 K N Q h cells slots pc' Ls (v :: st)) : Go wd l R Z y bytes maxL ret n0 K N Q h cells slots pc Ls st := by
  subst hp; exact Go.of q fun p e s m args below meth c T locs O X eT t hr => XS.aload X.here O.1 rfl (hb O.2.1 hd) hl hv hr
theorem Go.aloadN {k : Fin 4} {v : Value} (hd : decode bytes pc = .ok (.aload_n k, 1)) (hl : Ls[k.val]? = some (.val v)) (hv : v.isRef = true) (hp : pc + 1 = pc') (q : Go wd l R Z y bytes maxL ret n0 K N Q h cells slots pc' Ls (v :: st)) : Go wd l R Z y bytes maxL ret n0 K N Q h cells slots pc Ls st := by
  subst hp; exact Go.of q fun p e s m args below meth c T locs O X eT t hr => XS.aloadN X.here O.1 rfl (hb O.2.1 hd) hl hv hr
theorem Go.istore {k : Nat} {v : Int32} (hd : decode bytes pc = .ok (.istore k, 2)) (hl : storeLocals Ls k (.int v) = some Ls') (hp : pc + 2 = pc') (q : Go wd l R Z y bytes maxL ret n0 K N Q h cells slots pc' Ls' st) : Go wd l R Z y bytes maxL ret n0 K N Q h cells slots pc Ls (.int v :: st) := by
  subst hp; exact Go.of q fun p e s m args below meth c T locs O X eT t hr => XS.istore X.here O.1 rfl (hb O.2.1 hd) rfl hl hr
theorem Go.istoreN {k : Fin 4} {v : Int32} (hd : decode bytes pc = .ok (.istore_n k, 1)) (hl : storeLocals Ls k.val (.int v) = some Ls') (hp : pc + 1 = pc') (q : Go wd l R Z y bytes maxL ret n0 K N Q h cells slots pc' Ls' st) : Go wd l R Z y bytes maxL ret n0 K N Q h cells slots pc Ls (.int v :: st) := by
  subst hp; exact Go.of q fun p e s m args below meth c T locs O X eT t hr => XS.istoreN X.here O.1 rfl (hb O.2.1 hd) rfl hl hr
theorem Go.lstore {k : Nat} {v : Int64} (hd : decode bytes pc = .ok (.lstore k, 2)) (hl : storeLocals Ls k (.long v) = some Ls') (hp : pc + 2 = pc') (q : Go wd l R Z y bytes maxL ret n0 K N Q h cells slots pc' Ls' st) : Go wd l R Z y bytes maxL ret n0 K N Q h cells slots pc Ls (.long v :: st) := by
  subst hp; exact Go.of q fun p e s m args below meth c T locs O X eT t hr => XS.lstore X.here O.1 rfl (hb O.2.1 hd) rfl hl hr
theorem Go.lstoreN {k : Fin 4} {v : Int64} (hd : decode bytes pc = .ok (.lstore_n k, 1)) (hl : storeLocals Ls k.val (.long v) = some Ls') (hp : pc + 1 = pc') (q : Go wd l R Z y bytes maxL ret n0 K N Q h cells slots pc' Ls' st) : Go wd l R Z y bytes maxL ret n0 K N Q h cells slots pc Ls (.long v :: st) := by
  subst hp; exact Go.of q fun p e s m args below meth c T locs O X eT t hr => XS.lstoreN X.here O.1 rfl (hb O.2.1 hd) rfl hl hr
theorem Go.astore {k : Nat} {v : Value} (hd : decode bytes pc = .ok (.astore k, 2)) (hv : v.isRef = true) (hl : storeLocals Ls k v = some Ls') (hp : pc + 2 = pc') (q : Go wd l R Z y bytes maxL ret n0 K N Q h cells slots pc' Ls' st) : Go wd l R Z y bytes maxL ret n0 K N Q h cells slots pc Ls (v :: st) := by
  subst hp; exact Go.of q fun p e s m args below meth c T locs O X eT t hr => XS.astore X.here O.1 rfl (hb O.2.1 hd) rfl hv hl hr
theorem Go.astoreN {k : Fin 4} {v : Value} (hd : decode bytes pc = .ok (.astore_n k, 1)) (hv : v.isRef = true) (hl : storeLocals Ls k.val v = some Ls') (hp : pc + 1 = pc') (q : Go wd l R Z y bytes maxL ret n0 K N Q h cells slots pc' Ls' st) : Go wd l R Z y bytes maxL ret n0 K N Q h cells slots pc Ls (v :: st) := by
  subst hp; exact Go.of q fun p e s m args below meth c T locs O X eT t hr => XS.astoreN X.here O.1 rfl (hb O.2.1 hd) rfl hv hl hr
theorem Go.iinc {k : Nat} {cst : Int} {v w : Int32} (hd : decode bytes pc = .ok (.iinc k cst, 3)) (hl : Ls[k]? = some (.val (.int v))) (hw : v + Int32.ofInt cst = w) (hl' : storeLocals Ls k (.int w) = some Ls') (hp : pc + 3 = pc') (q : Go wd l R Z y bytes maxL ret n0 K N Q h cells slots pc' Ls' st) : Go wd l R Z y bytes maxL ret n0 K N Q h cells slots pc Ls st := by
  subst hp hw; exact Go.of q fun p e s m args below meth c T locs O X eT t hr => XS.iinc X.here O.1 rfl (hb O.2.1 hd) hl hl' hr
theorem Go.iconst {i : Int} {v : Int32} (hd : decode bytes pc = .ok (.iconst i, 1)) (hv : Int32.ofInt i = v) (hp : pc + 1 = pc') (q : Go wd l R Z y bytes maxL ret n0 K N Q h cells slots pc' Ls (.int v :: st)) : Go wd l R Z y bytes maxL ret n0 K N Q h cells slots pc Ls st := by
  subst hp hv; exact Go.of q fun p e s m args below meth c T locs O X eT t hr => XS.iconst X.here O.1 rfl (hb O.2.1 hd) hr
theorem Go.bipush {i : Int} {v : Int32} (hd : decode bytes pc = .ok (.bipush i, 2)) (hv : (Int8.ofInt i).toInt32 = v) (hp : pc + 2 = pc') (q : Go wd l R Z y bytes maxL ret n0 K N Q h cells slots pc' Ls (.int v :: st)) : Go wd l R Z y bytes maxL ret n0 K N Q h cells slots pc Ls st := by
  subst hp hv; exact Go.of q fun p e s m args below meth c T locs O X eT t hr => XS.bipush X.here O.1 rfl (hb O.2.1 hd) hr
theorem Go.sipush {i : Int} {v : Int32} (hd : decode bytes pc = .ok (.sipush i, 3)) (hv : (Int16.ofInt i).toInt32 = v) (hp : pc + 3 = pc') (q : Go wd l R Z y bytes maxL ret n0 K N Q h cells slots pc' Ls (.int v :: st)) : Go wd l R Z y bytes maxL ret n0 K N Q h cells slots pc Ls st := by
  subst hp hv; exact Go.of q fun p e s m args below meth c T locs O X eT t hr => XS.sipush X.here O.1 rfl (hb O.2.1 hd) hr
theorem Go.lconst {k : Fin 2} {v : Int64} (hd : decode bytes pc = .ok (.lconst k, 1)) (hv : Int64.ofNat k = v) (hp : pc + 1 = pc') (q : Go wd l R Z y bytes maxL ret n0 K N Q h cells slots pc' Ls (.long v :: st)) : Go wd l R Z y bytes maxL ret n0 K N Q h cells slots pc Ls st := by
  subst hp hv; exact Go.of q fun p e s m args below meth c T locs O X eT t hr => XS.lconst X.here O.1 rfl (hb O.2.1 hd) hr
theorem Go.aconstNull (hd : decode bytes pc = .ok (.aconst_null, 1)) (hp : pc + 1 = pc') (q : Go wd l R Z y bytes maxL ret n0 K N Q h cells slots pc' Ls (.null :: st)) : Go wd l R Z y bytes maxL ret n0 K N Q h cells slots pc Ls st := by
  subst hp; exact Go.of q fun p e s m args below meth c T locs O X eT t hr => XS.aconstNull X.here O.1 rfl (hb O.2.1 hd) hr
theorem Go.dup {v : Value} (hd : decode bytes pc = .ok (.dup, 1)) (hv : v.category = 1) (hp : pc + 1 = pc') (q : Go wd l R Z y bytes maxL ret n0 K N Q h cells slots pc' Ls (v :: v :: st)) : Go wd l R Z y bytes maxL ret n0 K N Q h cells slots pc Ls (v :: st) := by
  subst hp; exact Go.of q fun p e s m args below meth c T locs O X eT t hr => XS.dup X.here O.1 rfl (hb O.2.1 hd) rfl hv hr
theorem Go.dupX1 {v w : Value} (hd : decode bytes pc = .ok (.dup_x1, 1)) (hv : v.category = 1) (hw : w.category = 1) (hp : pc + 1 = pc') (q : Go wd l R Z y bytes maxL ret n0 K N Q h cells slots pc' Ls (v :: w :: v :: st)) : Go wd l R Z y bytes maxL ret n0 K N Q h cells slots pc Ls (v :: w :: st) := by
  subst hp; exact Go.of q fun p e s m args below meth c T locs O X eT t hr => XS.dupX1 X.here O.1 rfl (hb O.2.1 hd) rfl hv hw hr
theorem Go.dup2 {v w : Value} (hd : decode bytes pc = .ok (.dup2, 1)) (hv : v.category = 1) (hw : w.category = 1) (hp : pc + 1 = pc') (q : Go wd l R Z y bytes maxL ret n0 K N Q h cells slots pc' Ls (v :: w :: v :: w :: st)) : Go wd l R Z y bytes maxL ret n0 K N Q h cells slots pc Ls (v :: w :: st) := by
  subst hp; exact Go.of q fun p e s m args below meth c T locs O X eT t hr => XT.dup2 X.here O.1 rfl (hb O.2.1 hd) rfl hv hw hr
theorem Go.pop {v : Value} (hd : decode bytes pc = .ok (.pop, 1)) (hv : v.category = 1) (hp : pc + 1 = pc') (q : Go wd l R Z y bytes maxL ret n0 K N Q h cells slots pc' Ls st) : Go wd l R Z y bytes maxL ret n0 K N Q h cells slots pc Ls (v :: st) := by
  subst hp; exact Go.of q fun p e s m args below meth c T locs O X eT t hr => XS.pop X.here O.1 rfl (hb O.2.1 hd) rfl hv hr
theorem Go.goto {o : Int} (hd : decode bytes pc = .ok (.goto o, 3)) (ho : 0 ≤ (pc : Int) + o) (hp : ((pc : Int) + o).toNat = pc') (q : Go wd l R Z y bytes maxL ret n0 K N Q h cells slots pc' Ls st) : Go wd l R Z y bytes maxL ret n0 K N Q h cells slots pc Ls st :=
  Go.of q fun p e s m args below meth c T locs O X eT t hr => XS.goto X.here O.1 rfl (pc0 := pc) rfl (hb O.2.1 hd) ho hp hr
theorem Go.iadd {a : Int32} {b : Int32} (hd : decode bytes pc = .ok (.iadd, 1)) (hp : pc + 1 = pc') (q : Go wd l R Z y bytes maxL ret n0 K N Q h cells slots pc' Ls (.int (a + b) :: st)) : Go wd l R Z y bytes maxL ret n0 K N Q h cells slots pc Ls (.int b :: .int a :: st) := by
  subst hp; exact Go.of q fun p e s m args below meth c T locs O X eT t hr => XS.iadd X.here O.1 rfl (hb O.2.1 hd) rfl hr
theorem Go.isub {a : Int32} {b : Int32} (hd : decode bytes pc = .ok (.isub, 1)) (hp : pc + 1 = pc') (q : Go wd l R Z y bytes maxL ret n0 K N Q h cells slots pc' Ls (.int (a - b) :: st)) : Go wd l R Z y bytes maxL ret n0 K N Q h cells slots pc Ls (.int b :: .int a :: st) := by
  subst hp; exact Go.of q fun p e s m args below meth c T locs O X eT t hr => XS.isub X.here O.1 rfl (hb O.2.1 hd) rfl hr
theorem Go.imul {a : Int32} {b : Int32} (hd : decode bytes pc = .ok (.imul, 1)) (hp : pc + 1 = pc') (q : Go wd l R Z y bytes maxL ret n0 K N Q h cells slots pc' Ls (.int (a * b) :: st)) : Go wd l R Z y bytes maxL ret n0 K N Q h cells slots pc Ls (.int b :: .int a :: st) := by
  subst hp; exact Go.of q fun p e s m args below meth c T locs O X eT t hr => XS.imul X.here O.1 rfl (hb O.2.1 hd) rfl hr
theorem Go.iand {a : Int32} {b : Int32} (hd : decode bytes pc = .ok (.iand, 1)) (hp : pc + 1 = pc') (q : Go wd l R Z y bytes maxL ret n0 K N Q h cells slots pc' Ls (.int (a &&& b) :: st)) : Go wd l R Z y bytes maxL ret n0 K N Q h cells slots pc Ls (.int b :: .int a :: st) := by
  subst hp; exact Go.of q fun p e s m args below meth c T locs O X eT t hr => XS.iand X.here O.1 rfl (hb O.2.1 hd) rfl hr
theorem Go.ior {a : Int32} {b : Int32} (hd : decode bytes pc = .ok (.ior, 1)) (hp : pc + 1 = pc') (q : Go wd l R Z y bytes maxL ret n0 K N Q h cells slots pc' Ls (.int (a ||| b) :: st)) : Go wd l R Z y bytes maxL ret n0 K N Q h cells slots pc Ls (.int b :: .int a :: st) := by
  subst hp; exact Go.of q fun p e s m args below meth c T locs O X eT t hr => XS.ior X.here O.1 rfl (hb O.2.1 hd) rfl hr
theorem Go.ixor {a : Int32} {b : Int32} (hd : decode bytes pc = .ok (.ixor, 1)) (hp : pc + 1 = pc') (q : Go wd l R Z y bytes maxL ret n0 K N Q h cells slots pc' Ls (.int (a ^^^ b) :: st)) : Go wd l R Z y bytes maxL ret n0 K N Q h cells slots pc Ls (.int b :: .int a :: st) := by
  subst hp; exact Go.of q fun p e s m args below meth c T locs O X eT t hr => XS.ixor X.here O.1 rfl (hb O.2.1 hd) rfl hr
theorem Go.ishl {a : Int32} {b : Int32} (hd : decode bytes pc = .ok (.ishl, 1)) (hp : pc + 1 = pc') (q : Go wd l R Z y bytes maxL ret n0 K N Q h cells slots pc' Ls (.int (a <<< (b &&& 31)) :: st)) : Go wd l R Z y bytes maxL ret n0 K N Q h cells slots pc Ls (.int b :: .int a :: st) := by
  subst hp; exact Go.of q fun p e s m args below meth c T locs O X eT t hr => XS.ishl X.here O.1 rfl (hb O.2.1 hd) rfl hr
theorem Go.ishr {a : Int32} {b : Int32} (hd : decode bytes pc = .ok (.ishr, 1)) (hp : pc + 1 = pc') (q : Go wd l R Z y bytes maxL ret n0 K N Q h cells slots pc' Ls (.int (a >>> (b &&& 31)) :: st)) : Go wd l R Z y bytes maxL ret n0 K N Q h cells slots pc Ls (.int b :: .int a :: st) := by
  subst hp; exact Go.of q fun p e s m args below meth c T locs O X eT t hr => XS.ishr X.here O.1 rfl (hb O.2.1 hd) rfl hr
theorem Go.iushr {a : Int32} {b : Int32} (hd : decode bytes pc = .ok (.iushr, 1)) (hp : pc + 1 = pc') (q : Go wd l R Z y bytes maxL ret n0 K N Q h cells slots pc' Ls (.int ((a.toUInt32 >>> (b &&& 31).toUInt32).toInt32) :: st)) : Go wd l R Z y bytes maxL ret n0 K N Q h cells slots pc Ls (.int b :: .int a :: st) := by
  subst hp; exact Go.of q fun p e s m args below meth c T locs O X eT t hr => XS.iushr X.here O.1 rfl (hb O.2.1 hd) rfl hr
theorem Go.idiv {a : Int32} {b : Int32} (hd : decode bytes pc = .ok (.idiv, 1)) (hy : b ≠ 0) (hp : pc + 1 = pc') (q : Go wd l R Z y bytes maxL ret n0 K N Q h cells slots pc' Ls (.int (a / b) :: st)) : Go wd l R Z y bytes maxL ret n0 K N Q h cells slots pc Ls (.int b :: .int a :: st) := by
  subst hp; exact Go.of q fun p e s m args below meth c T locs O X eT t hr => XS.idiv X.here O.1 rfl (hb O.2.1 hd) rfl hy hr
theorem Go.ladd {a : Int64} {b : Int64} (hd : decode bytes pc = .ok (.ladd, 1)) (hp : pc + 1 = pc') (q : Go wd l R Z y bytes maxL ret n0 K N Q h cells slots pc' Ls (.long (a + b) :: st)) : Go wd l R Z y bytes maxL ret n0 K N Q h cells slots pc Ls (.long b :: .long a :: st) := by
  subst hp; exact Go.of q fun p e s m args below meth c T locs O X eT t hr => XS.ladd X.here O.1 rfl (hb O.2.1 hd) rfl hr
theorem Go.lsub {a : Int64} {b : Int64} (hd : decode bytes pc = .ok (.lsub, 1)) (hp : pc + 1 = pc') (q : Go wd l R Z y bytes maxL ret n0 K N Q h cells slots pc' Ls (.long (a - b) :: st)) : Go wd l R Z y bytes maxL ret n0 K N Q h cells slots pc Ls (.long b :: .long a :: st) := by
  subst hp; exact Go.of q fun p e s m args below meth c T locs O X eT t hr => XS.lsub X.here O.1 rfl (hb O.2.1 hd) rfl hr
theorem Go.lmul {a : Int64} {b : Int64} (hd : decode bytes pc = .ok (.lmul, 1)) (hp : pc + 1 = pc') (q : Go wd l R Z y bytes maxL ret n0 K N Q h cells slots pc' Ls (.long (a * b) :: st)) : Go wd l R Z y bytes maxL ret n0 K N Q h cells slots pc Ls (.long b :: .long a :: st) := by
  subst hp; exact Go.of q fun p e s m args below meth c T locs O X eT t hr => XS.lmul X.here O.1 rfl (hb O.2.1 hd) rfl hr
theorem Go.land {a : Int64} {b : Int64} (hd : decode bytes pc = .ok (.land, 1)) (hp : pc + 1 = pc') (q : Go wd l R Z y bytes maxL ret n0 K N Q h cells slots pc' Ls (.long (a &&& b) :: st)) : Go wd l R Z y bytes maxL ret n0 K N Q h cells slots pc Ls (.long b :: .long a :: st) := by
  subst hp; exact Go.of q fun p e s m args below meth c T locs O X eT t hr => XS.land X.here O.1 rfl (hb O.2.1 hd) rfl hr
theorem Go.lor {a : Int64} {b : Int64} (hd : decode bytes pc = .ok (.lor, 1)) (hp : pc + 1 = pc') (q : Go wd l R Z y bytes maxL ret n0 K N Q h cells slots pc' Ls (.long (a ||| b) :: st)) : Go wd l R Z y bytes maxL ret n0 K N Q h cells slots pc Ls (.long b :: .long a :: st) := by
  subst hp; exact Go.of q fun p e s m args below meth c T locs O X eT t hr => XS.lor X.here O.1 rfl (hb O.2.1 hd) rfl hr
theorem Go.lxor {a : Int64} {b : Int64} (hd : decode bytes pc = .ok (.lxor, 1)) (hp : pc + 1 = pc') (q : Go wd l R Z y bytes maxL ret n0 K N Q h cells slots pc' Ls (.long (a ^^^ b) :: st)) : Go wd l R Z y bytes maxL ret n0 K N Q h cells slots pc Ls (.long b :: .long a :: st) := by
  subst hp; exact Go.of q fun p e s m args below meth c T locs O X eT t hr => XS.lxor X.here O.1 rfl (hb O.2.1 hd) rfl hr
theorem Go.lshl {a : Int64} {b : Int32} (hd : decode bytes pc = .ok (.lshl, 1)) (hp : pc + 1 = pc') (q : Go wd l R Z y bytes maxL ret n0 K N Q h cells slots pc' Ls (.long (a <<< (b &&& 0x3f).toInt64) :: st)) : Go wd l R Z y bytes maxL ret n0 K N Q h cells slots pc Ls (.int b :: .long a :: st) := by
  subst hp; exact Go.of q fun p e s m args below meth c T locs O X eT t hr => XS.lshl X.here O.1 rfl (hb O.2.1 hd) rfl hr
theorem Go.lshr {a : Int64} {b : Int32} (hd : decode bytes pc = .ok (.lshr, 1)) (hp : pc + 1 = pc') (q : Go wd l R Z y bytes maxL ret n0 K N Q h cells slots pc' Ls (.long (a >>> (b &&& 0x3f).toInt64) :: st)) : Go wd l R Z y bytes maxL ret n0 K N Q h cells slots pc Ls (.int b :: .long a :: st) := by
  subst hp; exact Go.of q fun p e s m args below meth c T locs O X eT t hr => XS.lshr X.here O.1 rfl (hb O.2.1 hd) rfl hr
theorem Go.lushr {a : Int64} {b : Int32} (hd : decode bytes pc = .ok (.lushr, 1)) (hp : pc + 1 = pc') (q : Go wd l R Z y bytes maxL ret n0 K N Q h cells slots pc' Ls (.long ((a.toUInt64 >>> (b &&& 0x3f).toInt64.toUInt64).toInt64) :: st)) : Go wd l R Z y bytes maxL ret n0 K N Q h cells slots pc Ls (.int b :: .long a :: st) := by
  subst hp; exact Go.of q fun p e s m args below meth c T locs O X eT t hr => XS.lushr X.here O.1 rfl (hb O.2.1 hd) rfl hr
theorem Go.ldiv {a : Int64} {b : Int64} (hd : decode bytes pc = .ok (.ldiv, 1)) (hy : b ≠ 0) (hp : pc + 1 = pc') (q : Go wd l R Z y bytes maxL ret n0 K N Q h cells slots pc' Ls (.long (a / b) :: st)) : Go wd l R Z y bytes maxL ret n0 K N Q h cells slots pc Ls (.long b :: .long a :: st) := by
  subst hp; exact Go.of q fun p e s m args below meth c T locs O X eT t hr => XS.ldiv X.here O.1 rfl (hb O.2.1 hd) rfl hy hr
theorem Go.i2b {a : Int32} (hd : decode bytes pc = .ok (.i2b, 1)) (hp : pc + 1 = pc') (q : Go wd l R Z y bytes maxL ret n0 K N Q h cells slots pc' Ls (.int (a.toInt8.toInt32) :: st)) : Go wd l R Z y bytes maxL ret n0 K N Q h cells slots pc Ls (.int a :: st) := by
  subst hp; exact Go.of q fun p e s m args below meth c T locs O X eT t hr => XS.i2b X.here O.1 rfl (hb O.2.1 hd) rfl hr
theorem Go.i2c {a : Int32} (hd : decode bytes pc = .ok (.i2c, 1)) (hp : pc + 1 = pc') (q : Go wd l R Z y bytes maxL ret n0 K N Q h cells slots pc' Ls (.int (a.toUInt32.toUInt16.toUInt32.toInt32) :: st)) : Go wd l R Z y bytes maxL ret n0 K N Q h cells slots pc Ls (.int a :: st) := by
  subst hp; exact Go.of q fun p e s m args below meth c T locs O X eT t hr => XS.i2c X.here O.1 rfl (hb O.2.1 hd) rfl hr
theorem Go.i2s {a : Int32} (hd : decode bytes pc = .ok (.i2s, 1)) (hp : pc + 1 = pc') (q : Go wd l R Z y bytes maxL ret n0 K N Q h cells slots pc' Ls (.int (a.toInt16.toInt32) :: st)) : Go wd l R Z y bytes maxL ret n0 K N Q h cells slots pc Ls (.int a :: st) := by
  subst hp; exact Go.of q fun p e s m args below meth c T locs O X eT t hr => XS.i2s X.here O.1 rfl (hb O.2.1 hd) rfl hr
theorem Go.i2l {a : Int32} (hd : decode bytes pc = .ok (.i2l, 1)) (hp : pc + 1 = pc') (q : Go wd l R Z y bytes maxL ret n0 K N Q h cells slots pc' Ls (.long (a.toInt64) :: st)) : Go wd l R Z y bytes maxL ret n0 K N Q h cells slots pc Ls (.int a :: st) := by
  subst hp; exact Go.of q fun p e s m args below meth c T locs O X eT t hr => XS.i2l X.here O.1 rfl (hb O.2.1 hd) rfl hr
theorem Go.l2i {a : Int64} (hd : decode bytes pc = .ok (.l2i, 1)) (hp : pc + 1 = pc') (q : Go wd l R Z y bytes maxL ret n0 K N Q h cells slots pc' Ls (.int (a.toInt32) :: st)) : Go wd l R Z y bytes maxL ret n0 K N Q h cells slots pc Ls (.long a :: st) := by
  subst hp; exact Go.of q fun p e s m args below meth c T locs O X eT t hr => XS.l2i X.here O.1 rfl (hb O.2.1 hd) rfl hr
theorem Go.lneg {a : Int64} (hd : decode bytes pc = .ok (.lneg, 1)) (hp : pc + 1 = pc') (q : Go wd l R Z y bytes maxL ret n0 K N Q h cells slots pc' Ls (.long (-a) :: st)) : Go wd l R Z y bytes maxL ret n0 K N Q h cells slots pc Ls (.long a :: st) := by
  subst hp; exact Go.of q fun p e s m args below meth c T locs O X eT t hr => XS.lneg X.here O.1 rfl (hb O.2.1 hd) rfl hr
theorem Go.ineg {a : Int32} (hd : decode bytes pc = .ok (.ineg, 1)) (hp : pc + 1 = pc') (q : Go wd l R Z y bytes maxL ret n0 K N Q h cells slots pc' Ls (.int (-a) :: st)) : Go wd l R Z y bytes maxL ret n0 K N Q h cells slots pc Ls (.int a :: st) := by
  subst hp; exact Go.of q fun p e s m args below meth c T locs O X eT t hr => XS.ineg X.here O.1 rfl (hb O.2.1 hd) rfl hr
theorem Go.irem {a b : Int32} (hd : decode bytes pc = .ok (.irem, 1)) (hy : b ≠ 0) (hp : pc + 1 = pc') (q : Go wd l R Z y bytes maxL ret n0 K N Q h cells slots pc' Ls (.int (a % b) :: st)) : Go wd l R Z y bytes maxL ret n0 K N Q h cells slots pc Ls (.int b :: .int a :: st) := by
  subst hp; exact Go.of q fun p e s m args below meth c T locs O X eT t hr => iremM X O.1 rfl (hb O.2.1 hd) rfl hy hr
theorem Go.lrem {a b : Int64} (hd : decode bytes pc = .ok (.lrem, 1)) (hy : b ≠ 0) (hp : pc + 1 = pc') (q : Go wd l R Z y bytes maxL ret n0 K N Q h cells slots pc' Ls (.long (a % b) :: st)) : Go wd l R Z y bytes maxL ret n0 K N Q h cells slots pc Ls (.long b :: .long a :: st) := by
  subst hp; rw [← lrem_mod] at q; exact Go.of q fun p e s m args below meth c T locs O X eT t hr => XS.lrem X.here O.1 rfl (hb O.2.1 hd) rfl hy hr
theorem c_lremM (x y : Int64) (d : Int) (hy : y.toInt = d) : (0 ≤ x.toInt → (x % y).toInt = x.toInt % d) ∧ (x.toInt < 0 → (x % y).toInt = -((-x.toInt) % d)) := by rw [Int64.toInt_mod, hy]; exact tr _ _
/-! branches -/
def jc : ClassFile.Cond → Int32 → Int32 → Prop
  | .eq, x, y => x.toInt = y.toInt
  | .ne, x, y => x.toInt ≠ y.toInt
  | .lt, x, y => x.toInt < y.toInt
  | .ge, x, y => y.toInt ≤ x.toInt
  | .gt, x, y => y.toInt < x.toInt
  | .le, x, y => x.toInt ≤ y.toInt
def jn : ClassFile.Cond → Int32 → Int32 → Prop
  | .eq, x, y => x.toInt ≠ y.toInt
  | .ne, x, y => x.toInt = y.toInt
  | .lt, x, y => y.toInt ≤ x.toInt
  | .ge, x, y => x.toInt < y.toInt
  | .gt, x, y => x.toInt ≤ y.toInt
  | .le, x, y => y.toInt < x.toInt
def zc : ClassFile.Cond → Int32 → Prop
  | .eq, x => x.toInt = 0
  | .ne, x => x.toInt ≠ 0
  | .lt, x => x.toInt < 0
  | .ge, x => 0 ≤ x.toInt
  | .gt, x => 0 < x.toInt
  | .le, x => x.toInt ≤ 0
def zn : ClassFile.Cond → Int32 → Prop
  | .eq, x => x.toInt ≠ 0
  | .ne, x => x.toInt = 0
  | .lt, x => 0 ≤ x.toInt
  | .ge, x => x.toInt < 0
  | .gt, x => x.toInt ≤ 0
  | .le, x => 0 < x.toInt
def wc : ClassFile.Cond → Int64 → Int64 → Prop
  | .eq, x, y => x.toInt = y.toInt
  | .ne, x, y => x.toInt ≠ y.toInt
  | .lt, x, y => x.toInt < y.toInt
  | .ge, x, y => y.toInt ≤ x.toInt
  | .gt, x, y => y.toInt < x.toInt
  | .le, x, y => x.toInt ≤ y.toInt
def wn : ClassFile.Cond → Int64 → Int64 → Prop
  | .eq, x, y => x.toInt ≠ y.toInt
  | .ne, x, y => x.toInt = y.toInt
  | .lt, x, y => y.toInt ≤ x.toInt
  | .ge, x, y => x.toInt < y.toInt
  | .gt, x, y => x.toInt ≤ y.toInt
  | .le, x, y => y.toInt < x.toInt
theorem jc_or (cd : ClassFile.Cond) (x y : Int32) : (if_icmp.holds cd x y = true ∧ jc cd x y) ∨ (if_icmp.holds cd x y = false ∧ jn cd x y) := by
  have i : x = y ↔ x.toInt = y.toInt := Int32.toInt_inj.symm
  cases cd <;> simp only [if_icmp.holds, jc, jn, beq_iff_eq, bne_iff_ne, beq_eq_false_iff_ne, bne_eq_false_iff_eq, decide_eq_true_eq, decide_eq_false_iff_not, Int32.lt_iff_toInt_lt, Int32.le_iff_toInt_le, ge_iff_le, gt_iff_lt, ne_eq, i] <;> omega
theorem zc_or (cd : ClassFile.Cond) (x : Int32) : (ifCond.holds cd x = true ∧ zc cd x) ∨ (ifCond.holds cd x = false ∧ zn cd x) := by
  have z : (0 : Int32).toInt = 0 := rfl
  rcases jc_or cd x 0 with ⟨q, r⟩ | ⟨q, r⟩
  · left; rw [if0]; refine ⟨q, ?_⟩; cases cd <;> simp only [jc, zc, z] at r ⊢ <;> exact r
  · right; rw [if0]; refine ⟨q, ?_⟩; cases cd <;> simp only [jn, zn, z] at r ⊢ <;> exact r
theorem wc_or (cd : ClassFile.Cond) (x y : Int64) : (ifCond.holds cd (lcmpW x y) = true ∧ wc cd x y) ∨ (ifCond.holds cd (lcmpW x y) = false ∧ wn cd x y) := by
  have e := c_lcmp x y
  rcases zc_or cd (lcmpW x y) with ⟨q, r⟩ | ⟨q, r⟩
  · left; refine ⟨q, ?_⟩; cases cd <;> simp only [zc, wc, ne_eq] at r ⊢ <;> omega
  · right; refine ⟨q, ?_⟩; cases cd <;> simp only [zn, wn, ne_eq] at r ⊢ <;> omega
theorem Go.icmp {cd : ClassFile.Cond} {o : Int} {x z : Int32} {pc1 pc2 : Nat} (hd : decode bytes pc = .ok (.if_icmp cd o, 3)) (ho : 0 ≤ (pc : Int) + o) (hp : ((pc : Int) + o).toNat = pc1) (hp2 : pc + 3 = pc2)
    (q1 : jc cd x z → Go wd l R Z y bytes maxL ret n0 K N Q h cells slots pc1 Ls st) (q2 : jn cd x z → Go wd l R Z y bytes maxL ret n0 K N Q h cells slots pc2 Ls st) : Go wd l R Z y bytes maxL ret n0 K N Q h cells slots pc Ls (.int z :: .int x :: st) := by
  rcases jc_or cd x z with ⟨hc, r⟩ | ⟨hc, r⟩
  · exact Go.of (q1 r) fun p e s m args below meth c T locs O X eT t hr => XS.icmpYes X.here O.1 rfl (pc0 := pc) rfl (hb O.2.1 hd) rfl hc ho hp hr
  · subst hp2; exact Go.of (q2 r) fun p e s m args below meth c T locs O X eT t hr => XS.icmpNo X.here O.1 rfl (hb O.2.1 hd) rfl hc hr
theorem Go.ifc {cd : ClassFile.Cond} {o : Int} {x : Int32} {pc1 pc2 : Nat} (hd : decode bytes pc = .ok (.ifCond cd o, 3)) (ho : 0 ≤ (pc : Int) + o) (hp : ((pc : Int) + o).toNat = pc1) (hp2 : pc + 3 = pc2)
    (q1 : zc cd x → Go wd l R Z y bytes maxL ret n0 K N Q h cells slots pc1 Ls st) (q2 : zn cd x → Go wd l R Z y bytes maxL ret n0 K N Q h cells slots pc2 Ls st) : Go wd l R Z y bytes maxL ret n0 K N Q h cells slots pc Ls (.int x :: st) := by
  rcases zc_or cd x with ⟨hc, r⟩ | ⟨hc, r⟩
  · exact Go.of (q1 r) fun p e s m args below meth c T locs O X eT t hr => XS.ifYes X.here O.1 rfl (pc0 := pc) rfl (hb O.2.1 hd) rfl hc ho hp hr
  · subst hp2; exact Go.of (q2 r) fun p e s m args below meth c T locs O X eT t hr => XS.ifNo X.here O.1 rfl (hb O.2.1 hd) rfl hc hr
theorem Go.lcmp {a b : Int64} (hd : decode bytes pc = .ok (.lcmp, 1)) (hp : pc + 1 = pc') (q : Go wd l R Z y bytes maxL ret n0 K N Q h cells slots pc' Ls (.int (lcmpW a b) :: st)) : Go wd l R Z y bytes maxL ret n0 K N Q h cells slots pc Ls (.long b :: .long a :: st) := by
  subst hp; exact Go.of q fun p e s m args below meth c T locs O X eT t hr => XS.lcmp X.here O.1 rfl (hb O.2.1 hd) rfl hr
theorem Go.ifw {cd : ClassFile.Cond} {o : Int} {a b : Int64} {pc1 pc2 : Nat} (hd : decode bytes pc = .ok (.ifCond cd o, 3)) (ho : 0 ≤ (pc : Int) + o) (hp : ((pc : Int) + o).toNat = pc1) (hp2 : pc + 3 = pc2)
    (q1 : wc cd a b → Go wd l R Z y bytes maxL ret n0 K N Q h cells slots pc1 Ls st) (q2 : wn cd a b → Go wd l R Z y bytes maxL ret n0 K N Q h cells slots pc2 Ls st) : Go wd l R Z y bytes maxL ret n0 K N Q h cells slots pc Ls (.int (lcmpW a b) :: st) := by
  rcases wc_or cd a b with ⟨hc, r⟩ | ⟨hc, r⟩
  · exact Go.of (q1 r) fun p e s m args below meth c T locs O X eT t hr => XS.ifYes X.here O.1 rfl (pc0 := pc) rfl (hb O.2.1 hd) rfl hc ho hp hr
  · subst hp2; exact Go.of (q2 r) fun p e s m args below meth c T locs O X eT t hr => XS.ifNo X.here O.1 rfl (hb O.2.1 hd) rfl hc hr
theorem Go.nonnullYes {o : Int} {a : Addr} (hd : decode bytes pc = .ok (.ifnonnull o, 3)) (ho : 0 ≤ (pc : Int) + o) (hp : ((pc : Int) + o).toNat = pc') (q : Go wd l R Z y bytes maxL ret n0 K N Q h cells slots pc' Ls st) : Go wd l R Z y bytes maxL ret n0 K N Q h cells slots pc Ls (.ref a :: st) :=
  Go.of q fun p e s m args below meth c T locs O X eT t hr => XS.ifnonnullYes X.here O.1 rfl (pc0 := pc) rfl (hb O.2.1 hd) rfl ho hp hr
theorem Go.nonnullNo {o : Int} (hd : decode bytes pc = .ok (.ifnonnull o, 3)) (hp : pc + 3 = pc') (q : Go wd l R Z y bytes maxL ret n0 K N Q h cells slots pc' Ls st) : Go wd l R Z y bytes maxL ret n0 K N Q h cells slots pc Ls (.null :: st) := by
  subst hp; exact Go.of q fun p e s m args below meth c T locs O X eT t hr => XS.ifnonnullNo X.here O.1 rfl (hb O.2.1 hd) rfl hr
theorem Go.nullYes {o : Int} (hd : decode bytes pc = .ok (.ifnull o, 3)) (ho : 0 ≤ (pc : Int) + o) (hp : ((pc : Int) + o).toNat = pc') (q : Go wd l R Z y bytes maxL ret n0 K N Q h cells slots pc' Ls st) : Go wd l R Z y bytes maxL ret n0 K N Q h cells slots pc Ls (.null :: st) :=
  Go.of q fun p e s m args below meth c T locs O X eT t hr => XS.ifnullYes X.here O.1 rfl (pc0 := pc) rfl (hb O.2.1 hd) rfl ho hp hr
theorem Go.nullNo {o : Int} {a : Addr} (hd : decode bytes pc = .ok (.ifnull o, 3)) (hp : pc + 3 = pc') (q : Go wd l R Z y bytes maxL ret n0 K N Q h cells slots pc' Ls st) : Go wd l R Z y bytes maxL ret n0 K N Q h cells slots pc Ls (.ref a :: st) := by
  subst hp; exact Go.of q fun p e s m args below meth c T locs O X eT t hr => XS.ifnullNo X.here O.1 rfl (hb O.2.1 hd) rfl hr
/-- if_acmp: q1 where they are the same, q2 where they aren't -/
theorem Go.acmp {cd : ACond} {o : Int} {u w : Value} {pc1 pc2 : Nat} (hd : decode bytes pc = .ok (.if_acmp cd o, 3)) (hu : u.isRef = true) (hw : w.isRef = true) (ho : 0 ≤ (pc : Int) + o) (hp : (if acV cd true = true then ((pc : Int) + o).toNat else pc + 3) = pc1) (hp2 : (if acV cd false = true then ((pc : Int) + o).toNat else pc + 3) = pc2)
    (q1 : u = w → Go wd l R Z y bytes maxL ret n0 K N Q h cells slots pc1 Ls st) (q2 : u ≠ w → Go wd l R Z y bytes maxL ret n0 K N Q h cells slots pc2 Ls st) : Go wd l R Z y bytes maxL ret n0 K N Q h cells slots pc Ls (w :: u :: st) := by
  by_cases r : u = w
  · exact Go.of (q1 r) fun p e s m args below meth c T locs O X eT t hr => RoadKit.acmp X O.1 rfl hu hw (pc0 := pc) (same := true) rfl (hb O.2.1 hd) rfl (decide_eq_true r) ho hp.symm hr
  · exact Go.of (q2 r) fun p e s m args below meth c T locs O X eT t hr => RoadKit.acmp X O.1 rfl hu hw (pc0 := pc) (same := false) rfl (hb O.2.1 hd) rfl (decide_eq_false r) ho hp2.symm hr
/-! constants of the pool -/
theorem Go.ldcI {i : Nat} {v : Int32} (w : (Cond.constant y.cls i v).before a0 Z = true) (hd : decode bytes pc = .ok (.ldc i, 2)) (hp : pc + 2 = pc') (q : Go wd l R Z y bytes maxL ret n0 K N Q h cells slots pc' Ls (.int v :: st)) : Go wd l R Z y bytes maxL ret n0 K N Q h cells slots pc Ls st := by
  subst hp; exact Go.of q fun p e s m args below meth c T locs O X eT t hr => X.ldcInt O.1 O.2.2.2.1 (mvT O.2.2.2.2.2.1 w) (g := mkF m pc Ls st) rfl (hb O.2.1 hd) t hr
theorem Go.ldcW {i : Nat} {v : Int32} (w : (Cond.constant y.cls i v).before a0 Z = true) (hd : decode bytes pc = .ok (.ldc_w i, 3)) (hp : pc + 3 = pc') (q : Go wd l R Z y bytes maxL ret n0 K N Q h cells slots pc' Ls (.int v :: st)) : Go wd l R Z y bytes maxL ret n0 K N Q h cells slots pc Ls st := by
  subst hp; exact Go.of q fun p e s m args below meth c T locs O X eT t hr => X.ldcwInt O.1 O.2.2.2.1 (mvT O.2.2.2.2.2.1 w) (g := mkF m pc Ls st) rfl (hb O.2.1 hd) t hr
theorem Go.ldcL {i : Nat} {v : Int64} (w : (Cond.constantLong y.cls i v).before a0 Z = true) (hd : decode bytes pc = .ok (.ldc2_w i, 3)) (hp : pc + 3 = pc') (q : Go wd l R Z y bytes maxL ret n0 K N Q h cells slots pc' Ls (.long v :: st)) : Go wd l R Z y bytes maxL ret n0 K N Q h cells slots pc Ls st := by
  subst hp; exact Go.of q fun p e s m args below meth c T locs O X eT t hr => X.ldc2Long O.1 O.2.2.2.1 (mvT O.2.2.2.2.2.1 w) (g := mkF m pc Ls st) rfl (hb O.2.1 hd) t hr
/-! the ends -/
theorem Go.leave {v : Option Value} (hv : ret = none → v = none) (hQ : Q v h) (hk : cells ≤ K) (hn : slots ≤ N)
    (q : ∀ (p : Program) (e : Env) (s : State) (m : MethodId) (args : Array Value) (below : List Frame) (meth : Method) (c : Code) (T : State) (locs : List Loc) (fs : List Frame), Own Z y bytes maxL ret p s m meth c → Stand p l e R s m args below meth c T locs cells slots →
      (∀ (f : JFrame) (acts : List Action), f.method = m → f.locked = none → f.entered = [] → (doReturn e (T.setTop f) acts v).1 = T.setFrames fs) → Steps p.tables e below (T.setTop (mkF m pc Ls st)) (T.setFrames fs)) : Go wd l R Z y bytes maxL ret n0 K N Q h cells slots pc Ls st := by
  intro p e s0 s m args below meth c T locs hR O X eT F
  obtain ⟨fs, hr, hrun, hended, hW, hsame⟩ := X.leave (v := v) (fun r => hv (by rw [← O.2.2.2.2.2.2.1]; exact r)) O.2.2.2.2.2.2.2
  have hE : GoEnd wd s0 (.returned v) (T.setFrames fs) locs K N := GoRel.ended (U := T.setFrames fs) (by show GoRel wd s0 s T.heap.size; rw [eT]; exact hR) hW hsame hk hn
  refine ⟨_, _, q p e s m args below meth c T locs fs O X hr, hrun, hended, v, locs, rfl, ⟨?_, F⟩, hE⟩
  show Q v T.heap
  rw [eT]; exact hQ
theorem Go.ret0 (hd : decode bytes pc = .ok (.return_, 1)) (hr : ret = none) (hQ : Q none h) (hk : cells ≤ K) (hn : slots ≤ N) : Go wd l R Z y bytes maxL ret n0 K N Q h cells slots pc Ls [] :=
  Go.leave (v := none) (fun _ => rfl) hQ hk hn fun p e s m args below meth c T locs fs O X hl => X.returnOut O.1 (O.2.2.2.2.2.2.1.trans hr) (hb O.2.1 hd) hl
theorem Go.retI {v : Int32} (hd : decode bytes pc = .ok (.ireturn, 1)) (hr : ret = some .int) (hQ : Q (some (.int v)) h) (hk : cells ≤ K) (hn : slots ≤ N) : Go wd l R Z y bytes maxL ret n0 K N Q h cells slots pc Ls (.int v :: st) :=
  Go.leave (v := some (.int v)) (fun r => by rw [hr] at r; cases r) hQ hk hn fun p e s m args below meth c T locs fs O X hl => retOut X O.1 (O.2.2.2.2.2.2.1.trans hr) rfl (Or.inl ⟨rfl, Or.inl rfl, _, rfl⟩) (hb O.2.1 hd) hl
theorem Go.retN {v : Int32} {t : FieldType} (hd : decode bytes pc = .ok (.ireturn, 1)) (hr : ret = some t) (ht : t = .boolean ∨ t = .byte ∨ t = .char ∨ t = .short) (hv : nar t v = v) (hQ : Q (some (.int v)) h) (hk : cells ≤ K) (hn : slots ≤ N) : Go wd l R Z y bytes maxL ret n0 K N Q h cells slots pc Ls (.int v :: st) :=
  Go.leave (v := some (.int v)) (fun r => by rw [hr] at r; cases r) hQ hk hn fun p e s m args below meth c T locs fs O X hl => RoadKit.retN X O.1 (O.2.2.2.2.2.2.1.trans hr) ht (hb O.2.1 hd) (by rw [hv]; exact hl)
theorem Go.retL {v : Int64} (hd : decode bytes pc = .ok (.lreturn, 1)) (hr : ret = some .long) (hQ : Q (some (.long v)) h) (hk : cells ≤ K) (hn : slots ≤ N) : Go wd l R Z y bytes maxL ret n0 K N Q h cells slots pc Ls (.long v :: st) :=
  Go.leave (v := some (.long v)) (fun r => by rw [hr] at r; cases r) hQ hk hn fun p e s m args below meth c T locs fs O X hl => retOut X O.1 (O.2.2.2.2.2.2.1.trans hr) rfl (Or.inr (Or.inl ⟨rfl, rfl, _, rfl⟩)) (hb O.2.1 hd) hl
theorem Go.retA {v : Value} {t : FieldType} (hd : decode bytes pc = .ok (.areturn, 1)) (hr : ret = some t) (ht : t.isReference = true) (hv : v.isRef = true) (hQ : Q (some v) h) (hk : cells ≤ K) (hn : slots ≤ N) : Go wd l R Z y bytes maxL ret n0 K N Q h cells slots pc Ls (v :: st) :=
  Go.leave (v := some v) (fun r => by rw [hr] at r; cases r) hQ hk hn fun p e s m args below meth c T locs fs O X hl => retOut X O.1 (O.2.2.2.2.2.2.1.trans hr) (by cases t <;> first | rfl | (cases ht; done)) (Or.inr (Or.inr (Or.inr (Or.inr ⟨rfl, ht, hv⟩)))) (hb O.2.1 hd) hl
/-! the heap -/
theorem Go.newO {C : String} {i n : Nat} (w1 : (Cond.classLink y.cls i C).before a0 Z = true) (w2 : (Cond.instantiable C n).before a0 Z = true) (w3 : (Cond.initialized C).before a0 Z = true) (hd : decode bytes pc = .ok (.new i, 3)) (hc : cells + 1 ≤ R.cells) (hs : slots + n ≤ R.slots) (hp : pc + 3 = pc')
    (q : ∀ (h' : Heap) (a : Addr), a = h.size → Ext h h' → Exa Z h' a C → (∀ {O nm d : String} {ty : FieldType}, Laid Z a0 C O nm d → parseFieldDescriptor d = some ty → Fld Z h' a O nm d (defaultValue ty)) → Go wd l R Z y bytes maxL ret n0 K N Q h' (cells + 1) (slots + n) pc' Ls (.ref a :: st)) : Go wd l R Z y bytes maxL ret n0 K N Q h cells slots pc Ls st := by
  subst hp
  intro p e s0 s m args below meth c T locs hR O X eT F
  obtain ⟨T2, h2, X2, e2, E2, A2, D2, -, st2⟩ := RoadKit.newO X O.1 O.2.2.2.2.2.1 O.2.2.2.1 w1 w2 w3 eT (g := mkF m pc Ls st) rfl (hb O.2.1 hd) hc hs
  obtain ⟨s₂, o, h1, r⟩ := q h2 _ rfl E2 A2 D2 p e s0 s m args below meth c T2 locs (hR.mono E2.1) O X2 e2 F
  exact ⟨s₂, o, st2 _ h1, r⟩
theorem Go.initO {i W : Nat} {a : Addr} (w1 : (Cond.methodLink y.cls i Lib.objectInit).before a0 Z = true) (w2 : (Cond.instanceMethod Lib.objectInit).before a0 Z = true) (w3 : (Cond.code Lib.objectInit ⟨#[0xb1]⟩ 1 none).before a0 Z = true) (hd : decode bytes pc = .ok (.invokespecial i, 3)) (hz : Ls.size = maxL)
    (hf : 1 ≤ R.frames) (hW : (st.map fun v => v.category).sum ≤ W) (hl : W + 12 ≤ R.locals) (hp : pc + 3 = pc') (q : Go wd l R Z y bytes maxL ret n0 K N Q h cells slots pc' Ls st) : Go wd l R Z y bytes maxL ret n0 K N Q h cells slots pc Ls (.ref a :: st) := by
  subst hp
  intro p e s0 s m args below meth c T locs hR O X eT F
  obtain ⟨T2, X2, e2, st2⟩ := RoadKit.initO X O.1 O.2.2.2.2.2.1 O.2.2.2.1 w1 w2 w3 eT (g := mkF m pc Ls (.ref a :: st)) rfl (hz.trans O.2.2.1.symm) rfl (hb O.2.1 hd) hf (W := W) (by show 2 * 0 + _ ≤ _; omega) hl
  obtain ⟨s₂, o, h1, r⟩ := q p e s0 s m args below meth c T2 locs hR O X2 e2 F
  exact ⟨s₂, o, st2 _ h1, r⟩
theorem Go.getF {C n d : String} {i : Nat} {a : Addr} {v : Value} (w : (Cond.fieldLink y.cls i C n d).before a0 Z = true) (hF : Fld Z h a C n d v) (hd : decode bytes pc = .ok (.getfield i, 3)) (hp : pc + 3 = pc') (q : Go wd l R Z y bytes maxL ret n0 K N Q h cells slots pc' Ls (v :: st)) : Go wd l R Z y bytes maxL ret n0 K N Q h cells slots pc Ls (.ref a :: st) := by
  subst hp
  intro p e s0 s m args below meth c T locs hR O X eT F
  obtain ⟨T2, X2, e2, st2⟩ := RoadKit.getF X O.1 O.2.2.2.2.2.1 O.2.2.2.1 (host := "") (Or.inl w) Via.refl eT hF (g := mkF m pc Ls (.ref a :: st)) rfl rfl (hb O.2.1 hd)
  obtain ⟨s₂, o, h1, r⟩ := q p e s0 s m args below meth c T2 locs hR O X2 e2 F
  exact ⟨s₂, o, st2 _ h1, r⟩
theorem Go.getS {C n d : String} {i : Nat} {v : Value} (w : (Cond.fieldLink y.cls i C n d).before a0 Z = true) (hF : Sta Z h C n d v) (hd : decode bytes pc = .ok (.getstatic i, 3)) (hp : pc + 3 = pc') (q : Go wd l R Z y bytes maxL ret n0 K N Q h cells slots pc' Ls (v :: st)) : Go wd l R Z y bytes maxL ret n0 K N Q h cells slots pc Ls st := by
  subst hp
  intro p e s0 s m args below meth c T locs hR O X eT F
  obtain ⟨T2, X2, e2, st2⟩ := RoadKit.getS2 X O.1 O.2.2.2.2.2.1 O.2.2.2.1 (host := "") (Or.inl w) Via.refl eT hF (g := mkF m pc Ls st) rfl (hb O.2.1 hd)
  obtain ⟨s₂, o, h1, r⟩ := q p e s0 s m args below meth c T2 locs hR O X2 e2 F
  exact ⟨s₂, o, st2 _ h1, r⟩
theorem Go.putF {C n d : String} {i kk : Nat} {ty : FieldType} {a : Addr} {v old : Value} (w : (Cond.fieldLink y.cls i C n d).before a0 Z = true) (hF : Fld Z h a C n d old) (hE : Exa Z h a C) (hL : (Cond.lays C C n d).before a0 Z = true ∨ ((Cond.laysFinal C C n d).before a0 Z = true ∧ y.cls = C ∧ y.name = "<init>")) (wi : (Cond.instantiable C kk).before a0 Z = true)
    (hty : parseFieldDescriptor d = some ty) (hn : narrow ty v = v) (hf : fits ty v = true) (hd : decode bytes pc = .ok (.putfield i, 3)) (ha : n0 ≤ a) (hp : pc + 3 = pc') (q : ∀ h', Wr h h' a (slotOf Z C n d) v → Go wd l R Z y bytes maxL ret n0 K N Q h' cells slots pc' Ls st) : Go wd l R Z y bytes maxL ret n0 K N Q h cells slots pc Ls (v :: .ref a :: st) := by
  subst hp
  intro p e s0 s m args below meth c T locs hR O X eT F
  obtain ⟨T2, h2, X2, e2, W2, st2⟩ := RoadKit.putF X O.1 O.2.2.2.2.2.1 O.2.2.2.1 (host := "") (Or.inl w) Via.refl eT hF hE (hL.imp_right fun r => ⟨r.1, r.2.1, O.2.2.2.2.1.trans r.2.2⟩) wi hty hn hf (g := mkF m pc Ls (v :: .ref a :: st)) rfl rfl (hb O.2.1 hd)
  obtain ⟨s₂, o, h1, r⟩ := q h2 W2 p e s0 s m args below meth c T2 _ (hR.mono (Nat.le_of_eq W2.size.symm)) O X2 e2 (Fr.snoc X2 F ha)
  exact ⟨s₂, o, st2 _ h1, r⟩
/-! facts carried from heap to heap -/
def Sm (h h' : Heap) (a : Addr) : Prop := ∀ c : Cell, h[a]? = some c → h'[a]? = some c
theorem Sm.ext {h h' : Heap} {a : Addr} (E : Ext h h') : Sm h h' a := fun c q => E.2 a c q
theorem Sm.keep {h h' : Heap} {a : Addr} {ws : List Addr} (E : Keep h h' ws) (q : a ∉ ws) : Sm h h' a := fun c r => E.2.1 a c r q
theorem Sm.wr {h h' : Heap} {a b : Addr} {sl : Nat} {v : Value} (W : Wr h h' b sl v) (q : a ≠ b) : Sm h h' a := Sm.keep (Keep.of_wr W) (by simpa using q)
theorem Sm.trans {h h' h'' : Heap} {a : Addr} (A : Sm h h' a) (B : Sm h' h'' a) : Sm h h'' a := fun c r => B c (A c r)
theorem Fld.sm {h h' : Heap} {a : Addr} {C n d : String} {v : Value} (F : Fld Z h a C n d v) (S : Sm h h' a) : Fld Z h' a C n d v := by
  obtain ⟨cell, cf, k, i, f, h1, r⟩ := F; exact ⟨cell, cf, k, i, f, S _ h1, r⟩
theorem Exa.sm {h h' : Heap} {a : Addr} {C : String} (F : Exa Z h a C) (S : Sm h h' a) : Exa Z h' a C := by
  obtain ⟨cell, k, h1, r⟩ := F; exact ⟨cell, k, S _ h1, r⟩
theorem Arr.sm {h h' : Heap} {a : Addr} {c : Cell} {ty : FieldType} (F : Arr Z h a c ty) (S : Sm h h' a) : Arr Z h' a c ty := ⟨S _ F.1, F.2⟩
/-- the array at a holds just these values -/
def Ary (Z : State) (h : Heap) (a : Addr) (ty : FieldType) (vs : List Value) : Prop := ∃ c : Cell, Arr Z h a c ty ∧ c.slots = vs.toArray
theorem Ary.sm {h h' : Heap} {a : Addr} {ty : FieldType} {vs : List Value} (F : Ary Z h a ty vs) (S : Sm h h' a) : Ary Z h' a ty vs := by
  obtain ⟨c, A, r⟩ := F; exact ⟨c, A.sm S, r⟩
theorem Ary.lt {h : Heap} {a : Addr} {ty : FieldType} {vs : List Value} (F : Ary Z h a ty vs) : a < h.size := by
  obtain ⟨c, A, r⟩ := F; exact A.lt
theorem Ary.eq {h : Heap} {a : Addr} {ty : FieldType} {vs vs' : List Value} (F : Ary Z h a ty vs) (q : vs = vs') : Ary Z h a ty vs' := q ▸ F
theorem Ary.set {h h' : Heap} {a : Addr} {ty : FieldType} {vs : List Value} {k : Nat} {v : Value} (F : Ary Z h a ty vs) (W : Wr h h' a k v) : Ary Z h' a ty (vs.set k v) := by
  obtain ⟨c, A, r⟩ := F
  refine ⟨_, A.same W, ?_⟩
  show c.slots.setIfInBounds k v = _
  rw [r]; simp
theorem clamp_of {j : Int32} {k : Nat} (hj : j.toInt = (k : Int)) : j.toNatClampNeg = k := by
  show j.toInt.toNat = k; omega
theorem inb {j : Int32} {k : Nat} {c : Cell} {vs : List Value} (hj : j.toInt = (k : Int)) (hc : c.slots = vs.toArray) (hk : k < vs.length) : ¬ (j < 0 ∨ c.slots.size ≤ j.toNatClampNeg) := by
  have z : (0 : Int32).toInt = 0 := rfl
  rw [clamp_of hj, hc, Int32.lt_iff_toInt_lt, z]; simp; omega
theorem lt_of_get {vs : List Value} {k : Nat} {v : Value} (h : vs[k]? = some v) : k < vs.length := (List.getElem?_eq_some_iff.mp h).1
theorem Go.newA {aty : ArrayType} {n : Int32} {k : Nat} {ty : FieldType} (w : (Cond.arrayClass ty).before a0 Z = true) (hty : newarray.typeOf aty = ty) (hn : n.toInt = (k : Int)) {cap : Nat} (hcap : k ≤ cap) (hb8 : cap * 8 ≤ 536870912) (hd : decode bytes pc = .ok (.newarray aty, 2)) (hc : cells + 1 ≤ R.cells) (hs : slots + cap ≤ R.slots) (hp : pc + 2 = pc')
    (q : ∀ (h' : Heap) (a : Addr), a = h.size → Ext h h' → Ary Z h' a ty (List.replicate k (defaultValue ty)) → Go wd l R Z y bytes maxL ret n0 K N Q h' (cells + 1) (slots + cap) pc' Ls (.ref a :: st)) : Go wd l R Z y bytes maxL ret n0 K N Q h cells slots pc Ls (.int n :: st) := by
  subst hp hty
  intro p e s0 s m args below meth c T locs hR O X eT F
  have z : (0 : Int32).toInt = 0 := rfl
  have hn0 : ¬ n < 0 := by rw [Int32.lt_iff_toInt_lt, z]; omega
  obtain ⟨T2, h2, cA, X2, e2, E2, A2, st2⟩ := RoadKit.newP X O.1 O.2.2.2.2.2.1 w eT (g := mkF m pc Ls (.int n :: st)) rfl (hb O.2.1 hd) rfl hn0 (cap := cap) (by rw [clamp_of hn]; exact hcap) hb8 hc hs
  obtain ⟨s₂, o, h1, r⟩ := q h2 _ rfl E2 ⟨_, A2, by simp [RoadKit.newA, clamp_of hn]⟩ p e s0 s m args below meth c T2 locs (hR.mono E2.1) O X2 e2 F
  exact ⟨s₂, o, st2 _ h1, r⟩
theorem Go.alen {a : Addr} {ty : FieldType} {vs : List Value} {z : Int32} (hA : Ary Z h a ty vs) (hz : z.toInt = (vs.length : Int)) (hd : decode bytes pc = .ok (.arraylength, 1)) (hp : pc + 1 = pc') (q : Go wd l R Z y bytes maxL ret n0 K N Q h cells slots pc' Ls (.int z :: st)) : Go wd l R Z y bytes maxL ret n0 K N Q h cells slots pc Ls (.ref a :: st) := by
  subst hp
  obtain ⟨cl, A, r⟩ := hA
  have e1 : cl.slots.size.toInt32 = z := by
    have := z.toInt_lt
    rw [r]; apply Int32.toInt_inj.mp
    rw [hz]
    have q1 : vs.toArray.size = vs.length := by simp
    rw [q1]; exact len_toInt (by omega)
  exact Go.of q fun p e s m args below meth c T locs O X eT t hr => X.arraylength O.1 (cell := cl) (by rw [eT]; exact A.1) (State.isArrayOf_alike O.2.2.2.2.2.1.alike A.2.1) (g := mkF m pc Ls (.ref a :: st)) rfl (rest := st) rfl (hb O.2.1 hd) _ (by rw [e1]; exact hr)
theorem Go.ldI {a : Addr} {vs : List Value} {j : Int32} {k : Nat} {v : Value} (hA : Ary Z h a .int vs) (hj : j.toInt = (k : Int)) (hv : vs[k]? = some v) (hd : decode bytes pc = .ok (.iaload, 1)) (hp : pc + 1 = pc') (q : Go wd l R Z y bytes maxL ret n0 K N Q h cells slots pc' Ls (v :: st)) : Go wd l R Z y bytes maxL ret n0 K N Q h cells slots pc Ls (.int j :: .ref a :: st) := by
  subst hp
  obtain ⟨cl, A, r⟩ := hA
  exact Go.of q fun p e s m args below meth c T locs O X eT t hr => X.iaload O.1 (j := j) (v := v) (by rw [eT]; exact A.1) (State.isArrayOf_alike O.2.2.2.2.2.1.alike A.2.1) A.2.2 (inb hj r (lt_of_get hv)) (by rw [clamp_of hj, r]; simpa using hv) (g := mkF m pc Ls (.int j :: .ref a :: st)) rfl rfl (hb O.2.1 hd) _ hr
theorem Go.ldJ {a : Addr} {vs : List Value} {j : Int32} {k : Nat} {v : Value} (hA : Ary Z h a .long vs) (hj : j.toInt = (k : Int)) (hv : vs[k]? = some v) (hd : decode bytes pc = .ok (.laload, 1)) (hp : pc + 1 = pc') (q : Go wd l R Z y bytes maxL ret n0 K N Q h cells slots pc' Ls (v :: st)) : Go wd l R Z y bytes maxL ret n0 K N Q h cells slots pc Ls (.int j :: .ref a :: st) := by
  subst hp
  obtain ⟨cl, A, r⟩ := hA
  exact Go.of q fun p e s m args below meth c T locs O X eT t hr => X.laload O.1 (j := j) (v := v) (by rw [eT]; exact A.1) (State.isArrayOf_alike O.2.2.2.2.2.1.alike A.2.1) A.2.2 (inb hj r (lt_of_get hv)) (by rw [clamp_of hj, r]; simpa using hv) (g := mkF m pc Ls (.int j :: .ref a :: st)) rfl rfl (hb O.2.1 hd) _ hr
theorem Go.ldC {a : Addr} {vs : List Value} {j : Int32} {k : Nat} {v : Value} (hA : Ary Z h a .char vs) (hj : j.toInt = (k : Int)) (hv : vs[k]? = some v) (hd : decode bytes pc = .ok (.caload, 1)) (hp : pc + 1 = pc') (q : Go wd l R Z y bytes maxL ret n0 K N Q h cells slots pc' Ls (v :: st)) : Go wd l R Z y bytes maxL ret n0 K N Q h cells slots pc Ls (.int j :: .ref a :: st) := by
  subst hp
  obtain ⟨cl, A, r⟩ := hA
  exact Go.of q fun p e s m args below meth c T locs O X eT t hr => X.caload O.1 (j := j) (v := v) (by rw [eT]; exact A.1) (State.isArrayOf_alike O.2.2.2.2.2.1.alike A.2.1) A.2.2 (inb hj r (lt_of_get hv)) (by rw [clamp_of hj, r]; simpa using hv) (g := mkF m pc Ls (.int j :: .ref a :: st)) rfl rfl (hb O.2.1 hd) _ hr
theorem Go.ldA {a : Addr} {ty : FieldType} {vs : List Value} {j : Int32} {k : Nat} {v : Value} (hA : Ary Z h a ty vs) (hty : ty.isReference = true) (hj : j.toInt = (k : Int)) (hv : vs[k]? = some v) (hd : decode bytes pc = .ok (.aaload, 1)) (hp : pc + 1 = pc') (q : Go wd l R Z y bytes maxL ret n0 K N Q h cells slots pc' Ls (v :: st)) : Go wd l R Z y bytes maxL ret n0 K N Q h cells slots pc Ls (.int j :: .ref a :: st) := by
  subst hp
  obtain ⟨cl, A, r⟩ := hA
  exact Go.of q fun p e s m args below meth c T locs O X eT t hr => X.aaload O.1 (j := j) (v := v) (by rw [eT]; exact A.1) (State.isArrayOf_alike O.2.2.2.2.2.1.alike A.2.1) hty A.2.2 (inb hj r (lt_of_get hv)) (by rw [clamp_of hj, r]; simpa using hv) (g := mkF m pc Ls (.int j :: .ref a :: st)) rfl rfl (hb O.2.1 hd) _ hr
theorem Go.stI {a : Addr} {vs : List Value} {j v : Int32} {k : Nat} (hA : Ary Z h a .int vs) (hj : j.toInt = (k : Int)) (hk : k < vs.length) (hd : decode bytes pc = .ok (.iastore, 1)) (ha : n0 ≤ a) (hp : pc + 1 = pc')
    (q : ∀ h', Wr h h' a k (.int v) → Ary Z h' a .int (vs.set k (.int v)) → Go wd l R Z y bytes maxL ret n0 K N Q h' cells slots pc' Ls st) : Go wd l R Z y bytes maxL ret n0 K N Q h cells slots pc Ls (.int v :: .int j :: .ref a :: st) := by
  subst hp
  have hA' := hA
  obtain ⟨cl, A, r⟩ := hA
  intro p e s0 s m args below meth c T locs hR O X eT F
  obtain ⟨T2, h2, X2, e2, W2, st2⟩ := RoadKit.stI X O.1 O.2.2.2.2.2.1 eT A (j := j) (x := v) (inb hj r hk) (g := mkF m pc Ls (.int v :: .int j :: .ref a :: st)) rfl rfl (hb O.2.1 hd)
  rw [clamp_of hj] at X2 W2
  obtain ⟨s₂, o, h1, r⟩ := q h2 W2 (hA'.set W2) p e s0 s m args below meth c T2 _ (hR.mono (Nat.le_of_eq W2.size.symm)) O X2 e2 (Fr.snoc X2 F ha)
  exact ⟨s₂, o, st2 _ h1, r⟩
theorem Go.stJ {a : Addr} {vs : List Value} {j : Int32} {v : Int64} {k : Nat} (hA : Ary Z h a .long vs) (hj : j.toInt = (k : Int)) (hk : k < vs.length) (hd : decode bytes pc = .ok (.lastore, 1)) (ha : n0 ≤ a) (hp : pc + 1 = pc')
    (q : ∀ h', Wr h h' a k (.long v) → Ary Z h' a .long (vs.set k (.long v)) → Go wd l R Z y bytes maxL ret n0 K N Q h' cells slots pc' Ls st) : Go wd l R Z y bytes maxL ret n0 K N Q h cells slots pc Ls (.long v :: .int j :: .ref a :: st) := by
  subst hp
  have hA' := hA
  obtain ⟨cl, A, r⟩ := hA
  intro p e s0 s m args below meth c T locs hR O X eT F
  obtain ⟨T2, h2, X2, e2, W2, st2⟩ := RoadKit.stJ X O.1 O.2.2.2.2.2.1 eT A (j := j) (x := v) (inb hj r hk) (g := mkF m pc Ls (.long v :: .int j :: .ref a :: st)) rfl rfl (hb O.2.1 hd)
  rw [clamp_of hj] at X2 W2
  obtain ⟨s₂, o, h1, r⟩ := q h2 W2 (hA'.set W2) p e s0 s m args below meth c T2 _ (hR.mono (Nat.le_of_eq W2.size.symm)) O X2 e2 (Fr.snoc X2 F ha)
  exact ⟨s₂, o, st2 _ h1, r⟩
theorem Go.stC {a : Addr} {vs : List Value} {j v : Int32} {k : Nat} (hA : Ary Z h a .char vs) (hj : j.toInt = (k : Int)) (hk : k < vs.length) (hd : decode bytes pc = .ok (.castore, 1)) (ha : n0 ≤ a) (hp : pc + 1 = pc')
    (q : ∀ h', Wr h h' a k (.int (nar .char v)) → Ary Z h' a .char (vs.set k (.int (nar .char v))) → Go wd l R Z y bytes maxL ret n0 K N Q h' cells slots pc' Ls st) : Go wd l R Z y bytes maxL ret n0 K N Q h cells slots pc Ls (.int v :: .int j :: .ref a :: st) := by
  subst hp
  have hA' := hA
  obtain ⟨cl, A, r⟩ := hA
  intro p e s0 s m args below meth c T locs hR O X eT F
  obtain ⟨T2, h2, X2, e2, W2, st2⟩ := RoadKit.stC X O.1 O.2.2.2.2.2.1 eT A (j := j) (x := v) (inb hj r hk) (g := mkF m pc Ls (.int v :: .int j :: .ref a :: st)) rfl rfl (hb O.2.1 hd)
  rw [clamp_of hj] at X2 W2
  obtain ⟨s₂, o, h1, r⟩ := q h2 W2 (hA'.set W2) p e s0 s m args below meth c T2 _ (hR.mono (Nat.le_of_eq W2.size.symm)) O X2 e2 (Fr.snoc X2 F ha)
  exact ⟨s₂, o, st2 _ h1, r⟩
/-! a method by its contract -/
def Mt (wd : Bool) (l : Launch) (Z : State) (y : MethodName) (bytes : ByteArray) (maxL : Nat) (ret : Option FieldType) (rm : Room) (n0 : Nat) (Q : Option Value → Heap → Prop) (h : Heap) (as' : Array Value) : Prop :=
  MetFree l y (head1 [Cond.code y bytes maxL ret] rm) (fun a U => a = as' ∧ Z.Warmed39 U.vm ∧ U.heap = h) (fun _ _ _ _ _ => True) (fun _ U o U' => ∃ v L, o = .returned v ∧ ((Q v U'.heap ∧ h.size ≤ U'.heap.size) ∧ Fr n0 L) ∧ GoEnd wd U o U' L rm.cells rm.slots)
theorem met_go {rm : Room} {ws : List Jvm.Cond} {as' : Array Value} (hp : plainFor y = true) (hef : ∀ m, entryFrame m as' maxL = mkF m 0 Ls []) (g : Go wd l rm Z y bytes maxL ret n0 K N Q h 0 0 0 Ls []) :
    MetFree l y (head1 (Jvm.Cond.code y bytes maxL ret :: ws) rm) (fun a U => a = as' ∧ Z.Warmed39 U.vm ∧ U.heap = h) (fun _ _ _ _ _ => True) (fun _ U o U' => ∃ v L, o = .returned v ∧ ((Q v U'.heap ∧ h.size ≤ U'.heap.size) ∧ Fr n0 L) ∧ GoEnd wd U o U' L K N) := by
  refine MetFree.of_bodySF hp hisR ?_
  intro p e s m args below meth c s₁ Bd hml0 hP hK
  obtain ⟨rfl, hZ, hh⟩ := hP
  have O : Own Z y bytes maxL ret p s m meth c := ⟨Bd.exec, Bd.bytes, hml0, findClass_of_methodNamed Bd.named, (name_of_methodNamed Bd.named Bd.method).1, hZ, Bd.returns, Bd.notSynchronized⟩
  have X0 : Stand p l e rm s m args below meth c s₁ [] 0 0 := Stand.of_body Bd
  have e0 : s₁.heap = h := by rw [← hh, Bd.state]; rfl
  obtain ⟨s₂, o, h1, h2, h3, v, L, h4, h5, h6⟩ := g p e s s m args below meth c s₁ [] (GoRel.refl _ _ _) O X0 e0 (Fr.nil n0)
  exact ⟨s₂, o, castTop (hef m) h1, h2, h3, v, L, h4, ⟨⟨h5.1, hh ▸ h6.grow⟩, h5.2⟩, h6⟩
theorem Mt.go {rm : Room} {as' : Array Value} (hp : plainFor y = true) (hef : ∀ m, entryFrame m as' maxL = mkF m 0 Ls []) (g : Go wd l rm Z y bytes maxL ret n0 rm.cells rm.slots Q h 0 0 0 Ls []) : Mt wd l Z y bytes maxL ret rm n0 Q h as' := met_go (ws := []) hp hef g
variable {y2 : MethodName} {bytes2 : ByteArray} {maxL2 : Nat} {ret2 : Option FieldType} {rm : Room} {i W : Nat} {as' : Array Value} {argsL rest : List Value} {Q2 : Option Value → Heap → Prop} {ps : List FieldType} {r2 : Option FieldType}
theorem Go.callS (w1 : (Cond.methodLink y.cls i y2).before a0 Z = true) (w2 : (Cond.static y2).before a0 Z = true) (w3 : (Cond.initialized y2.cls).before a0 Z = true) (w4 : (Cond.code y2 bytes2 maxL2 ret2).before a0 Z = true) (hy : y2.cls ≠ "java/lang/invoke/MethodHandle" ∧ y2.cls ≠ "java/lang/invoke/VarHandle")
    (hM : Mt false l Z y2 bytes2 maxL2 ret2 rm n0 Q2 h argsL.toArray) (hd : decode bytes pc = .ok (.invokestatic i, 3)) (hz : Ls.size = maxL) (hpd : parseMethodDescriptor y2.desc = some ⟨ps, r2⟩) (hlen : argsL.length = ps.length) (hst : st = argsL.reverse ++ rest)
    (hW : (rest.map fun v => v.category).sum ≤ W) (hf : rm.frames + 1 ≤ R.frames) (hl : W + (maxL2 + 11) + rm.locals ≤ R.locals) (hc : cells + rm.cells ≤ R.cells) (hs : slots + rm.slots ≤ R.slots) (hp : pc + 3 = pc')
    (q : ∀ v h', Q2 v h' → Go wd l R Z y bytes maxL ret n0 K N Q h' (cells + rm.cells) (slots + rm.slots) pc' Ls (v.toList ++ rest)) : Go wd l R Z y bytes maxL ret n0 K N Q h cells slots pc Ls st := by
  subst hp hst
  intro p e s0 s m args below meth c T locs hR O X eT F
  obtain ⟨v, vm₁, ⟨T2, L2, k2, n2⟩, -, X2, ⟨Lc, hQ, l2, y2, z2⟩, st2⟩ := Jvm.LawKit.callS X O.1 (y := y2) O.2.2.2.1 (mvT O.2.2.2.2.2.1 w1) (mvT O.2.2.2.2.2.1 w2) (mvT O.2.2.2.2.2.1 w3) (mvT O.2.2.2.2.2.1 w4) hy
    (backOf (W := W) (Q := fun v h' L => (Q2 v h' ∧ h.size ≤ h'.size) ∧ Fr n0 L) hM O.2.2.2.2.2.1 w4 w3 hf hl) (g := mkF m pc Ls (argsL.reverse ++ rest)) rfl (hz.trans O.2.2.1.symm) (argsL := argsL) (rest := rest) (lenOf hpd hlen) rfl (by show 2 * 0 + _ ≤ _; omega) (hb O.2.1 hd) (fun _ _ => ⟨rfl, eT, hc, hs⟩)
  dsimp only [Pt.U, Pt.locs, Pt.cells, Pt.slots] at X2 l2 y2 z2 st2 hQ
  subst l2 y2 z2
  obtain ⟨s₂, o, h1, r⟩ := q v T2.heap hQ.1.1 p e s0 s m args below meth c T2 _ (hR.mono hQ.1.2) O X2 rfl (Fr.app F hQ.2)
  exact ⟨s₂, o, st2 _ h1, r⟩
theorem Go.callN {a : Addr} (hy1 : y2.name = "<init>") (w1 : (Cond.methodLink y.cls i y2).before a0 Z = true) (w2 : (Cond.instanceMethod y2).before a0 Z = true) (w3 : (Cond.initialized y2.cls).before a0 Z = true) (w4 : (Cond.code y2 bytes2 maxL2 none).before a0 Z = true) (hy : y2.cls ≠ "java/lang/invoke/MethodHandle" ∧ y2.cls ≠ "java/lang/invoke/VarHandle")
    (hM : Mt false l Z y2 bytes2 maxL2 none rm n0 Q2 h (.ref a :: argsL).toArray) (hd : decode bytes pc = .ok (.invokespecial i, 3)) (hz : Ls.size = maxL) (hpd : parseMethodDescriptor y2.desc = some ⟨ps, r2⟩) (hlen : argsL.length = ps.length) (hst : st = argsL.reverse ++ .ref a :: rest)
    (hW : (rest.map fun v => v.category).sum ≤ W) (hf : rm.frames + 1 ≤ R.frames) (hl : W + (maxL2 + 11) + rm.locals ≤ R.locals) (hc : cells + rm.cells ≤ R.cells) (hs : slots + rm.slots ≤ R.slots) (hp : pc + 3 = pc')
    (q : ∀ v h', Q2 v h' → Go wd l R Z y bytes maxL ret n0 K N Q h' (cells + rm.cells) (slots + rm.slots) pc' Ls (v.toList ++ rest)) : Go wd l R Z y bytes maxL ret n0 K N Q h cells slots pc Ls st := by
  subst hp hst
  intro p e s0 s m args below meth c T locs hR O X eT F
  obtain ⟨v, vm₁, ⟨T2, L2, k2, n2⟩, -, X2, ⟨Lc, hQ, l2, y2, z2⟩, st2⟩ := X.specialBack O.1 (y := y2) hy1 O.2.2.2.1 (mvT O.2.2.2.2.2.1 w1) (mvT O.2.2.2.2.2.1 w2) (mvT O.2.2.2.2.2.1 w4) hy
    (backOf (W := W) (Q := fun v h' L => (Q2 v h' ∧ h.size ≤ h'.size) ∧ Fr n0 L) hM O.2.2.2.2.2.1 w4 w3 hf hl) (g := mkF m pc Ls (argsL.reverse ++ .ref a :: rest)) rfl (hz.trans O.2.2.1.symm) (Steps.refl _) (a := a) (argsL := argsL) (rest := rest) (lenOf hpd hlen) rfl (by show 2 * 0 + _ ≤ _; omega) (hb O.2.1 hd) (fun _ _ => ⟨rfl, eT, hc, hs⟩)
  dsimp only [Pt.U, Pt.locs, Pt.cells, Pt.slots] at X2 l2 y2 z2 st2 hQ
  subst l2 y2 z2
  obtain ⟨s₂, o, h1, r⟩ := q v T2.heap hQ.1.1 p e s0 s m args below meth c T2 _ (hR.mono hQ.1.2) O X2 rfl (Fr.app F hQ.2)
  exact ⟨s₂, o, st2.trans h1, r⟩
theorem Go.callV {a : Addr} {C : String} (w1 : (Cond.methodLink y.cls i y2).before a0 Z = true) (w2 : (Cond.declares y2).before a0 Z = true) (w5 : (Cond.selects C y2 y2).before a0 Z = true) (w6 : (Cond.instanceMethod y2).before a0 Z = true) (w3 : (Cond.initialized y2.cls).before a0 Z = true) (w4 : (Cond.code y2 bytes2 maxL2 ret2).before a0 Z = true)
    (hy : y2.cls ≠ "java/lang/invoke/MethodHandle" ∧ y2.cls ≠ "java/lang/invoke/VarHandle") (hE : Exa Z h a C)
    (hM : Mt false l Z y2 bytes2 maxL2 ret2 rm n0 Q2 h (.ref a :: argsL).toArray) (hd : decode bytes pc = .ok (.invokevirtual i, 3)) (hz : Ls.size = maxL) (hpd : parseMethodDescriptor y2.desc = some ⟨ps, r2⟩) (hlen : argsL.length = ps.length) (hst : st = argsL.reverse ++ .ref a :: rest)
    (hW : (rest.map fun v => v.category).sum ≤ W) (hf : rm.frames + 1 ≤ R.frames) (hl : W + (maxL2 + 11) + rm.locals ≤ R.locals) (hc : cells + rm.cells ≤ R.cells) (hs : slots + rm.slots ≤ R.slots) (hp : pc + 3 = pc')
    (q : ∀ v h', Q2 v h' → Go wd l R Z y bytes maxL ret n0 K N Q h' (cells + rm.cells) (slots + rm.slots) pc' Ls (v.toList ++ rest)) : Go wd l R Z y bytes maxL ret n0 K N Q h cells slots pc Ls st := by
  subst hp hst
  intro p e s0 s m args below meth c T locs hR O X eT F
  obtain ⟨cq, kq, qa, qb, qc⟩ := isOf (T := T) O.2.2.2.2.2.1 eT hE
  obtain ⟨v, vm₁, ⟨T2, L2, k2, n2⟩, -, X2, ⟨Lc, hQ, l2, y2, z2⟩, st2⟩ := X.virtualBack O.1 (y := y2) (z := y2) O.2.2.2.1 (mvT O.2.2.2.2.2.1 w1) (mvT O.2.2.2.2.2.1 w2) (notFace_of_selects (args := #[]) (mvT O.2.2.2.2.2.1 w5)) (mvT O.2.2.2.2.2.1 w5) (mvT O.2.2.2.2.2.1 w6) hy
    (backOf (W := W) (Q := fun v h' L => (Q2 v h' ∧ h.size ≤ h'.size) ∧ Fr n0 L) hM O.2.2.2.2.2.1 w4 w3 hf hl) qa qc (g := mkF m pc Ls (argsL.reverse ++ .ref a :: rest)) rfl (hz.trans O.2.2.1.symm) (Steps.refl _) (argsL := argsL) (rest := rest) (lenOf hpd hlen) rfl (by show 2 * 0 + _ ≤ _; omega) (hb O.2.1 hd) (fun _ _ => ⟨rfl, eT, hc, hs⟩)
  dsimp only [Pt.U, Pt.locs, Pt.cells, Pt.slots] at X2 l2 y2 z2 st2 hQ
  subst l2 y2 z2
  obtain ⟨s₂, o, h1, r⟩ := q v T2.heap hQ.1.1 p e s0 s m args below meth c T2 _ (hR.mono hQ.1.2) O X2 rfl (Fr.app F hQ.2)
  exact ⟨s₂, o, st2.trans h1, r⟩
end GoLaws
end Jvm.RoadKit
namespace Jvm.RoadKit
open Sem ClassFile Op Lib Jvm.Stand Jvm.Free Jvm.LawKit
section GoArr
variable {wd : Bool} {l : Launch} {R : Room} {Z : State} {y : MethodName} {bytes : ByteArray} {maxL : Nat} {ret : Option FieldType} {n0 K N : Nat} {Q : Option Value → Heap → Prop} {h : Heap} {cells slots pc pc' : Nat} {Ls Ls' : Array Slot} {st st' : List Value} {a0 : Array Value}
theorem Go.newAE {aty : ArrayType} {n : Int32} {k : Nat} {ty : FieldType} {ad : String} (w : (Cond.arrayClass ty).before a0 Z = true) (hty : newarray.typeOf aty = ty) (had : "[" ++ ty.toString = ad) (hn : n.toInt = (k : Int)) {cap : Nat} (hcap : k ≤ cap) (hb8 : cap * 8 ≤ 536870912) (hd : decode bytes pc = .ok (.newarray aty, 2)) (hc : cells + 1 ≤ R.cells) (hs : slots + cap ≤ R.slots) (hp : pc + 2 = pc')
    (q : ∀ (h' : Heap) (a : Addr), a = h.size → Ext h h' → Ary Z h' a ty (List.replicate k (defaultValue ty)) → Exa Z h' a ad → Go wd l R Z y bytes maxL ret n0 K N Q h' (cells + 1) (slots + cap) pc' Ls (.ref a :: st)) : Go wd l R Z y bytes maxL ret n0 K N Q h cells slots pc Ls (.int n :: st) := by
  subst hp hty
  intro p e s0 s m args below meth c T locs hR O X eT F
  have z : (0 : Int32).toInt = 0 := rfl
  have hn0 : ¬ n < 0 := by rw [Int32.lt_iff_toInt_lt, z]; omega
  obtain ⟨T2, h2, cA, X2, e2, E2, A2, B2, st2⟩ := RoadKit.newPE X O.1 O.2.2.2.2.2.1 w eT (g := mkF m pc Ls (.int n :: st)) rfl (hb O.2.1 hd) rfl hn0 (cap := cap) (by rw [clamp_of hn]; exact hcap) hb8 hc hs had
  obtain ⟨s₂, o, h1, r⟩ := q h2 _ rfl E2 ⟨_, A2, by simp [RoadKit.newA, clamp_of hn]⟩ B2 p e s0 s m args below meth c T2 locs (hR.mono E2.1) O X2 e2 F
  exact ⟨s₂, o, st2 _ h1, r⟩
/-- the array at a is one of arrays of the class C -/
def Ova (Z : State) (h : Heap) (a : Addr) (ty : FieldType) (C : String) : Prop := ∃ cl : Cell, h[a]? = some cl ∧ OvrA Z cl.cls ty C
theorem Ova.sm {h h' : Heap} {a : Addr} {ty : FieldType} {C : String} (F : Ova Z h a ty C) (S : Sm h h' a) : Ova Z h' a ty C := by
  obtain ⟨c, A, r⟩ := F; exact ⟨c, S _ A, r⟩
theorem Ova.wr {h h' : Heap} {a b : Addr} {ty : FieldType} {C : String} {sl : Nat} {v : Value} (W : Wr h h' b sl v) (F : Ova Z h a ty C) : Ova Z h' a ty C := by
  obtain ⟨c, A, r⟩ := F
  obtain ⟨c', B, r2⟩ := (Keep.of_wr W).2.2 a c A
  exact ⟨c', B, by rw [r2.1]; exact r⟩
theorem Go.newRA {C ad : String} {i : Nat} {n : Int32} {k : Nat} {ty : FieldType} (hC : (FieldType.array ty).toString = C) (w1 : (Cond.classLink y.cls i C).before a0 Z = true) (w2 : (Cond.arrayOver (.array ty)).before a0 Z = true) (had : "[" ++ C = ad) (hn : n.toInt = (k : Int)) {cap : Nat} (hcap : k ≤ cap) (hb8 : cap * 8 ≤ 536870912) (hd : decode bytes pc = .ok (.anewarray i, 3)) (hc : cells + 1 ≤ R.cells) (hs : slots + cap ≤ R.slots) (hp : pc + 3 = pc')
    (q : ∀ (h' : Heap) (a : Addr), a = h.size → Ext h h' → Ary Z h' a (.array ty) (List.replicate k .null) → Ova Z h' a ty C → Go wd l R Z y bytes maxL ret n0 K N Q h' (cells + 1) (slots + cap) pc' Ls (.ref a :: st)) : Go wd l R Z y bytes maxL ret n0 K N Q h cells slots pc Ls (.int n :: st) := by
  subst hp
  intro p e s0 s m args below meth c T locs hR O X eT F
  have z : (0 : Int32).toInt = 0 := rfl
  have hn0 : ¬ n < 0 := by rw [Int32.lt_iff_toInt_lt, z]; omega
  obtain ⟨T2, h2, cA, X2, e2, E2, A2, B2, V2, st2⟩ := RoadKit.newRA X O.1 O.2.2.2.2.2.1 O.2.2.2.1 hC w1 w2 eT (g := mkF m pc Ls (.int n :: st)) rfl (hb O.2.1 hd) rfl hn0 (cap := cap) (by rw [clamp_of hn]; exact hcap) hb8 hc hs had
  obtain ⟨s₂, o, h1, r⟩ := q h2 _ rfl E2 ⟨_, A2, by simp [RoadKit.newA, clamp_of hn, defaultValue]⟩ ⟨_, A2.1, V2⟩ p e s0 s m args below meth c T2 locs (hR.mono E2.1) O X2 e2 F
  exact ⟨s₂, o, st2 _ h1, r⟩
theorem Go.stR {a : Addr} {vs : List Value} {j : Int32} {v : Value} {k : Nat} {ty : FieldType} (hA : Ary Z h a ty vs) (hty : ty.isReference = true) (hS : Sto Z h a v) (hj : j.toInt = (k : Int)) (hk : k < vs.length) (hd : decode bytes pc = .ok (.aastore, 1)) (ha : n0 ≤ a) (hp : pc + 1 = pc')
    (q : ∀ h', Wr h h' a k v → Ary Z h' a ty (vs.set k v) → Go wd l R Z y bytes maxL ret n0 K N Q h' cells slots pc' Ls st) : Go wd l R Z y bytes maxL ret n0 K N Q h cells slots pc Ls (v :: .int j :: .ref a :: st) := by
  subst hp
  have hA' := hA
  obtain ⟨cl, A, r⟩ := hA
  intro p e s0 s m args below meth c T locs hR O X eT F
  obtain ⟨T2, h2, X2, e2, W2, st2⟩ := RoadKit.stR X O.1 O.2.2.2.2.2.1 eT A (j := j) (v := v) (inb hj r hk) hty hS (g := mkF m pc Ls (v :: .int j :: .ref a :: st)) rfl rfl (hb O.2.1 hd)
  rw [clamp_of hj] at X2 W2
  obtain ⟨s₂, o, h1, r⟩ := q h2 W2 (hA'.set W2) p e s0 s m args below meth c T2 _ (hR.mono (Nat.le_of_eq W2.size.symm)) O X2 e2 (Fr.snoc X2 F ha)
  exact ⟨s₂, o, st2 _ h1, r⟩
theorem Sto.ova {a b : Addr} {ty ty0 : FieldType} {C : String} {vs : List Value} (A : Ary Z h a ty0 vs) (V : Ova Z h a ty C) (I : Exa Z h b C) : Sto Z h a (.ref b) := by
  obtain ⟨c, A, -⟩ := A
  obtain ⟨c', B, r⟩ := V
  cases A.1.symm.trans B
  exact Sto.ofVA A rfl r (Ins.self I)
end GoArr
end Jvm.RoadKit
namespace Jvm.RoadKit
open Sem ClassFile Op Lib Jvm.Stand Jvm.Free Jvm.LawKit
section GoPriv
variable {wd : Bool} {l : Launch} {R : Room} {Z : State} {y : MethodName} {bytes : ByteArray} {maxL : Nat} {ret : Option FieldType} {n0 K N : Nat} {Q : Option Value → Heap → Prop} {h : Heap} {cells slots pc pc' : Nat} {Ls Ls' : Array Slot} {st st' : List Value} {a0 : Array Value}
variable {y2 : MethodName} {bytes2 : ByteArray} {maxL2 : Nat} {ret2 : Option FieldType} {rm : Room} {i W : Nat} {as' : Array Value} {argsL rest : List Value} {Q2 : Option Value → Heap → Prop} {ps : List FieldType} {r2 : Option FieldType}
/-- invokevirtual of a private method; that its class is no interface comes out of another word on that class -/
theorem Go.callP {a : Addr} {C C3 : String} {y4 y5 : MethodName} (w1 : (Cond.methodLink y.cls i y2).before a0 Z = true) (w6 : (Cond.instanceMethod y2).before a0 Z = true) (w7 : (Cond.privateMethod y2).before a0 Z = true) (w3 : (Cond.initialized y2.cls).before a0 Z = true) (w4 : (Cond.code y2 bytes2 maxL2 ret2).before a0 Z = true) (w8 : (Cond.selects C3 y4 y5).before a0 Z = true) (h5 : y5.cls = y2.cls)
    (hy : y2.cls ≠ "java/lang/invoke/MethodHandle" ∧ y2.cls ≠ "java/lang/invoke/VarHandle") (hE : Exa Z h a C)
    (hM : Mt false l Z y2 bytes2 maxL2 ret2 rm n0 Q2 h (.ref a :: argsL).toArray) (hd : decode bytes pc = .ok (.invokevirtual i, 3)) (hz : Ls.size = maxL) (hpd : parseMethodDescriptor y2.desc = some ⟨ps, r2⟩) (hlen : argsL.length = ps.length) (hst : st = argsL.reverse ++ .ref a :: rest)
    (hW : (rest.map fun v => v.category).sum ≤ W) (hf : rm.frames + 1 ≤ R.frames) (hl : W + (maxL2 + 11) + rm.locals ≤ R.locals) (hc : cells + rm.cells ≤ R.cells) (hs : slots + rm.slots ≤ R.slots) (hp : pc + 3 = pc')
    (q : ∀ v h', Q2 v h' → Go wd l R Z y bytes maxL ret n0 K N Q h' (cells + rm.cells) (slots + rm.slots) pc' Ls (v.toList ++ rest)) : Go wd l R Z y bytes maxL ret n0 K N Q h cells slots pc Ls st := by
  subst hp hst
  intro p e s0 s m args below meth c T locs hR O X eT F
  obtain ⟨cq, q1, q2⟩ := hE.cell
  have hsel0 : (Cond.selects C3 y4 y5).before args s = true := mvT O.2.2.2.2.2.1 w8
  obtain ⟨c2, rr, m2, -, -, q3, -, kP, hkP, hkPi⟩ := Cond.selects_spec hsel0
  have hcc := findClass_of_methodNamed q3
  rw [h5] at hcc
  have hpriv := Cond.privateMethod_at (mvP (args := #[]) O.2.2.2.2.2.1 w7)
  have hinst : (Cond.instanceMethod y2).before args s = true := mvT O.2.2.2.2.2.1 w6
  have hsel : (Cond.selects y2.cls y2 y2).before args s = true := selects_self_of_private hcc hkP hkPi hpriv hinst hy
  obtain ⟨v, vm₁, ⟨T2, L2, k2, n2⟩, -, X2, ⟨Lc, hQ, l2, y2, z2⟩, st2⟩ := X.privateBack O.1 (y := y2) O.2.2.2.1 (mvT O.2.2.2.2.2.1 w1) hinst hsel hpriv (mvT O.2.2.2.2.2.1 w4) hy
    (backOf (W := W) (Q := fun v h' L => (Q2 v h' ∧ h.size ≤ h'.size) ∧ Fr n0 L) hM O.2.2.2.2.2.1 w4 w3 hf hl) (g := mkF m pc Ls (argsL.reverse ++ .ref a :: rest)) rfl (hz.trans O.2.2.1.symm) (Steps.refl _) (a := a) (by rw [eT]; exact q1) q2 (argsL := argsL) (rest := rest) (lenOf hpd hlen) rfl (by show 2 * 0 + _ ≤ _; omega) (hb O.2.1 hd) (fun _ _ => ⟨rfl, eT, hc, hs⟩)
  dsimp only [Pt.U, Pt.locs, Pt.cells, Pt.slots] at X2 l2 y2 z2 st2 hQ
  subst l2 y2 z2
  obtain ⟨s₂, o, h1, r⟩ := q v T2.heap hQ.1.1 p e s0 s m args below meth c T2 _ (hR.mono hQ.1.2) O X2 rfl (Fr.app F hQ.2)
  exact ⟨s₂, o, st2.trans h1, r⟩
end GoPriv
end Jvm.RoadKit
namespace Jvm.RoadKit
open Sem ClassFile Op Lib Jvm.Stand Jvm.Free Jvm.LawKit
section GoCopy
variable {wd : Bool} {l : Launch} {R : Room} {Z : State} {y : MethodName} {bytes : ByteArray} {maxL : Nat} {ret : Option FieldType} {n0 K N : Nat} {Q : Option Value → Heap → Prop} {h : Heap} {cells slots pc pc' : Nat} {Ls Ls' : Array Slot} {st st' : List Value} {a0 : Array Value}
theorem Ary.arv {h : Heap} {a : Addr} {ty : FieldType} {vs : List Value} {z : Int32} (F : Ary Z h a ty vs) (hz : z.toInt = (vs.length : Int)) (hf : ∀ v ∈ vs, fits ty v = true) (dv : Value) : ∃ k, Arv Z h a k ty z vs dv := by
  obtain ⟨c, A, r⟩ := F
  have z0 : (0 : Int32).toInt = 0 := rfl
  have sz : c.slots.size = vs.length := by rw [r]; simp
  refine ⟨c.cls, c, A, rfl, by rw [sz, clamp_of hz], by rw [Int32.lt_iff_toInt_lt, z0]; omega, fun k hk => ?_, fun i hi => ?_⟩
  · rw [sz] at hk
    rw [r, List.getD_eq_getElem?_getD, List.getElem?_eq_getElem hk]; simp [hk]
  · rw [sz] at hi
    rw [List.getD_eq_getElem?_getD, List.getElem?_eq_getElem hi]
    exact hf _ (List.getElem_mem hi)
theorem Arv.ary {h : Heap} {a : Addr} {k : ClassId} {ty : FieldType} {vs : List Value} {z : Int32} {dv : Value} (F : Arv Z h a k ty z vs dv) (hz : z.toInt = (vs.length : Int)) : Ary Z h a ty vs := by
  obtain ⟨c, A, -, S, -, H, -⟩ := F
  rw [clamp_of hz] at S
  refine ⟨c, A, ?_⟩
  apply Array.ext_getElem?
  intro i
  by_cases hi : i < vs.length
  · rw [H i (by omega), List.getD_eq_getElem?_getD, List.getElem?_eq_getElem hi]; simp [hi]
  · rw [Array.getElem?_eq_none (by omega), Array.getElem?_eq_none (by simp; omega)]
theorem Go.acopy {i W i1 i2 k : Nat} {a b : Addr} {ty : FieldType} {vs vd res : List Value} {sp dp nn za zb : Int32}
    (w1 : (Cond.methodLink y.cls i Jvm.Stand.acN).before a0 Z = true) (w2 : (Cond.native Jvm.Stand.acN).before a0 Z = true) (w3 : (Cond.static Jvm.Stand.acN).before a0 Z = true) (w4 : (Cond.initialized "java/lang/System").before a0 Z = true)
    (hA : Ary Z h a ty vs) (hB : Ary Z h b ty vd) (hk : refKind ty = false) (fA : ∀ v ∈ vs, fits ty v = true) (fB : ∀ v ∈ vd, fits ty v = true) (za1 : za.toInt = (vs.length : Int)) (zb1 : zb.toInt = (vd.length : Int))
    (e1 : sp.toInt = (i1 : Int)) (e2 : dp.toInt = (i2 : Int)) (e3 : nn.toInt = (k : Int)) (b1 : i1 + k ≤ vs.length) (b2 : i2 + k ≤ vd.length) (hr : vd.take i2 ++ (vs.drop i1).take k ++ vd.drop (i2 + k) = res) (ge : n0 ≤ b)
    (hd : decode bytes pc = .ok (.invokestatic i, 3)) (hz : Ls.size = maxL) (hf : 1 ≤ R.frames) (hW : (st.map fun v => v.category).sum ≤ W) (hlo : W + (nativeFrameWords "java/lang/System" "arraycopy" 5 + 11) ≤ R.locals) (hp : pc + 3 = pc')
    (q : ∀ h', Keep h h' [b] → Ary Z h' b ty res → Go wd l R Z y bytes maxL ret n0 K N Q h' cells slots pc' Ls st) : Go wd l R Z y bytes maxL ret n0 K N Q h cells slots pc Ls (.int nn :: .int dp :: .ref b :: .int sp :: .ref a :: st) := by
  subst hp hr
  have z0 : (0 : Int32).toInt = 0 := rfl
  obtain ⟨ka, A⟩ := hA.arv za1 fA .null
  obtain ⟨kb, B⟩ := hB.arv zb1 fB .null
  intro p e s0 s m args below meth c T locs hR O X eT F
  have hus : (vs.drop i1).take k = (List.range nn.toNatClampNeg).map fun j => vs.getD (sp.toNatClampNeg + j) .null := by
    rw [clamp_of e1, clamp_of e3]
    apply List.ext_getElem
    · simp; omega
    · intro j hj1 hj2
      simp at hj1 hj2
      simp [List.getElem?_eq_getElem (show i1 + j < vs.length by omega)]
  obtain ⟨T2, h2, L2, X2, e2', N2, K2, B2, st2⟩ := cpA (us := (vs.drop i1).take k) X O.1 O.2.2.2.2.2.1 O.2.2.2.1 w1 w2 w3 w4 eT A B (Or.inl ⟨rfl, hk⟩) (sp := sp) (dp := dp) (nn := nn) (by rw [Int32.lt_iff_toInt_lt, z0]; omega) (by rw [Int32.lt_iff_toInt_lt, z0]; omega) (by rw [Int32.lt_iff_toInt_lt, z0]; omega)
    (by rw [clamp_of e1, clamp_of e3, clamp_of za1]; exact b1) (by rw [clamp_of e2, clamp_of e3, clamp_of zb1]; exact b2) hus (by rw [clamp_of e2, clamp_of e3]; exact b2) F ge (g := mkF m pc Ls (.int nn :: .int dp :: .ref b :: .int sp :: .ref a :: st)) rfl (hz.trans O.2.2.1.symm) rfl (hb O.2.1 hd) hf (W := W) (by show 2 * 0 + _ ≤ _; omega) hlo
  rw [clamp_of e2, clamp_of e3] at B2
  obtain ⟨s₂, o, h1, r⟩ := q h2 K2 (B2.ary (by rw [zb1]; simp; omega)) p e s0 s m args below meth c T2 L2 (hR.mono K2.1) O X2 e2' N2
  exact ⟨s₂, o, st2 _ h1, r⟩
end GoCopy
end Jvm.RoadKit
namespace Jvm.Pilot.@@N@@
open Jvm Jvm.ClassFile Sem Op Lib Jvm.Free Jvm.Stand Jvm.LawKit Jvm.RoadKit Bundle Jvm.Pilot.@@N@@.Jvm.D
theorem d1_0 : decode jdk_29_method_69_code 0 = .ok (.iload_n 0, 1) := by decide +kernel
theorem d1_1 : decode jdk_29_method_69_code 1 = .ok (.iload_n 1, 1) := by decide +kernel
theorem d1_2 : decode jdk_29_method_69_code 2 = .ok (.if_icmp .gt 7, 3) := by decide +kernel
theorem d1_5 : decode jdk_29_method_69_code 5 = .ok (.iload_n 0, 1) := by decide +kernel
theorem d1_6 : decode jdk_29_method_69_code 6 = .ok (.goto 4, 3) := by decide +kernel
theorem d1_9 : decode jdk_29_method_69_code 9 = .ok (.iload_n 1, 1) := by decide +kernel
theorem d1_10 : decode jdk_29_method_69_code 10 = .ok (.ireturn, 1) := by decide +kernel
theorem d2_0 : decode jdk_29_method_65_code 0 = .ok (.iload_n 0, 1) := by decide +kernel
theorem d2_1 : decode jdk_29_method_65_code 1 = .ok (.iload_n 1, 1) := by decide +kernel
theorem d2_2 : decode jdk_29_method_65_code 2 = .ok (.if_icmp .lt 7, 3) := by decide +kernel
theorem d2_5 : decode jdk_29_method_65_code 5 = .ok (.iload_n 0, 1) := by decide +kernel
theorem d2_6 : decode jdk_29_method_65_code 6 = .ok (.goto 4, 3) := by decide +kernel
theorem d2_9 : decode jdk_29_method_65_code 9 = .ok (.iload_n 1, 1) := by decide +kernel
theorem d2_10 : decode jdk_29_method_65_code 10 = .ok (.ireturn, 1) := by decide +kernel
theorem d3_0 : decode prog_41_method_4_code 0 = .ok (.iconst 1, 1) := by decide +kernel
theorem d3_1 : decode prog_41_method_4_code 1 = .ok (.aload_n 0, 1) := by decide +kernel
theorem d3_2 : decode prog_41_method_4_code 2 = .ok (.arraylength, 1) := by decide +kernel
theorem d3_3 : decode prog_41_method_4_code 3 = .ok (.iadd, 1) := by decide +kernel
theorem d3_4 : decode prog_41_method_4_code 4 = .ok (.newarray .int, 2) := by decide +kernel
theorem d3_6 : decode prog_41_method_4_code 6 = .ok (.astore_n 1, 1) := by decide +kernel
theorem d3_7 : decode prog_41_method_4_code 7 = .ok (.aload_n 1, 1) := by decide +kernel
theorem d3_8 : decode prog_41_method_4_code 8 = .ok (.iconst 0, 1) := by decide +kernel
theorem d3_9 : decode prog_41_method_4_code 9 = .ok (.aload_n 0, 1) := by decide +kernel
theorem d3_10 : decode prog_41_method_4_code 10 = .ok (.arraylength, 1) := by decide +kernel
theorem d3_11 : decode prog_41_method_4_code 11 = .ok (.iastore, 1) := by decide +kernel
theorem d3_12 : decode prog_41_method_4_code 12 = .ok (.aload_n 0, 1) := by decide +kernel
theorem d3_13 : decode prog_41_method_4_code 13 = .ok (.iconst 0, 1) := by decide +kernel
theorem d3_14 : decode prog_41_method_4_code 14 = .ok (.aload_n 1, 1) := by decide +kernel
theorem d3_15 : decode prog_41_method_4_code 15 = .ok (.iconst 1, 1) := by decide +kernel
theorem d3_16 : decode prog_41_method_4_code 16 = .ok (.aload_n 0, 1) := by decide +kernel
theorem d3_17 : decode prog_41_method_4_code 17 = .ok (.arraylength, 1) := by decide +kernel
theorem d3_18 : decode prog_41_method_4_code 18 = .ok (.invokestatic 28, 3) := by decide +kernel
theorem d3_21 : decode prog_41_method_4_code 21 = .ok (.new 4, 3) := by decide +kernel
theorem d3_24 : decode prog_41_method_4_code 24 = .ok (.dup, 1) := by decide +kernel
theorem d3_25 : decode prog_41_method_4_code 25 = .ok (.aload_n 1, 1) := by decide +kernel
theorem d3_26 : decode prog_41_method_4_code 26 = .ok (.iconst 0, 1) := by decide +kernel
theorem d3_27 : decode prog_41_method_4_code 27 = .ok (.invokespecial 25, 3) := by decide +kernel
theorem d3_30 : decode prog_41_method_4_code 30 = .ok (.areturn, 1) := by decide +kernel
theorem d4_0 : decode prog_41_method_1_code 0 = .ok (.aload_n 0, 1) := by decide +kernel
theorem d4_1 : decode prog_41_method_1_code 1 = .ok (.iconst 1, 1) := by decide +kernel
theorem d4_2 : decode prog_41_method_1_code 2 = .ok (.anewarray 1, 3) := by decide +kernel
theorem d4_5 : decode prog_41_method_1_code 5 = .ok (.dup, 1) := by decide +kernel
theorem d4_6 : decode prog_41_method_1_code 6 = .ok (.iconst 0, 1) := by decide +kernel
theorem d4_7 : decode prog_41_method_1_code 7 = .ok (.aload_n 1, 1) := by decide +kernel
theorem d4_8 : decode prog_41_method_1_code 8 = .ok (.aastore, 1) := by decide +kernel
theorem d4_9 : decode prog_41_method_1_code 9 = .ok (.iload_n 2, 1) := by decide +kernel
theorem d4_10 : decode prog_41_method_1_code 10 = .ok (.aload_n 1, 1) := by decide +kernel
theorem d4_11 : decode prog_41_method_1_code 11 = .ok (.iload_n 2, 1) := by decide +kernel
theorem d4_12 : decode prog_41_method_1_code 12 = .ok (.iaload, 1) := by decide +kernel
theorem d4_13 : decode prog_41_method_1_code 13 = .ok (.invokespecial 3, 3) := by decide +kernel
theorem d4_16 : decode prog_41_method_1_code 16 = .ok (.return_, 1) := by decide +kernel
theorem d5_0 : decode prog_41_method_2_code 0 = .ok (.aload_n 0, 1) := by decide +kernel
theorem d5_1 : decode prog_41_method_2_code 1 = .ok (.invokespecial 9, 3) := by decide +kernel
theorem d5_4 : decode prog_41_method_2_code 4 = .ok (.aload_n 0, 1) := by decide +kernel
theorem d5_5 : decode prog_41_method_2_code 5 = .ok (.aload_n 1, 1) := by decide +kernel
theorem d5_6 : decode prog_41_method_2_code 6 = .ok (.putfield 14, 3) := by decide +kernel
theorem d5_9 : decode prog_41_method_2_code 9 = .ok (.aload_n 0, 1) := by decide +kernel
theorem d5_10 : decode prog_41_method_2_code 10 = .ok (.iload_n 2, 1) := by decide +kernel
theorem d5_11 : decode prog_41_method_2_code 11 = .ok (.putfield 18, 3) := by decide +kernel
theorem d5_14 : decode prog_41_method_2_code 14 = .ok (.aload_n 0, 1) := by decide +kernel
theorem d5_15 : decode prog_41_method_2_code 15 = .ok (.iload_n 3, 1) := by decide +kernel
theorem d5_16 : decode prog_41_method_2_code 16 = .ok (.putfield 22, 3) := by decide +kernel
theorem d5_19 : decode prog_41_method_2_code 19 = .ok (.return_, 1) := by decide +kernel
theorem d7_0 : decode prog_49_method_1_code 0 = .ok (.aload_n 0, 1) := by decide +kernel
theorem d7_1 : decode prog_49_method_1_code 1 = .ok (.invokespecial 3, 3) := by decide +kernel
theorem d7_4 : decode prog_49_method_1_code 4 = .ok (.aload_n 0, 1) := by decide +kernel
theorem d7_5 : decode prog_49_method_1_code 5 = .ok (.iload_n 2, 1) := by decide +kernel
theorem d7_6 : decode prog_49_method_1_code 6 = .ok (.i2l, 1) := by decide +kernel
theorem d7_7 : decode prog_49_method_1_code 7 = .ok (.ldc2_w 9, 3) := by decide +kernel
theorem d7_10 : decode prog_49_method_1_code 10 = .ok (.ladd, 1) := by decide +kernel
theorem d7_11 : decode prog_49_method_1_code 11 = .ok (.bipush 6, 2) := by decide +kernel
theorem d7_13 : decode prog_49_method_1_code 13 = .ok (.lushr, 1) := by decide +kernel
theorem d7_14 : decode prog_49_method_1_code 14 = .ok (.l2i, 1) := by decide +kernel
theorem d7_15 : decode prog_49_method_1_code 15 = .ok (.putfield 11, 3) := by decide +kernel
theorem d7_18 : decode prog_49_method_1_code 18 = .ok (.aload_n 0, 1) := by decide +kernel
theorem d7_19 : decode prog_49_method_1_code 19 = .ok (.iconst 1, 1) := by decide +kernel
theorem d7_20 : decode prog_49_method_1_code 20 = .ok (.aload_n 0, 1) := by decide +kernel
theorem d7_21 : decode prog_49_method_1_code 21 = .ok (.getfield 11, 3) := by decide +kernel
theorem d7_24 : decode prog_49_method_1_code 24 = .ok (.sipush 8192, 3) := by decide +kernel
theorem d7_27 : decode prog_49_method_1_code 27 = .ok (.iadd, 1) := by decide +kernel
theorem d7_28 : decode prog_49_method_1_code 28 = .ok (.iconst 1, 1) := by decide +kernel
theorem d7_29 : decode prog_49_method_1_code 29 = .ok (.isub, 1) := by decide +kernel
theorem d7_30 : decode prog_49_method_1_code 30 = .ok (.sipush 8192, 3) := by decide +kernel
theorem d7_33 : decode prog_49_method_1_code 33 = .ok (.idiv, 1) := by decide +kernel
theorem d7_34 : decode prog_49_method_1_code 34 = .ok (.invokestatic 15, 3) := by decide +kernel
theorem d7_37 : decode prog_49_method_1_code 37 = .ok (.anewarray 21, 3) := by decide +kernel
theorem d7_40 : decode prog_49_method_1_code 40 = .ok (.putfield 23, 3) := by decide +kernel
theorem d7_43 : decode prog_49_method_1_code 43 = .ok (.iconst 0, 1) := by decide +kernel
theorem d7_44 : decode prog_49_method_1_code 44 = .ok (.istore_n 3, 1) := by decide +kernel
theorem d7_45 : decode prog_49_method_1_code 45 = .ok (.iload_n 3, 1) := by decide +kernel
theorem d7_46 : decode prog_49_method_1_code 46 = .ok (.aload_n 0, 1) := by decide +kernel
theorem d7_47 : decode prog_49_method_1_code 47 = .ok (.getfield 23, 3) := by decide +kernel
theorem d7_50 : decode prog_49_method_1_code 50 = .ok (.arraylength, 1) := by decide +kernel
theorem d7_51 : decode prog_49_method_1_code 51 = .ok (.if_icmp .ge 33, 3) := by decide +kernel
theorem d7_54 : decode prog_49_method_1_code 54 = .ok (.aload_n 0, 1) := by decide +kernel
theorem d7_55 : decode prog_49_method_1_code 55 = .ok (.getfield 23, 3) := by decide +kernel
theorem d7_58 : decode prog_49_method_1_code 58 = .ok (.iload_n 3, 1) := by decide +kernel
theorem d7_59 : decode prog_49_method_1_code 59 = .ok (.sipush 8192, 3) := by decide +kernel
theorem d7_62 : decode prog_49_method_1_code 62 = .ok (.aload_n 0, 1) := by decide +kernel
theorem d7_63 : decode prog_49_method_1_code 63 = .ok (.getfield 11, 3) := by decide +kernel
theorem d7_66 : decode prog_49_method_1_code 66 = .ok (.iload_n 3, 1) := by decide +kernel
theorem d7_67 : decode prog_49_method_1_code 67 = .ok (.sipush 8192, 3) := by decide +kernel
theorem d7_70 : decode prog_49_method_1_code 70 = .ok (.imul, 1) := by decide +kernel
theorem d7_71 : decode prog_49_method_1_code 71 = .ok (.isub, 1) := by decide +kernel
theorem d7_72 : decode prog_49_method_1_code 72 = .ok (.invokestatic 27, 3) := by decide +kernel
theorem d7_75 : decode prog_49_method_1_code 75 = .ok (.newarray .long, 2) := by decide +kernel
theorem d7_77 : decode prog_49_method_1_code 77 = .ok (.aastore, 1) := by decide +kernel
theorem d7_78 : decode prog_49_method_1_code 78 = .ok (.iinc 3 1, 3) := by decide +kernel
theorem d7_81 : decode prog_49_method_1_code 81 = .ok (.goto (-36), 3) := by decide +kernel
theorem d7_84 : decode prog_49_method_1_code 84 = .ok (.iconst 0, 1) := by decide +kernel
theorem d7_85 : decode prog_49_method_1_code 85 = .ok (.istore_n 3, 1) := by decide +kernel
theorem d7_86 : decode prog_49_method_1_code 86 = .ok (.iload_n 3, 1) := by decide +kernel
theorem d7_87 : decode prog_49_method_1_code 87 = .ok (.aload_n 1, 1) := by decide +kernel
theorem d7_88 : decode prog_49_method_1_code 88 = .ok (.invokevirtual 30, 3) := by decide +kernel
theorem d7_91 : decode prog_49_method_1_code 91 = .ok (.if_icmp .ge 98, 3) := by decide +kernel
theorem d7_94 : decode prog_49_method_1_code 94 = .ok (.aload_n 1, 1) := by decide +kernel
theorem d7_95 : decode prog_49_method_1_code 95 = .ok (.iload_n 3, 1) := by decide +kernel
theorem d7_96 : decode prog_49_method_1_code 96 = .ok (.invokevirtual 36, 3) := by decide +kernel
theorem d7_99 : decode prog_49_method_1_code 99 = .ok (.astore 4, 2) := by decide +kernel
theorem d7_101 : decode prog_49_method_1_code 101 = .ok (.aload_n 1, 1) := by decide +kernel
theorem d7_102 : decode prog_49_method_1_code 102 = .ok (.iload_n 3, 1) := by decide +kernel
theorem d7_103 : decode prog_49_method_1_code 103 = .ok (.invokevirtual 40, 3) := by decide +kernel
theorem d7_106 : decode prog_49_method_1_code 106 = .ok (.istore 5, 2) := by decide +kernel
theorem d7_108 : decode prog_49_method_1_code 108 = .ok (.aload_n 1, 1) := by decide +kernel
theorem d7_109 : decode prog_49_method_1_code 109 = .ok (.invokevirtual 44, 3) := by decide +kernel
theorem d7_112 : decode prog_49_method_1_code 112 = .ok (.istore 6, 2) := by decide +kernel
theorem d7_114 : decode prog_49_method_1_code 114 = .ok (.iload 6, 2) := by decide +kernel
theorem d7_116 : decode prog_49_method_1_code 116 = .ok (.iload 5, 2) := by decide +kernel
theorem d7_118 : decode prog_49_method_1_code 118 = .ok (.if_icmp .ge 65, 3) := by decide +kernel
theorem d7_121 : decode prog_49_method_1_code 121 = .ok (.aload 4, 2) := by decide +kernel
theorem d7_123 : decode prog_49_method_1_code 123 = .ok (.iload 6, 2) := by decide +kernel
theorem d7_125 : decode prog_49_method_1_code 125 = .ok (.iaload, 1) := by decide +kernel
theorem d7_126 : decode prog_49_method_1_code 126 = .ok (.bipush 6, 2) := by decide +kernel
theorem d7_128 : decode prog_49_method_1_code 128 = .ok (.iushr, 1) := by decide +kernel
theorem d7_129 : decode prog_49_method_1_code 129 = .ok (.istore 7, 2) := by decide +kernel
theorem d7_131 : decode prog_49_method_1_code 131 = .ok (.lconst 0, 1) := by decide +kernel
theorem d7_132 : decode prog_49_method_1_code 132 = .ok (.lstore 8, 2) := by decide +kernel
theorem d7_134 : decode prog_49_method_1_code 134 = .ok (.iload 6, 2) := by decide +kernel
theorem d7_136 : decode prog_49_method_1_code 136 = .ok (.iload 5, 2) := by decide +kernel
theorem d7_138 : decode prog_49_method_1_code 138 = .ok (.if_icmp .ge 34, 3) := by decide +kernel
theorem d7_141 : decode prog_49_method_1_code 141 = .ok (.aload 4, 2) := by decide +kernel
theorem d7_143 : decode prog_49_method_1_code 143 = .ok (.iload 6, 2) := by decide +kernel
theorem d7_145 : decode prog_49_method_1_code 145 = .ok (.iaload, 1) := by decide +kernel
theorem d7_146 : decode prog_49_method_1_code 146 = .ok (.bipush 6, 2) := by decide +kernel
theorem d7_148 : decode prog_49_method_1_code 148 = .ok (.iushr, 1) := by decide +kernel
theorem d7_149 : decode prog_49_method_1_code 149 = .ok (.iload 7, 2) := by decide +kernel
theorem d7_151 : decode prog_49_method_1_code 151 = .ok (.if_icmp .ne 21, 3) := by decide +kernel
theorem d7_154 : decode prog_49_method_1_code 154 = .ok (.lload 8, 2) := by decide +kernel
theorem d7_156 : decode prog_49_method_1_code 156 = .ok (.lconst 1, 1) := by decide +kernel
theorem d7_157 : decode prog_49_method_1_code 157 = .ok (.aload 4, 2) := by decide +kernel
theorem d7_159 : decode prog_49_method_1_code 159 = .ok (.iload 6, 2) := by decide +kernel
theorem d7_161 : decode prog_49_method_1_code 161 = .ok (.iaload, 1) := by decide +kernel
theorem d7_162 : decode prog_49_method_1_code 162 = .ok (.lshl, 1) := by decide +kernel
theorem d7_163 : decode prog_49_method_1_code 163 = .ok (.lor, 1) := by decide +kernel
theorem d7_164 : decode prog_49_method_1_code 164 = .ok (.lstore 8, 2) := by decide +kernel
theorem d7_166 : decode prog_49_method_1_code 166 = .ok (.iinc 6 1, 3) := by decide +kernel
theorem d7_169 : decode prog_49_method_1_code 169 = .ok (.goto (-35), 3) := by decide +kernel
theorem d7_172 : decode prog_49_method_1_code 172 = .ok (.aload_n 0, 1) := by decide +kernel
theorem d7_173 : decode prog_49_method_1_code 173 = .ok (.iload 7, 2) := by decide +kernel
theorem d7_175 : decode prog_49_method_1_code 175 = .ok (.lload 8, 2) := by decide +kernel
theorem d7_177 : decode prog_49_method_1_code 177 = .ok (.invokevirtual 47, 3) := by decide +kernel
theorem d7_180 : decode prog_49_method_1_code 180 = .ok (.goto (-66), 3) := by decide +kernel
theorem d7_183 : decode prog_49_method_1_code 183 = .ok (.iinc 3 1, 3) := by decide +kernel
theorem d7_186 : decode prog_49_method_1_code 186 = .ok (.goto (-100), 3) := by decide +kernel
theorem d7_189 : decode prog_49_method_1_code 189 = .ok (.return_, 1) := by decide +kernel
theorem d8_0 : decode prog_41_method_7_code 0 = .ok (.aload_n 0, 1) := by decide +kernel
theorem d8_1 : decode prog_41_method_7_code 1 = .ok (.getfield 14, 3) := by decide +kernel
theorem d8_4 : decode prog_41_method_7_code 4 = .ok (.arraylength, 1) := by decide +kernel
theorem d8_5 : decode prog_41_method_7_code 5 = .ok (.ireturn, 1) := by decide +kernel
theorem d9_0 : decode prog_41_method_8_code 0 = .ok (.aload_n 0, 1) := by decide +kernel
theorem d9_1 : decode prog_41_method_8_code 1 = .ok (.getfield 14, 3) := by decide +kernel
theorem d9_4 : decode prog_41_method_8_code 4 = .ok (.iload_n 1, 1) := by decide +kernel
theorem d9_5 : decode prog_41_method_8_code 5 = .ok (.aaload, 1) := by decide +kernel
theorem d9_6 : decode prog_41_method_8_code 6 = .ok (.areturn, 1) := by decide +kernel
theorem d10_0 : decode prog_41_method_10_code 0 = .ok (.aload_n 0, 1) := by decide +kernel
theorem d10_1 : decode prog_41_method_10_code 1 = .ok (.invokevirtual 44, 3) := by decide +kernel
theorem d10_4 : decode prog_41_method_10_code 4 = .ok (.aload_n 0, 1) := by decide +kernel
theorem d10_5 : decode prog_41_method_10_code 5 = .ok (.iload_n 1, 1) := by decide +kernel
theorem d10_6 : decode prog_41_method_10_code 6 = .ok (.invokevirtual 40, 3) := by decide +kernel
theorem d10_9 : decode prog_41_method_10_code 9 = .ok (.iadd, 1) := by decide +kernel
theorem d10_10 : decode prog_41_method_10_code 10 = .ok (.ireturn, 1) := by decide +kernel
theorem d11_0 : decode prog_41_method_9_code 0 = .ok (.aload_n 0, 1) := by decide +kernel
theorem d11_1 : decode prog_41_method_9_code 1 = .ok (.getfield 18, 3) := by decide +kernel
theorem d11_4 : decode prog_41_method_9_code 4 = .ok (.iconst 1, 1) := by decide +kernel
theorem d11_5 : decode prog_41_method_9_code 5 = .ok (.iadd, 1) := by decide +kernel
theorem d11_6 : decode prog_41_method_9_code 6 = .ok (.ireturn, 1) := by decide +kernel
theorem d12_0 : decode prog_41_method_11_code 0 = .ok (.aload_n 0, 1) := by decide +kernel
theorem d12_1 : decode prog_41_method_11_code 1 = .ok (.getfield 14, 3) := by decide +kernel
theorem d12_4 : decode prog_41_method_11_code 4 = .ok (.iload_n 1, 1) := by decide +kernel
theorem d12_5 : decode prog_41_method_11_code 5 = .ok (.aaload, 1) := by decide +kernel
theorem d12_6 : decode prog_41_method_11_code 6 = .ok (.aload_n 0, 1) := by decide +kernel
theorem d12_7 : decode prog_41_method_11_code 7 = .ok (.getfield 18, 3) := by decide +kernel
theorem d12_10 : decode prog_41_method_11_code 10 = .ok (.iaload, 1) := by decide +kernel
theorem d12_11 : decode prog_41_method_11_code 11 = .ok (.ireturn, 1) := by decide +kernel
theorem d13_0 : decode prog_49_method_6_code 0 = .ok (.iload_n 1, 1) := by decide +kernel
theorem d13_1 : decode prog_49_method_6_code 1 = .ok (.bipush 13, 2) := by decide +kernel
theorem d13_3 : decode prog_49_method_6_code 3 = .ok (.iushr, 1) := by decide +kernel
theorem d13_4 : decode prog_49_method_6_code 4 = .ok (.istore 4, 2) := by decide +kernel
theorem d13_6 : decode prog_49_method_6_code 6 = .ok (.iload_n 1, 1) := by decide +kernel
theorem d13_7 : decode prog_49_method_6_code 7 = .ok (.sipush 8191, 3) := by decide +kernel
theorem d13_10 : decode prog_49_method_6_code 10 = .ok (.iand, 1) := by decide +kernel
theorem d13_11 : decode prog_49_method_6_code 11 = .ok (.istore 5, 2) := by decide +kernel
theorem d13_13 : decode prog_49_method_6_code 13 = .ok (.iload 4, 2) := by decide +kernel
theorem d13_15 : decode prog_49_method_6_code 15 = .ok (.aload_n 0, 1) := by decide +kernel
theorem d13_16 : decode prog_49_method_6_code 16 = .ok (.getfield 23, 3) := by decide +kernel
theorem d13_19 : decode prog_49_method_6_code 19 = .ok (.arraylength, 1) := by decide +kernel
theorem d13_20 : decode prog_49_method_6_code 20 = .ok (.if_icmp .ge 16, 3) := by decide +kernel
theorem d13_23 : decode prog_49_method_6_code 23 = .ok (.iload 5, 2) := by decide +kernel
theorem d13_25 : decode prog_49_method_6_code 25 = .ok (.aload_n 0, 1) := by decide +kernel
theorem d13_26 : decode prog_49_method_6_code 26 = .ok (.getfield 23, 3) := by decide +kernel
theorem d13_29 : decode prog_49_method_6_code 29 = .ok (.iload 4, 2) := by decide +kernel
theorem d13_31 : decode prog_49_method_6_code 31 = .ok (.aaload, 1) := by decide +kernel
theorem d13_32 : decode prog_49_method_6_code 32 = .ok (.arraylength, 1) := by decide +kernel
theorem d13_33 : decode prog_49_method_6_code 33 = .ok (.if_icmp .lt 11, 3) := by decide +kernel
theorem d13_44 : decode prog_49_method_6_code 44 = .ok (.aload_n 0, 1) := by decide +kernel
theorem d13_45 : decode prog_49_method_6_code 45 = .ok (.getfield 23, 3) := by decide +kernel
theorem d13_48 : decode prog_49_method_6_code 48 = .ok (.iload 4, 2) := by decide +kernel
theorem d13_50 : decode prog_49_method_6_code 50 = .ok (.aaload, 1) := by decide +kernel
theorem d13_51 : decode prog_49_method_6_code 51 = .ok (.iload 5, 2) := by decide +kernel
theorem d13_53 : decode prog_49_method_6_code 53 = .ok (.dup2, 1) := by decide +kernel
theorem d13_54 : decode prog_49_method_6_code 54 = .ok (.laload, 1) := by decide +kernel
theorem d13_55 : decode prog_49_method_6_code 55 = .ok (.lload_n 2, 1) := by decide +kernel
theorem d13_56 : decode prog_49_method_6_code 56 = .ok (.lor, 1) := by decide +kernel
theorem d13_57 : decode prog_49_method_6_code 57 = .ok (.lastore, 1) := by decide +kernel
theorem d13_58 : decode prog_49_method_6_code 58 = .ok (.return_, 1) := by decide +kernel
theorem d14_0 : decode prog_49_method_3_code 0 = .ok (.iload_n 1, 1) := by decide +kernel
theorem d14_1 : decode prog_49_method_3_code 1 = .ok (.bipush 19, 2) := by decide +kernel
theorem d14_3 : decode prog_49_method_3_code 3 = .ok (.iushr, 1) := by decide +kernel
theorem d14_4 : decode prog_49_method_3_code 4 = .ok (.istore_n 2, 1) := by decide +kernel
theorem d14_5 : decode prog_49_method_3_code 5 = .ok (.iload_n 1, 1) := by decide +kernel
theorem d14_6 : decode prog_49_method_3_code 6 = .ok (.bipush 6, 2) := by decide +kernel
theorem d14_8 : decode prog_49_method_3_code 8 = .ok (.iushr, 1) := by decide +kernel
theorem d14_9 : decode prog_49_method_3_code 9 = .ok (.sipush 8191, 3) := by decide +kernel
theorem d14_12 : decode prog_49_method_3_code 12 = .ok (.iand, 1) := by decide +kernel
theorem d14_13 : decode prog_49_method_3_code 13 = .ok (.istore_n 3, 1) := by decide +kernel
theorem d14_14 : decode prog_49_method_3_code 14 = .ok (.iload_n 2, 1) := by decide +kernel
theorem d14_15 : decode prog_49_method_3_code 15 = .ok (.aload_n 0, 1) := by decide +kernel
theorem d14_16 : decode prog_49_method_3_code 16 = .ok (.getfield 23, 3) := by decide +kernel
theorem d14_19 : decode prog_49_method_3_code 19 = .ok (.arraylength, 1) := by decide +kernel
theorem d14_20 : decode prog_49_method_3_code 20 = .ok (.if_icmp .ge 35, 3) := by decide +kernel
theorem d14_23 : decode prog_49_method_3_code 23 = .ok (.iload_n 3, 1) := by decide +kernel
theorem d14_24 : decode prog_49_method_3_code 24 = .ok (.aload_n 0, 1) := by decide +kernel
theorem d14_25 : decode prog_49_method_3_code 25 = .ok (.getfield 23, 3) := by decide +kernel
theorem d14_28 : decode prog_49_method_3_code 28 = .ok (.iload_n 2, 1) := by decide +kernel
theorem d14_29 : decode prog_49_method_3_code 29 = .ok (.aaload, 1) := by decide +kernel
theorem d14_30 : decode prog_49_method_3_code 30 = .ok (.arraylength, 1) := by decide +kernel
theorem d14_31 : decode prog_49_method_3_code 31 = .ok (.if_icmp .ge 24, 3) := by decide +kernel
theorem d14_34 : decode prog_49_method_3_code 34 = .ok (.aload_n 0, 1) := by decide +kernel
theorem d14_35 : decode prog_49_method_3_code 35 = .ok (.getfield 23, 3) := by decide +kernel
theorem d14_38 : decode prog_49_method_3_code 38 = .ok (.iload_n 2, 1) := by decide +kernel
theorem d14_39 : decode prog_49_method_3_code 39 = .ok (.aaload, 1) := by decide +kernel
theorem d14_40 : decode prog_49_method_3_code 40 = .ok (.iload_n 3, 1) := by decide +kernel
theorem d14_41 : decode prog_49_method_3_code 41 = .ok (.laload, 1) := by decide +kernel
theorem d14_42 : decode prog_49_method_3_code 42 = .ok (.lconst 1, 1) := by decide +kernel
theorem d14_43 : decode prog_49_method_3_code 43 = .ok (.iload_n 1, 1) := by decide +kernel
theorem d14_44 : decode prog_49_method_3_code 44 = .ok (.lshl, 1) := by decide +kernel
theorem d14_45 : decode prog_49_method_3_code 45 = .ok (.land, 1) := by decide +kernel
theorem d14_46 : decode prog_49_method_3_code 46 = .ok (.lconst 0, 1) := by decide +kernel
theorem d14_47 : decode prog_49_method_3_code 47 = .ok (.lcmp, 1) := by decide +kernel
theorem d14_48 : decode prog_49_method_3_code 48 = .ok (.ifCond .eq 7, 3) := by decide +kernel
theorem d14_51 : decode prog_49_method_3_code 51 = .ok (.iconst 1, 1) := by decide +kernel
theorem d14_52 : decode prog_49_method_3_code 52 = .ok (.goto 4, 3) := by decide +kernel
theorem d14_55 : decode prog_49_method_3_code 55 = .ok (.iconst 0, 1) := by decide +kernel
theorem d14_56 : decode prog_49_method_3_code 56 = .ok (.ireturn, 1) := by decide +kernel
theorem pd0 : parseMethodDescriptor "([[III)V" = some ⟨[(.array (.array .int)), .int, .int], none⟩ := by decide +kernel
theorem pd1 : parseMethodDescriptor "([II)V" = some ⟨[(.array .int), .int], none⟩ := by decide +kernel
theorem pd2 : parseMethodDescriptor "()I" = some ⟨[], (some .int)⟩ := by decide +kernel
theorem pd3 : parseMethodDescriptor "(I)I" = some ⟨[.int], (some .int)⟩ := by decide +kernel
theorem pd4 : parseMethodDescriptor "(II)I" = some ⟨[.int, .int], (some .int)⟩ := by decide +kernel
theorem pd5 : parseMethodDescriptor "(I)[I" = some ⟨[.int], (some (.array .int))⟩ := by decide +kernel
theorem pd6 : parseMethodDescriptor "(IJ)V" = some ⟨[.int, .long], none⟩ := by decide +kernel
theorem pd7 : parseMethodDescriptor "([I)Lcom/example/nearword/nearword/internal/index/IntList;" = some ⟨[(.array .int)], (some (.object "com/example/nearword/nearword/internal/index/IntList"))⟩ := by decide +kernel
theorem pd8 : parseMethodDescriptor "(Lcom/example/nearword/nearword/internal/index/IntList;I)V" = some ⟨[(.object "com/example/nearword/nearword/internal/index/IntList"), .int], none⟩ := by decide +kernel
theorem pd9 : parseMethodDescriptor "(I)Z" = some ⟨[.int], (some .boolean)⟩ := by decide +kernel
theorem pn0 : plainName "com/example/nearword/nearword/internal/index/IntList" = true := by first | (simp [plainName, overriddenIn]; done) | decide +kernel
theorem pn1 : plainName "com/example/nearword/nearword/internal/index/PointBits" = true := by first | (simp [plainName, overriddenIn]; done) | decide +kernel
theorem pn2 : plainName "com/example/nearword/nearword/internal/index/PointBitsHasPinLaw" = true := by first | (simp [plainName, overriddenIn]; done) | decide +kernel

def own_bt (W : List Int64) (f : Nat) : Bool := (W.getD (f / 64) 0).toBitVec.getLsbD (f % 64)
theorem own_shl (q : Int32) (hq : 0 ≤ q.toInt) : ((1 : Int64) <<< (q &&& 0x3f).toInt64).toBitVec = 1#64 <<< (q.toInt.toNat % 64) := by
  have e : q.toBitVec.toNat = q.toInt.toNat := by
    have h1 : q.toInt = q.toBitVec.toInt := rfl
    have h2 := BitVec.toInt_eq_toNat_bmod q.toBitVec
    have h3 := q.toBitVec.isLt
    rw [h1] at hq ⊢
    rw [h2] at hq ⊢
    have : (q.toBitVec.toNat : Int).bmod (2 ^ 32) = q.toBitVec.toNat := by
      simp only [Int.bmod] at hq ⊢
      split at hq <;> split <;> omega
    rw [this]; rfl
  obtain ⟨h1, h2⟩ := sm64 q (q.toInt.toNat % 64) (by rw [e])
  show (1 : Int64).toBitVec <<< ((q &&& 0x3f).toInt64.toBitVec.smod 64) = _
  rw [h1]
  show (1 : Int64).toBitVec <<< ((BitVec.ofNat 64 (q.toInt.toNat % 64)).smod 64).toNat = _
  rw [smod64 _ h2]
  rfl
theorem own_bit1 (k j : Nat) (hk : k < 64) (hj : j < 64) : (1#64 <<< k).getLsbD j = decide (j = k) := by
  rw [BitVec.getLsbD_shiftLeft, BitVec.getLsbD_one]
  by_cases h : j = k
  · subst h; simp [hj]
  · by_cases h2 : j < k
    · simp [h, h2]
    · have h3 : j - k ≠ 0 := by omega
      simp [h, h2, h3]
theorem own_test (w : Int64) (q : Int32) (hq : 0 ≤ q.toInt) : (w &&& ((1 : Int64) <<< (q &&& 0x3f).toInt64)).toInt ≠ 0 ↔ w.toBitVec.getLsbD (q.toInt.toNat % 64) = true := by
  have hk : q.toInt.toNat % 64 < 64 := Nat.mod_lt _ (by decide)
  have e : (w &&& ((1 : Int64) <<< (q &&& 0x3f).toInt64)).toBitVec = w.toBitVec &&& (1#64 <<< (q.toInt.toNat % 64)) := by
    rw [← own_shl q hq]; rfl
  have z : (w &&& ((1 : Int64) <<< (q &&& 0x3f).toInt64)).toInt ≠ 0 ↔ w.toBitVec &&& (1#64 <<< (q.toInt.toNat % 64)) ≠ 0#64 := by
    rw [← e]
    constructor
    · intro h h2; apply h
      have : (w &&& ((1 : Int64) <<< (q &&& 0x3f).toInt64)) = 0 := Int64.toBitVec_inj.mp h2
      rw [this]; rfl
    · intro h h2; apply h
      have : (w &&& ((1 : Int64) <<< (q &&& 0x3f).toInt64)) = 0 := Int64.toInt_inj.mp h2
      rw [this]; rfl
  rw [z]
  generalize q.toInt.toNat % 64 = k at hk
  constructor
  · intro h
    cases hb : w.toBitVec.getLsbD k with
    | true => rfl
    | false =>
      exfalso; apply h
      apply BitVec.eq_of_getLsbD_eq
      intro i hi
      rw [BitVec.getLsbD_and, own_bit1 k i hk hi]
      by_cases q : i = k
      · subst q; simp [hb]
      · simp [q]
  · intro h h2
    have q : (w.toBitVec &&& (1#64 <<< k)).getLsbD k = true := by rw [BitVec.getLsbD_and, own_bit1 k k hk hk, h]; simp
    rw [h2] at q
    simp at q
theorem own_set (W : List Int64) (t : Int32) (w : Int64) (ht : 0 ≤ t.toInt) (hw : W[t.toInt.toNat / 64]? = some w) (f : Nat) :
    (own_bt (W.set (t.toInt.toNat / 64) (w ||| ((1 : Int64) <<< (t &&& 0x3f).toInt64))) f = true ↔ (own_bt W f = true ∨ (f : Int) = t.toInt)) := by
  have hk : t.toInt.toNat % 64 < 64 := Nat.mod_lt _ (by decide)
  have hlt : t.toInt.toNat / 64 < W.length := (List.getElem?_eq_some_iff.mp hw).1
  have e : (w ||| ((1 : Int64) <<< (t &&& 0x3f).toInt64)).toBitVec = w.toBitVec ||| (1#64 <<< (t.toInt.toNat % 64)) := by
    rw [← own_shl t ht]; rfl
  have hf : f % 64 < 64 := Nat.mod_lt _ (by decide)
  unfold own_bt
  rw [List.getD_eq_getElem?_getD, List.getD_eq_getElem?_getD, List.getElem?_set]
  by_cases h1 : t.toInt.toNat / 64 = f / 64
  · rw [if_pos h1, ← h1, hw]
    simp only [hlt, if_true, Option.getD_some]
    rw [e, BitVec.getLsbD_or, own_bit1 _ _ hk hf, Bool.or_eq_true, decide_eq_true_eq]
    constructor
    · rintro (h | h)
      · exact Or.inl h
      · right; omega
    · rintro (h | h)
      · exact Or.inl h
      · right; omega
  · rw [if_neg h1]
    constructor
    · intro h; exact Or.inl h
    · rintro (h | h)
      · exact h
      · exfalso; omega
theorem own_zero (n f : Nat) : ¬ own_bt (List.replicate n (0 : Int64)) f = true := by
  unfold own_bt
  rw [List.getD_eq_getElem?_getD, List.getElem?_replicate]
  split <;> simp

theorem own_i32 (n : Nat) (h : n < 2147483648) : ∃ z : Int32, z.toInt = (n : Int) := ⟨n.toInt32, len_toInt h⟩
theorem own_orx (W : List Int64) (k : Nat) (x b : Int64) (hx : W[k]? = some x) (f : Nat) : (own_bt (W.set k (x ||| b)) f = true ↔ (own_bt W f = true ∨ (f / 64 = k ∧ b.toBitVec.getLsbD (f % 64) = true))) := by
  have hlt : k < W.length := (List.getElem?_eq_some_iff.mp hx).1
  unfold own_bt
  rw [List.getD_eq_getElem?_getD, List.getD_eq_getElem?_getD, List.getElem?_set]
  by_cases h1 : k = f / 64
  · rw [if_pos h1, ← h1, hx]
    simp only [hlt, if_true, Option.getD_some, true_and]
    have e : (x ||| b).toBitVec = x.toBitVec ||| b.toBitVec := rfl
    rw [e, BitVec.getLsbD_or, Bool.or_eq_true]
  · rw [if_neg h1]
    constructor
    · intro h; exact Or.inl h
    · rintro (h | h)
      · exact h
      · exact absurd h.1.symm h1
theorem own_or1 (W : List Int64) (w : Int32) (x b : Int64) (hw : 0 ≤ w.toInt) (hx : W[w.toInt.toNat]? = some x) (f : Nat) : (own_bt (W.set w.toInt.toNat (x ||| b)) f = true ↔ (own_bt W f = true ∨ (f / 64 = w.toInt.toNat ∧ b.toBitVec.getLsbD (f % 64) = true))) := own_orx W _ x b hx f
theorem own_or2a (W V : List Int64) (w : Int32) (x b : Int64) (hw : 0 ≤ w.toInt) (hx : W[w.toInt.toNat]? = some x) (f : Nat) : (own_bt (W.set w.toInt.toNat (x ||| b) ++ V) f = true ↔ (own_bt (W ++ V) f = true ∨ (f / 64 = w.toInt.toNat ∧ b.toBitVec.getLsbD (f % 64) = true))) := by
  have hlt : w.toInt.toNat < W.length := (List.getElem?_eq_some_iff.mp hx).1
  rw [← List.set_append_left _ _ hlt]
  exact own_orx _ _ x b (by rw [List.getElem?_append_left hlt]; exact hx) f
theorem own_or2b (W V : List Int64) (w : Int32) (x b : Int64) (hw : 8192 ≤ w.toInt) (hl : W.length = 8192) (hx : V[w.toInt.toNat - 8192]? = some x) (f : Nat) : (own_bt (W ++ V.set (w.toInt.toNat - 8192) (x ||| b)) f = true ↔ (own_bt (W ++ V) f = true ∨ (f / 64 = w.toInt.toNat ∧ b.toBitVec.getLsbD (f % 64) = true))) := by
  have hle : W.length ≤ w.toInt.toNat := by omega
  have e : W ++ V.set (w.toInt.toNat - 8192) (x ||| b) = (W ++ V).set w.toInt.toNat (x ||| b) := by rw [List.set_append_right _ _ hle, hl]
  rw [e]
  exact own_orx _ _ x b (by rw [List.getElem?_append_right hle, hl]; exact hx) f
theorem own_far (W : List Int64) (f : Nat) (h : W.length ≤ f / 64) : ¬ own_bt W f = true := by
  unfold own_bt
  rw [List.getD_eq_getElem?_getD, List.getElem?_eq_none h]
  simp
theorem own_at (W : List Int64) (f : Nat) {v : Int64} (h : W[f / 64]? = some v) : (own_bt W f = true ↔ v.toBitVec.getLsbD (f % 64) = true) := by
  unfold own_bt; rw [List.getD_eq_getElem?_getD, h]; rfl
theorem own_atL (W V : List Int64) (f : Nat) {v : Int64} (h : W[f / 64]? = some v) : (own_bt (W ++ V) f = true ↔ v.toBitVec.getLsbD (f % 64) = true) :=
  own_at _ f (by rw [List.getElem?_append_left (List.getElem?_eq_some_iff.mp h).1]; exact h)
theorem own_atR (W V : List Int64) (f : Nat) {v : Int64} (hle : W.length ≤ f / 64) (h : V[f / 64 - W.length]? = some v) : (own_bt (W ++ V) f = true ↔ v.toBitVec.getLsbD (f % 64) = true) :=
  own_at _ f (by rw [List.getElem?_append_right hle]; exact h)
theorem own_zero2 (n k f : Nat) : ¬ own_bt (List.replicate n (0 : Int64) ++ List.replicate k (0 : Int64)) f = true := by
  rw [List.replicate_append_replicate]; exact own_zero _ _
theorem own_z0 (j : Nat) : ((0 : Int64).toBitVec.getLsbD j = true ↔ False) := by
  have e : (0 : Int64).toBitVec = 0#64 := rfl
  rw [e]; simp
theorem own_orb (b : Int64) (q : Int32) (hq : 0 ≤ q.toInt) (j : Nat) (hj : j < 64) (P : Prop) (hb : b.toBitVec.getLsbD j = true ↔ P) : ((b ||| ((1 : Int64) <<< (q &&& 0x3f).toInt64)).toBitVec.getLsbD j = true ↔ (P ∨ j = q.toInt.toNat % 64)) := by
  have e : (b ||| ((1 : Int64) <<< (q &&& 0x3f).toInt64)).toBitVec = b.toBitVec ||| (1#64 <<< (q.toInt.toNat % 64)) := by rw [← own_shl q hq]; rfl
  rw [e, BitVec.getLsbD_or, own_bit1 _ _ (Nat.mod_lt _ (by decide)) hj, Bool.or_eq_true, decide_eq_true_eq, hb]

set_option maxRecDepth 65536 in
set_option maxHeartbeats 40000000 in
theorem m_min (l : Launch) (Z : State) (a0 : Array Value) (hw : ∀ d ∈ tables_1, d.before a0 Z = true) (p q : Int32) (h0 : Heap) (n0 : Nat) (z0 : n0 ≤ h0.size)  : Mt false l Z (⟨"java/lang/Math", "min", "(II)I"⟩ : MethodName) jdk_29_method_69_code 2 (some .int) ({ frames := 0, cells := 0, slots := 0, locals := 0 } : Room) n0 (fun v h => ∃ r : Int32, v = some (.int r) ∧ h0 = h ∧ ((p.toInt ≤ q.toInt ∧ r.toInt = p.toInt) ∨ (q.toInt < p.toInt ∧ r.toInt = q.toInt))) h0 #[(.int p), (.int q)] := by
  refine Mt.go (Ls := #[.val (.int p), .val (.int q)]) (by first | exact plainFor_of_name (by decide +kernel) | decide +kernel | (simp [plainFor]; done)) (fun m => by first | (simp [entryFrame, mkF, argsToLocals, Value.category]; done) | rfl) ?_
  show (Go false l ({ frames := 0, cells := 0, slots := 0, locals := 0 } : Room) Z (⟨"java/lang/Math", "min", "(II)I"⟩ : MethodName) jdk_29_method_69_code 2 (some .int) n0 0 0 (fun v h => ∃ r : Int32, v = some (.int r) ∧ h0 = h ∧ ((p.toInt ≤ q.toInt ∧ r.toInt = p.toInt) ∨ (q.toInt < p.toInt ∧ r.toInt = q.toInt)))) h0 0 0 0 #[.val (.int p), .val (.int q)] []
  refine Go.iloadN (pc' := 1) d1_0 rfl rfl ?_
  refine Go.iloadN (pc' := 2) d1_1 rfl rfl ?_
  refine Go.icmp (pc1 := 9) (pc2 := 5) d1_2 (by decide) (by decide) rfl (fun (c_1 : q.toInt < p.toInt) => ?_) (fun (c_1 : p.toInt ≤ q.toInt) => ?_)
  · refine Go.iloadN (pc' := 10) d1_9 rfl rfl ?_
    exact Go.retI d1_10 rfl ⟨_, rfl, rfl, by omega⟩ (by decide) (by decide)
  · refine Go.iloadN (pc' := 6) d1_5 rfl rfl ?_
    refine Go.goto (pc' := 10) d1_6 (by decide) (by decide) ?_
    exact Go.retI d1_10 rfl ⟨_, rfl, rfl, by omega⟩ (by decide) (by decide)
set_option maxRecDepth 65536 in
set_option maxHeartbeats 40000000 in
theorem m_max (l : Launch) (Z : State) (a0 : Array Value) (hw : ∀ d ∈ tables_1, d.before a0 Z = true) (p q : Int32) (h0 : Heap) (n0 : Nat) (z0 : n0 ≤ h0.size)  : Mt false l Z (⟨"java/lang/Math", "max", "(II)I"⟩ : MethodName) jdk_29_method_65_code 2 (some .int) ({ frames := 0, cells := 0, slots := 0, locals := 0 } : Room) n0 (fun v h => ∃ r : Int32, v = some (.int r) ∧ h0 = h ∧ ((q.toInt ≤ p.toInt ∧ r.toInt = p.toInt) ∨ (p.toInt < q.toInt ∧ r.toInt = q.toInt))) h0 #[(.int p), (.int q)] := by
  refine Mt.go (Ls := #[.val (.int p), .val (.int q)]) (by first | exact plainFor_of_name (by decide +kernel) | decide +kernel | (simp [plainFor]; done)) (fun m => by first | (simp [entryFrame, mkF, argsToLocals, Value.category]; done) | rfl) ?_
  show (Go false l ({ frames := 0, cells := 0, slots := 0, locals := 0 } : Room) Z (⟨"java/lang/Math", "max", "(II)I"⟩ : MethodName) jdk_29_method_65_code 2 (some .int) n0 0 0 (fun v h => ∃ r : Int32, v = some (.int r) ∧ h0 = h ∧ ((q.toInt ≤ p.toInt ∧ r.toInt = p.toInt) ∨ (p.toInt < q.toInt ∧ r.toInt = q.toInt)))) h0 0 0 0 #[.val (.int p), .val (.int q)] []
  refine Go.iloadN (pc' := 1) d2_0 rfl rfl ?_
  refine Go.iloadN (pc' := 2) d2_1 rfl rfl ?_
  refine Go.icmp (pc1 := 9) (pc2 := 5) d2_2 (by decide) (by decide) rfl (fun (c_2 : p.toInt < q.toInt) => ?_) (fun (c_2 : q.toInt ≤ p.toInt) => ?_)
  · refine Go.iloadN (pc' := 10) d2_9 rfl rfl ?_
    exact Go.retI d2_10 rfl ⟨_, rfl, rfl, by omega⟩ (by decide) (by decide)
  · refine Go.iloadN (pc' := 6) d2_5 rfl rfl ?_
    refine Go.goto (pc' := 10) d2_6 (by decide) (by decide) ?_
    exact Go.retI d2_10 rfl ⟨_, rfl, rfl, by omega⟩ (by decide) (by decide)
set_option maxRecDepth 65536 in
set_option maxHeartbeats 40000000 in
theorem m_i3 (l : Launch) (Z : State) (a0 : Array Value) (hw : ∀ d ∈ tables_1, d.before a0 Z = true) (a g : Addr) (s n : Int32) (h0 : Heap) (n0 : Nat) (z0 : n0 ≤ h0.size) (hE : Exa Z h0 a "com/example/nearword/nearword/internal/index/IntList") (hF1 : Fld Z h0 a "com/example/nearword/nearword/internal/index/IntList" "pieces" "[[I" .null) (hF2 : Fld Z h0 a "com/example/nearword/nearword/internal/index/IntList" "start" "I" (.int (0 : Int32))) (hF3 : Fld Z h0 a "com/example/nearword/nearword/internal/index/IntList" "size" "I" (.int (0 : Int32))) (hg : n0 ≤ a) : Mt false l Z (⟨"com/example/nearword/nearword/internal/index/IntList", "<init>", "([[III)V"⟩ : MethodName) prog_41_method_2_code 4 none ({ frames := 1, cells := 0, slots := 0, locals := 12 } : Room) n0 (fun v h => v = none ∧ Keep h0 h [a] ∧ Exa Z h a "com/example/nearword/nearword/internal/index/IntList" ∧ Fld Z h a "com/example/nearword/nearword/internal/index/IntList" "pieces" "[[I" (.ref g) ∧ Fld Z h a "com/example/nearword/nearword/internal/index/IntList" "start" "I" (.int s) ∧ Fld Z h a "com/example/nearword/nearword/internal/index/IntList" "size" "I" (.int n)) h0 #[(.ref a), (.ref g), (.int s), (.int n)] := by
  refine Mt.go (Ls := #[.val (.ref a), .val (.ref g), .val (.int s), .val (.int n)]) (plainFor_of_name pn0) (fun m => by first | (simp [entryFrame, mkF, argsToLocals, Value.category]; done) | rfl) ?_
  show (Go false l ({ frames := 1, cells := 0, slots := 0, locals := 12 } : Room) Z (⟨"com/example/nearword/nearword/internal/index/IntList", "<init>", "([[III)V"⟩ : MethodName) prog_41_method_2_code 4 none n0 0 0 (fun v h => v = none ∧ Keep h0 h [a] ∧ Exa Z h a "com/example/nearword/nearword/internal/index/IntList" ∧ Fld Z h a "com/example/nearword/nearword/internal/index/IntList" "pieces" "[[I" (.ref g) ∧ Fld Z h a "com/example/nearword/nearword/internal/index/IntList" "start" "I" (.int s) ∧ Fld Z h a "com/example/nearword/nearword/internal/index/IntList" "size" "I" (.int n))) h0 0 0 0 #[.val (.ref a), .val (.ref g), .val (.int s), .val (.int n)] []
  refine Go.aloadN (pc' := 1) d5_0 rfl rfl rfl ?_
  refine Go.initO (pc' := 4) (W := 0) (hw _ (List.mem_of_getElem? (i := 31) rfl)) (hw _ (List.mem_of_getElem? (i := 32) rfl)) (hw _ (List.mem_of_getElem? (i := 33) rfl)) d5_1 rfl (by decide) (Nat.le_of_eq rfl) (by decide) rfl ?_
  refine Go.aloadN (pc' := 5) d5_4 rfl rfl rfl ?_
  refine Go.aloadN (pc' := 6) d5_5 rfl rfl rfl ?_
  refine Go.putF (pc' := 9) (ty := (.array (.array .int))) (hw _ (List.mem_of_getElem? (i := 34) rfl)) hF1 hE (Or.inr ⟨(hw _ (List.mem_of_getElem? (i := 35) rfl)), rfl, rfl⟩) (hw _ (List.mem_of_getElem? (i := 21) rfl)) (by decide) rfl rfl d5_6 hg rfl ?_
  intro h_3 W_4
  have f_5 : Exa Z h_3 a "com/example/nearword/nearword/internal/index/IntList" := Exa.wr W_4 hE
  have t_6 : a < h_3.size := Nat.lt_of_lt_of_le hE.lt (Nat.le_of_eq W_4.size.symm)
  have z_7 : n0 ≤ h_3.size := Nat.le_trans z0 (Nat.le_of_eq W_4.size.symm)
  have b_8 : h0.size ≤ h_3.size := Nat.le_trans (Nat.le_refl _) (Nat.le_of_eq W_4.size.symm)
  have K_9 : Keep h0 h_3 [a] := (Keep.refl _ _).wr W_4 (Or.inl (List.mem_of_getElem? (i := 0) rfl))
  have f_10 : Fld Z h_3 a "com/example/nearword/nearword/internal/index/IntList" "pieces" "[[I" (.ref g) := Fld.same W_4 hF1
  have f_11 : Fld Z h_3 a "com/example/nearword/nearword/internal/index/IntList" "start" "I" (.int (0 : Int32)) := Fld.other W_4 hF2 (Or.inr (slot_ne (Or.inr (hw _ (List.mem_of_getElem? (i := 37) rfl))) (Or.inr (hw _ (List.mem_of_getElem? (i := 35) rfl))) (by decide) (t := .int) (t' := (.array (.array .int))) (by decide) (by decide)))
  have f_12 : Fld Z h_3 a "com/example/nearword/nearword/internal/index/IntList" "size" "I" (.int (0 : Int32)) := Fld.other W_4 hF3 (Or.inr (slot_ne (Or.inr (hw _ (List.mem_of_getElem? (i := 39) rfl))) (Or.inr (hw _ (List.mem_of_getElem? (i := 35) rfl))) (by decide) (t := .int) (t' := (.array (.array .int))) (by decide) (by decide)))
  refine Go.aloadN (pc' := 10) d5_9 rfl rfl rfl ?_
  refine Go.iloadN (pc' := 11) d5_10 rfl rfl ?_
  refine Go.putF (pc' := 14) (ty := .int) (hw _ (List.mem_of_getElem? (i := 36) rfl)) f_11 f_5 (Or.inr ⟨(hw _ (List.mem_of_getElem? (i := 37) rfl)), rfl, rfl⟩) (hw _ (List.mem_of_getElem? (i := 21) rfl)) (by decide) rfl rfl d5_11 hg rfl ?_
  intro h_13 W_14
  have f_15 : Exa Z h_13 a "com/example/nearword/nearword/internal/index/IntList" := Exa.wr W_14 f_5
  have t_16 : a < h_13.size := Nat.lt_of_lt_of_le t_6 (Nat.le_of_eq W_14.size.symm)
  have z_17 : n0 ≤ h_13.size := Nat.le_trans z_7 (Nat.le_of_eq W_14.size.symm)
  have b_18 : h0.size ≤ h_13.size := Nat.le_trans b_8 (Nat.le_of_eq W_14.size.symm)
  have K_19 : Keep h0 h_13 [a] := K_9.wr W_14 (Or.inl (List.mem_of_getElem? (i := 0) rfl))
  have f_20 : Fld Z h_13 a "com/example/nearword/nearword/internal/index/IntList" "pieces" "[[I" (.ref g) := Fld.other W_14 f_10 (Or.inr (slot_ne (Or.inr (hw _ (List.mem_of_getElem? (i := 35) rfl))) (Or.inr (hw _ (List.mem_of_getElem? (i := 37) rfl))) (by decide) (t := (.array (.array .int))) (t' := .int) (by decide) (by decide)))
  have f_21 : Fld Z h_13 a "com/example/nearword/nearword/internal/index/IntList" "start" "I" (.int s) := Fld.same W_14 f_11
  have f_22 : Fld Z h_13 a "com/example/nearword/nearword/internal/index/IntList" "size" "I" (.int (0 : Int32)) := Fld.other W_14 f_12 (Or.inr (slot_ne (Or.inr (hw _ (List.mem_of_getElem? (i := 39) rfl))) (Or.inr (hw _ (List.mem_of_getElem? (i := 37) rfl))) (by decide) (t := .int) (t' := .int) (by decide) (by decide)))
  refine Go.aloadN (pc' := 15) d5_14 rfl rfl rfl ?_
  refine Go.iloadN (pc' := 16) d5_15 rfl rfl ?_
  refine Go.putF (pc' := 19) (ty := .int) (hw _ (List.mem_of_getElem? (i := 38) rfl)) f_22 f_15 (Or.inr ⟨(hw _ (List.mem_of_getElem? (i := 39) rfl)), rfl, rfl⟩) (hw _ (List.mem_of_getElem? (i := 21) rfl)) (by decide) rfl rfl d5_16 hg rfl ?_
  intro h_23 W_24
  have f_25 : Exa Z h_23 a "com/example/nearword/nearword/internal/index/IntList" := Exa.wr W_24 f_15
  have t_26 : a < h_23.size := Nat.lt_of_lt_of_le t_16 (Nat.le_of_eq W_24.size.symm)
  have z_27 : n0 ≤ h_23.size := Nat.le_trans z_17 (Nat.le_of_eq W_24.size.symm)
  have b_28 : h0.size ≤ h_23.size := Nat.le_trans b_18 (Nat.le_of_eq W_24.size.symm)
  have K_29 : Keep h0 h_23 [a] := K_19.wr W_24 (Or.inl (List.mem_of_getElem? (i := 0) rfl))
  have f_30 : Fld Z h_23 a "com/example/nearword/nearword/internal/index/IntList" "pieces" "[[I" (.ref g) := Fld.other W_24 f_20 (Or.inr (slot_ne (Or.inr (hw _ (List.mem_of_getElem? (i := 35) rfl))) (Or.inr (hw _ (List.mem_of_getElem? (i := 39) rfl))) (by decide) (t := (.array (.array .int))) (t' := .int) (by decide) (by decide)))
  have f_31 : Fld Z h_23 a "com/example/nearword/nearword/internal/index/IntList" "start" "I" (.int s) := Fld.other W_24 f_21 (Or.inr (slot_ne (Or.inr (hw _ (List.mem_of_getElem? (i := 37) rfl))) (Or.inr (hw _ (List.mem_of_getElem? (i := 39) rfl))) (by decide) (t := .int) (t' := .int) (by decide) (by decide)))
  have f_32 : Fld Z h_23 a "com/example/nearword/nearword/internal/index/IntList" "size" "I" (.int n) := Fld.same W_24 f_22
  exact Go.ret0 d5_19 rfl ⟨rfl, K_29, f_25, f_30, f_31, f_32⟩ (by decide) (by decide)
set_option maxRecDepth 65536 in
set_option maxHeartbeats 40000000 in
theorem m_i2 (l : Launch) (Z : State) (a0 : Array Value) (hw : ∀ d ∈ tables_1, d.before a0 Z = true) (a r : Addr) (x y z : Int32) (h0 : Heap) (n0 : Nat) (z0 : n0 ≤ h0.size) (hE : Exa Z h0 a "com/example/nearword/nearword/internal/index/IntList") (hF1 : Fld Z h0 a "com/example/nearword/nearword/internal/index/IntList" "pieces" "[[I" .null) (hF2 : Fld Z h0 a "com/example/nearword/nearword/internal/index/IntList" "start" "I" (.int (0 : Int32))) (hF3 : Fld Z h0 a "com/example/nearword/nearword/internal/index/IntList" "size" "I" (.int (0 : Int32))) (hg : n0 ≤ a) (hA : Ary Z h0 r .int [.int (3 : Int32), .int x, .int y, .int z]) (hX : Exa Z h0 r "[I") (hne : a ≠ r) : Mt false l Z (⟨"com/example/nearword/nearword/internal/index/IntList", "<init>", "([II)V"⟩ : MethodName) prog_41_method_1_code 3 none ({ frames := 2, cells := 1, slots := 1, locals := 27 } : Room) n0 (fun v h => v = none ∧ ∃ g, Keep h0 h [a] ∧ Exa Z h a "com/example/nearword/nearword/internal/index/IntList" ∧ Fld Z h a "com/example/nearword/nearword/internal/index/IntList" "pieces" "[[I" (.ref g) ∧ Fld Z h a "com/example/nearword/nearword/internal/index/IntList" "start" "I" (.int (0 : Int32)) ∧ Fld Z h a "com/example/nearword/nearword/internal/index/IntList" "size" "I" (.int (3 : Int32)) ∧ Ary Z h g (.array .int) [.ref r] ∧ h0.size ≤ g ∧ g < h.size) h0 #[(.ref a), (.ref r), (.int (0 : Int32))] := by
  refine Mt.go (Ls := #[.val (.ref a), .val (.ref r), .val (.int (0 : Int32))]) (plainFor_of_name pn0) (fun m => by first | (simp [entryFrame, mkF, argsToLocals, Value.category]; done) | rfl) ?_
  show (Go false l ({ frames := 2, cells := 1, slots := 1, locals := 27 } : Room) Z (⟨"com/example/nearword/nearword/internal/index/IntList", "<init>", "([II)V"⟩ : MethodName) prog_41_method_1_code 3 none n0 1 1 (fun v h => v = none ∧ ∃ g, Keep h0 h [a] ∧ Exa Z h a "com/example/nearword/nearword/internal/index/IntList" ∧ Fld Z h a "com/example/nearword/nearword/internal/index/IntList" "pieces" "[[I" (.ref g) ∧ Fld Z h a "com/example/nearword/nearword/internal/index/IntList" "start" "I" (.int (0 : Int32)) ∧ Fld Z h a "com/example/nearword/nearword/internal/index/IntList" "size" "I" (.int (3 : Int32)) ∧ Ary Z h g (.array .int) [.ref r] ∧ h0.size ≤ g ∧ g < h.size)) h0 0 0 0 #[.val (.ref a), .val (.ref r), .val (.int (0 : Int32))] []
  refine Go.aloadN (pc' := 1) d4_0 rfl rfl rfl ?_
  refine Go.iconst (pc' := 2) (v := (1 : Int32)) d4_1 rfl rfl ?_
  refine Go.newRA (pc' := 5) (k := 1) (ty := .int) (cap := 1) (C := "[I") (ad := "[[I") (by decide) (hw _ (List.mem_of_getElem? (i := 25) rfl)) (hw _ (List.mem_of_getElem? (i := 26) rfl)) (by decide) rfl (by decide) (by decide) d4_2 (by decide) (by decide) rfl ?_
  intro h_33 a_34 q_35 E_36 A_37 V_38
  have n_39 : a ≠ a_34 := Nat.ne_of_lt (q_35 ▸ hE.lt)
  have n_40 : r ≠ a_34 := Nat.ne_of_lt (q_35 ▸ hA.lt)
  have g_41 : n0 ≤ a_34 := q_35 ▸ z0
  have g_42 : h0.size ≤ a_34 := q_35 ▸ (Nat.le_refl _)
  have f_43 : Exa Z h_33 a "com/example/nearword/nearword/internal/index/IntList" := hE.sm (Sm.ext E_36)
  have f_44 : Fld Z h_33 a "com/example/nearword/nearword/internal/index/IntList" "pieces" "[[I" .null := hF1.sm (Sm.ext E_36)
  have f_45 : Fld Z h_33 a "com/example/nearword/nearword/internal/index/IntList" "start" "I" (.int (0 : Int32)) := hF2.sm (Sm.ext E_36)
  have f_46 : Fld Z h_33 a "com/example/nearword/nearword/internal/index/IntList" "size" "I" (.int (0 : Int32)) := hF3.sm (Sm.ext E_36)
  have f_47 : Ary Z h_33 r .int [(.int (3 : Int32)), (.int x), (.int y), (.int z)] := hA.sm (Sm.ext E_36)
  have f_48 : Exa Z h_33 r "[I" := hX.sm (Sm.ext E_36)
  have t_49 : a < h_33.size := Nat.lt_of_lt_of_le hE.lt E_36.1
  have t_50 : r < h_33.size := Nat.lt_of_lt_of_le hA.lt E_36.1
  have z_51 : n0 ≤ h_33.size := Nat.le_trans z0 E_36.1
  have b_52 : h0.size ≤ h_33.size := Nat.le_trans (Nat.le_refl _) E_36.1
  have K_53 : Keep h0 h_33 [a] := (Keep.refl _ _).ext E_36
  have t_54 : a_34 < h_33.size := A_37.lt
  change Ary Z h_33 a_34 (.array .int) [.null] at A_37
  refine Go.dup (pc' := 6) d4_5 rfl rfl ?_
  refine Go.iconst (pc' := 7) (v := (0 : Int32)) d4_6 rfl rfl ?_
  refine Go.aloadN (pc' := 8) d4_7 rfl rfl rfl ?_
  refine Go.stR (pc' := 9) (k := 0) A_37 rfl (Sto.ova A_37 V_38 f_48) rfl (by show 0 < 1; decide) d4_8 g_41 rfl ?_
  intro h_55 W_56 A_57
  have f_58 : Exa Z h_55 a "com/example/nearword/nearword/internal/index/IntList" := f_43.sm (Sm.wr W_56 n_39)
  have f_59 : Fld Z h_55 a "com/example/nearword/nearword/internal/index/IntList" "pieces" "[[I" .null := f_44.sm (Sm.wr W_56 n_39)
  have f_60 : Fld Z h_55 a "com/example/nearword/nearword/internal/index/IntList" "start" "I" (.int (0 : Int32)) := f_45.sm (Sm.wr W_56 n_39)
  have f_61 : Fld Z h_55 a "com/example/nearword/nearword/internal/index/IntList" "size" "I" (.int (0 : Int32)) := f_46.sm (Sm.wr W_56 n_39)
  have f_62 : Ary Z h_55 r .int [(.int (3 : Int32)), (.int x), (.int y), (.int z)] := f_47.sm (Sm.wr W_56 n_40)
  have f_63 : Exa Z h_55 r "[I" := f_48.sm (Sm.wr W_56 n_40)
  have f_64 : Ova Z h_55 a_34 .int "[I" := Ova.wr W_56 V_38
  have t_65 : a < h_55.size := Nat.lt_of_lt_of_le t_49 (Nat.le_of_eq W_56.size.symm)
  have t_66 : r < h_55.size := Nat.lt_of_lt_of_le t_50 (Nat.le_of_eq W_56.size.symm)
  have t_67 : a_34 < h_55.size := Nat.lt_of_lt_of_le t_54 (Nat.le_of_eq W_56.size.symm)
  have z_68 : n0 ≤ h_55.size := Nat.le_trans z_51 (Nat.le_of_eq W_56.size.symm)
  have b_69 : h0.size ≤ h_55.size := Nat.le_trans b_52 (Nat.le_of_eq W_56.size.symm)
  have K_70 : Keep h0 h_55 [a] := K_53.wr W_56 (Or.inr g_42)
  change Ary Z h_55 a_34 (.array .int) [(.ref r)] at A_57
  refine Go.iloadN (pc' := 10) d4_9 rfl rfl ?_
  refine Go.aloadN (pc' := 11) d4_10 rfl rfl rfl ?_
  refine Go.iloadN (pc' := 12) d4_11 rfl rfl ?_
  refine Go.ldI (pc' := 13) (k := 0) (v := (.int (3 : Int32))) f_62 rfl rfl d4_12 rfl ?_
  refine Go.callN (pc' := 16) (argsL := [(.ref a_34), (.int (0 : Int32)), (.int (3 : Int32))]) (rest := []) (W := 0) rfl (hw _ (List.mem_of_getElem? (i := 28) rfl)) (hw _ (List.mem_of_getElem? (i := 29) rfl)) (hw _ (List.mem_of_getElem? (i := 14) rfl)) (hw _ (List.mem_of_getElem? (i := 30) rfl)) (by decide) (m_i3 l Z a0 hw a a_34 (0 : Int32) (3 : Int32) h_55 n0 z_68 f_58 f_59 f_60 f_61 hg) d4_13 rfl pd0 rfl rfl (Nat.le_of_eq rfl) (by decide) (by decide) (by decide) (by decide) rfl ?_
  rintro _ h_71 ⟨rfl, K_72, X_73, F_74, F_75, F_76⟩
  have f_77 : Exa Z h_71 a "com/example/nearword/nearword/internal/index/IntList" := f_58.keep K_72
  have f_81 : Ary Z h_71 r .int [(.int (3 : Int32)), (.int x), (.int y), (.int z)] := f_62.sm (Sm.keep K_72 (ninS hne.symm nin0))
  have f_82 : Exa Z h_71 r "[I" := f_63.sm (Sm.keep K_72 (ninS hne.symm nin0))
  have f_83 : Ova Z h_71 a_34 .int "[I" := f_64.sm (Sm.keep K_72 (ninS n_39.symm nin0))
  have f_84 : Ary Z h_71 a_34 (.array .int) [(.ref r)] := A_57.sm (Sm.keep K_72 (ninS n_39.symm nin0))
  have t_85 : a < h_71.size := Nat.lt_of_lt_of_le t_65 K_72.1
  have t_86 : r < h_71.size := Nat.lt_of_lt_of_le t_66 K_72.1
  have t_87 : a_34 < h_71.size := Nat.lt_of_lt_of_le t_67 K_72.1
  have z_88 : n0 ≤ h_71.size := Nat.le_trans z_68 K_72.1
  have b_89 : h0.size ≤ h_71.size := Nat.le_trans b_69 K_72.1
  have K_90 : Keep h0 h_71 [a] := K_70.trans K_72 (allS (Or.inl (List.mem_of_getElem? (i := 0) rfl)) all0)
  show (Go false l ({ frames := 2, cells := 1, slots := 1, locals := 27 } : Room) Z (⟨"com/example/nearword/nearword/internal/index/IntList", "<init>", "([II)V"⟩ : MethodName) prog_41_method_1_code 3 none n0 1 1 (fun v h => v = none ∧ ∃ g, Keep h0 h [a] ∧ Exa Z h a "com/example/nearword/nearword/internal/index/IntList" ∧ Fld Z h a "com/example/nearword/nearword/internal/index/IntList" "pieces" "[[I" (.ref g) ∧ Fld Z h a "com/example/nearword/nearword/internal/index/IntList" "start" "I" (.int (0 : Int32)) ∧ Fld Z h a "com/example/nearword/nearword/internal/index/IntList" "size" "I" (.int (3 : Int32)) ∧ Ary Z h g (.array .int) [.ref r] ∧ h0.size ≤ g ∧ g < h.size)) h_71 (0 + 1 + 0) (0 + 1 + 0) 16 #[.val (.ref a), .val (.ref r), .val (.int (0 : Int32))] []
  exact Go.ret0 d4_16 rfl ⟨rfl, a_34, K_90, f_77, F_74, F_75, F_76, f_84, g_42, t_87⟩ (by decide) (by decide)
set_option maxRecDepth 65536 in
set_option maxHeartbeats 40000000 in
theorem m_of (l : Launch) (Z : State) (a0 : Array Value) (hw : ∀ d ∈ tables_1, d.before a0 Z = true) (b : Addr) (x y z : Int32) (h0 : Heap) (n0 : Nat) (z0 : n0 ≤ h0.size) (hA : Ary Z h0 b .int [.int x, .int y, .int z]) : Mt false l Z (⟨"com/example/nearword/nearword/internal/index/IntList", "of", "([I)Lcom/example/nearword/nearword/internal/index/IntList;"⟩ : MethodName) prog_41_method_4_code 2 (some (.object "com/example/nearword/nearword/internal/index/IntList")) ({ frames := 3, cells := 3, slots := 8, locals := 42 } : Room) n0 (fun v h => ∃ o g r, v = some (.ref o) ∧ Keep h0 h [] ∧ Exa Z h o "com/example/nearword/nearword/internal/index/IntList" ∧ Fld Z h o "com/example/nearword/nearword/internal/index/IntList" "pieces" "[[I" (.ref g) ∧ Fld Z h o "com/example/nearword/nearword/internal/index/IntList" "start" "I" (.int (0 : Int32)) ∧ Fld Z h o "com/example/nearword/nearword/internal/index/IntList" "size" "I" (.int (3 : Int32)) ∧ Ary Z h g (.array .int) [.ref r] ∧ Ary Z h r .int [.int (3 : Int32), .int x, .int y, .int z]) h0 #[(.ref b)] := by
  refine Mt.go (Ls := #[.val (.ref b), .unset]) (plainFor_of_name pn0) (fun m => by first | (simp [entryFrame, mkF, argsToLocals, Value.category]; done) | rfl) ?_
  show (Go false l ({ frames := 3, cells := 3, slots := 8, locals := 42 } : Room) Z (⟨"com/example/nearword/nearword/internal/index/IntList", "of", "([I)Lcom/example/nearword/nearword/internal/index/IntList;"⟩ : MethodName) prog_41_method_4_code 2 (some (.object "com/example/nearword/nearword/internal/index/IntList")) n0 3 8 (fun v h => ∃ o g r, v = some (.ref o) ∧ Keep h0 h [] ∧ Exa Z h o "com/example/nearword/nearword/internal/index/IntList" ∧ Fld Z h o "com/example/nearword/nearword/internal/index/IntList" "pieces" "[[I" (.ref g) ∧ Fld Z h o "com/example/nearword/nearword/internal/index/IntList" "start" "I" (.int (0 : Int32)) ∧ Fld Z h o "com/example/nearword/nearword/internal/index/IntList" "size" "I" (.int (3 : Int32)) ∧ Ary Z h g (.array .int) [.ref r] ∧ Ary Z h r .int [.int (3 : Int32), .int x, .int y, .int z])) h0 0 0 0 #[.val (.ref b), .unset] []
  refine Go.iconst (pc' := 1) (v := (1 : Int32)) d3_0 rfl rfl ?_
  refine Go.aloadN (pc' := 2) d3_1 rfl rfl rfl ?_
  refine Go.alen (pc' := 3) (z := (3 : Int32)) hA rfl d3_2 rfl ?_
  refine Go.iadd (pc' := 4) d3_3 rfl ?_
  show (Go false l ({ frames := 3, cells := 3, slots := 8, locals := 42 } : Room) Z (⟨"com/example/nearword/nearword/internal/index/IntList", "of", "([I)Lcom/example/nearword/nearword/internal/index/IntList;"⟩ : MethodName) prog_41_method_4_code 2 (some (.object "com/example/nearword/nearword/internal/index/IntList")) n0 3 8 (fun v h => ∃ o g r, v = some (.ref o) ∧ Keep h0 h [] ∧ Exa Z h o "com/example/nearword/nearword/internal/index/IntList" ∧ Fld Z h o "com/example/nearword/nearword/internal/index/IntList" "pieces" "[[I" (.ref g) ∧ Fld Z h o "com/example/nearword/nearword/internal/index/IntList" "start" "I" (.int (0 : Int32)) ∧ Fld Z h o "com/example/nearword/nearword/internal/index/IntList" "size" "I" (.int (3 : Int32)) ∧ Ary Z h g (.array .int) [.ref r] ∧ Ary Z h r .int [.int (3 : Int32), .int x, .int y, .int z])) h0 0 0 4 #[.val (.ref b), .unset] [(.int (4 : Int32))]
  refine Go.newAE (pc' := 6) (k := 4) (ty := .int) (cap := 4) (hw _ (List.mem_of_getElem? (i := 11) rfl)) rfl (ad := "[I") (by decide) rfl (by decide) (by decide) d3_4 (by decide) (by decide) rfl ?_
  intro h_91 a_92 q_93 E_94 A_95 X_96
  have n_97 : b ≠ a_92 := Nat.ne_of_lt (q_93 ▸ hA.lt)
  have g_98 : n0 ≤ a_92 := q_93 ▸ z0
  have g_99 : h0.size ≤ a_92 := q_93 ▸ (Nat.le_refl _)
  have f_100 : Ary Z h_91 b .int [(.int x), (.int y), (.int z)] := hA.sm (Sm.ext E_94)
  have t_101 : b < h_91.size := Nat.lt_of_lt_of_le hA.lt E_94.1
  have z_102 : n0 ≤ h_91.size := Nat.le_trans z0 E_94.1
  have b_103 : h0.size ≤ h_91.size := Nat.le_trans (Nat.le_refl _) E_94.1
  have K_104 : Keep h0 h_91 [] := (Keep.refl _ _).ext E_94
  have t_105 : a_92 < h_91.size := A_95.lt
  change Ary Z h_91 a_92 .int [(.int (0 : Int32)), (.int (0 : Int32)), (.int (0 : Int32)), (.int (0 : Int32))] at A_95
  refine Go.astoreN (pc' := 7) (Ls' := #[.val (.ref b), .val (.ref a_92)]) d3_6 rfl rfl rfl ?_
  refine Go.aloadN (pc' := 8) d3_7 rfl rfl rfl ?_
  refine Go.iconst (pc' := 9) (v := (0 : Int32)) d3_8 rfl rfl ?_
  refine Go.aloadN (pc' := 10) d3_9 rfl rfl rfl ?_
  refine Go.alen (pc' := 11) (z := (3 : Int32)) f_100 rfl d3_10 rfl ?_
  refine Go.stI (pc' := 12) (k := 0) A_95 rfl (by show 0 < 4; decide) d3_11 g_98 rfl ?_
  intro h_106 W_107 A_108
  have f_109 : Ary Z h_106 b .int [(.int x), (.int y), (.int z)] := f_100.sm (Sm.wr W_107 n_97)
  have f_110 : Exa Z h_106 a_92 "[I" := Exa.wr W_107 X_96
  have t_111 : b < h_106.size := Nat.lt_of_lt_of_le t_101 (Nat.le_of_eq W_107.size.symm)
  have t_112 : a_92 < h_106.size := Nat.lt_of_lt_of_le t_105 (Nat.le_of_eq W_107.size.symm)
  have z_113 : n0 ≤ h_106.size := Nat.le_trans z_102 (Nat.le_of_eq W_107.size.symm)
  have b_114 : h0.size ≤ h_106.size := Nat.le_trans b_103 (Nat.le_of_eq W_107.size.symm)
  have K_115 : Keep h0 h_106 [] := K_104.wr W_107 (Or.inr g_99)
  change Ary Z h_106 a_92 .int [(.int (3 : Int32)), (.int (0 : Int32)), (.int (0 : Int32)), (.int (0 : Int32))] at A_108
  refine Go.aloadN (pc' := 13) d3_12 rfl rfl rfl ?_
  refine Go.iconst (pc' := 14) (v := (0 : Int32)) d3_13 rfl rfl ?_
  refine Go.aloadN (pc' := 15) d3_14 rfl rfl rfl ?_
  refine Go.iconst (pc' := 16) (v := (1 : Int32)) d3_15 rfl rfl ?_
  refine Go.aloadN (pc' := 17) d3_16 rfl rfl rfl ?_
  refine Go.alen (pc' := 18) (z := (3 : Int32)) f_109 rfl d3_17 rfl ?_
  refine Go.acopy (pc' := 21) (i1 := 0) (i2 := 1) (k := 3) (za := (3 : Int32)) (zb := (4 : Int32)) (W := 0) (res := [(.int (3 : Int32)), (.int x), (.int y), (.int z)]) (hw _ (List.mem_of_getElem? (i := 16) rfl)) (hw _ (List.mem_of_getElem? (i := 19) rfl)) (hw _ (List.mem_of_getElem? (i := 17) rfl)) (hw _ (List.mem_of_getElem? (i := 18) rfl)) f_109 A_108 rfl (by intro v hv; simp only [List.mem_cons, List.not_mem_nil, or_false] at hv; rcases hv with rfl | rfl | rfl <;> rfl) (by intro v hv; simp only [List.mem_cons, List.not_mem_nil, or_false] at hv; rcases hv with rfl | rfl | rfl | rfl <;> rfl) rfl rfl rfl rfl rfl (by show 0 + 3 ≤ 3; decide) (by show 1 + 3 ≤ 4; decide) rfl g_98 d3_18 rfl (by decide) (Nat.le_of_eq rfl) (by decide) rfl ?_
  intro h_116 K_117 A_118
  have f_119 : Ary Z h_116 b .int [(.int x), (.int y), (.int z)] := f_109.sm (Sm.keep K_117 (ninS n_97 nin0))
  have f_120 : Exa Z h_116 a_92 "[I" := f_110.keep K_117
  have t_121 : b < h_116.size := Nat.lt_of_lt_of_le t_111 K_117.1
  have t_122 : a_92 < h_116.size := Nat.lt_of_lt_of_le t_112 K_117.1
  have z_123 : n0 ≤ h_116.size := Nat.le_trans z_113 K_117.1
  have b_124 : h0.size ≤ h_116.size := Nat.le_trans b_114 K_117.1
  have K_125 : Keep h0 h_116 [] := K_115.trans K_117 (allS (Or.inr g_99) all0)
  refine Go.newO (pc' := 24) (hw _ (List.mem_of_getElem? (i := 20) rfl)) (hw _ (List.mem_of_getElem? (i := 21) rfl)) (hw _ (List.mem_of_getElem? (i := 14) rfl)) d3_21 (by decide) (by decide) rfl ?_
  intro h_126 a_127 q_128 E_129 A_130 D_131
  have n_132 : b ≠ a_127 := Nat.ne_of_lt (q_128 ▸ t_121)
  have n_133 : a_92 ≠ a_127 := Nat.ne_of_lt (q_128 ▸ t_122)
  have g_134 : n0 ≤ a_127 := q_128 ▸ z_123
  have g_135 : h0.size ≤ a_127 := q_128 ▸ b_124
  have f_136 : Ary Z h_126 b .int [(.int x), (.int y), (.int z)] := f_119.sm (Sm.ext E_129)
  have f_137 : Exa Z h_126 a_92 "[I" := f_120.sm (Sm.ext E_129)
  have f_138 : Ary Z h_126 a_92 .int [(.int (3 : Int32)), (.int x), (.int y), (.int z)] := A_118.sm (Sm.ext E_129)
  have t_139 : b < h_126.size := Nat.lt_of_lt_of_le t_121 E_129.1
  have t_140 : a_92 < h_126.size := Nat.lt_of_lt_of_le t_122 E_129.1
  have z_141 : n0 ≤ h_126.size := Nat.le_trans z_123 E_129.1
  have b_142 : h0.size ≤ h_126.size := Nat.le_trans b_124 E_129.1
  have K_143 : Keep h0 h_126 [] := K_125.ext E_129
  have t_144 : a_127 < h_126.size := A_130.lt
  have f_145 : Fld Z h_126 a_127 "com/example/nearword/nearword/internal/index/IntList" "pieces" "[[I" .null := D_131 (Or.inr (hw _ (List.mem_of_getElem? (i := 35) rfl))) (ty := (.array (.array .int))) (by decide)
  have f_146 : Fld Z h_126 a_127 "com/example/nearword/nearword/internal/index/IntList" "start" "I" (.int (0 : Int32)) := D_131 (Or.inr (hw _ (List.mem_of_getElem? (i := 37) rfl))) (ty := .int) (by decide)
  have f_147 : Fld Z h_126 a_127 "com/example/nearword/nearword/internal/index/IntList" "size" "I" (.int (0 : Int32)) := D_131 (Or.inr (hw _ (List.mem_of_getElem? (i := 39) rfl))) (ty := .int) (by decide)
  refine Go.dup (pc' := 25) d3_24 rfl rfl ?_
  refine Go.aloadN (pc' := 26) d3_25 rfl rfl rfl ?_
  refine Go.iconst (pc' := 27) (v := (0 : Int32)) d3_26 rfl rfl ?_
  refine Go.callN (pc' := 30) (argsL := [(.ref a_92), (.int (0 : Int32))]) (rest := [(.ref a_127)]) (W := 1) rfl (hw _ (List.mem_of_getElem? (i := 22) rfl)) (hw _ (List.mem_of_getElem? (i := 23) rfl)) (hw _ (List.mem_of_getElem? (i := 14) rfl)) (hw _ (List.mem_of_getElem? (i := 24) rfl)) (by decide) (m_i2 l Z a0 hw a_127 a_92 x y z h_126 n0 z_141 A_130 f_145 f_146 f_147 g_134 f_138 f_137 n_133.symm) d3_27 rfl pd1 rfl rfl (Nat.le_of_eq rfl) (by decide) (by decide) (by decide) (by decide) rfl ?_
  rintro _ h_148 ⟨rfl, g_149, K_150, X_151, F_152, F_153, F_154, A_155, q_156, t_157⟩
  have f_158 : Ary Z h_148 b .int [(.int x), (.int y), (.int z)] := f_136.sm (Sm.keep K_150 (ninS n_132 nin0))
  have f_159 : Exa Z h_148 a_92 "[I" := f_137.sm (Sm.keep K_150 (ninS n_133 nin0))
  have f_160 : Ary Z h_148 a_92 .int [(.int (3 : Int32)), (.int x), (.int y), (.int z)] := f_138.sm (Sm.keep K_150 (ninS n_133 nin0))
  have f_161 : Exa Z h_148 a_127 "com/example/nearword/nearword/internal/index/IntList" := A_130.keep K_150
  have t_165 : b < h_148.size := Nat.lt_of_lt_of_le t_139 K_150.1
  have t_166 : a_92 < h_148.size := Nat.lt_of_lt_of_le t_140 K_150.1
  have t_167 : a_127 < h_148.size := Nat.lt_of_lt_of_le t_144 K_150.1
  have z_168 : n0 ≤ h_148.size := Nat.le_trans z_141 K_150.1
  have b_169 : h0.size ≤ h_148.size := Nat.le_trans b_142 K_150.1
  have K_170 : Keep h0 h_148 [] := K_143.trans K_150 (allS (Or.inr g_135) all0)
  show (Go false l ({ frames := 3, cells := 3, slots := 8, locals := 42 } : Room) Z (⟨"com/example/nearword/nearword/internal/index/IntList", "of", "([I)Lcom/example/nearword/nearword/internal/index/IntList;"⟩ : MethodName) prog_41_method_4_code 2 (some (.object "com/example/nearword/nearword/internal/index/IntList")) n0 3 8 (fun v h => ∃ o g r, v = some (.ref o) ∧ Keep h0 h [] ∧ Exa Z h o "com/example/nearword/nearword/internal/index/IntList" ∧ Fld Z h o "com/example/nearword/nearword/internal/index/IntList" "pieces" "[[I" (.ref g) ∧ Fld Z h o "com/example/nearword/nearword/internal/index/IntList" "start" "I" (.int (0 : Int32)) ∧ Fld Z h o "com/example/nearword/nearword/internal/index/IntList" "size" "I" (.int (3 : Int32)) ∧ Ary Z h g (.array .int) [.ref r] ∧ Ary Z h r .int [.int (3 : Int32), .int x, .int y, .int z])) h_148 (0 + 1 + 1 + 1) (0 + 4 + 3 + 1) 30 #[.val (.ref b), .val (.ref a_92)] [(.ref a_127)]
  exact Go.retA d3_30 rfl rfl rfl ⟨a_127, g_149, a_92, rfl, K_170, f_161, F_152, F_153, F_154, A_155, f_160⟩ (by decide) (by decide)
set_option maxRecDepth 65536 in
set_option maxHeartbeats 40000000 in
theorem m_ps (l : Launch) (Z : State) (a0 : Array Value) (hw : ∀ d ∈ tables_1, d.before a0 Z = true) (a g r : Addr) (x y z : Int32) (h0 : Heap) (n0 : Nat) (z0 : n0 ≤ h0.size) (hE : Exa Z h0 a "com/example/nearword/nearword/internal/index/IntList") (hF1 : Fld Z h0 a "com/example/nearword/nearword/internal/index/IntList" "pieces" "[[I" (.ref g)) (hF2 : Fld Z h0 a "com/example/nearword/nearword/internal/index/IntList" "start" "I" (.int (0 : Int32))) (hG : Ary Z h0 g (.array .int) [.ref r]) (hA : Ary Z h0 r .int [.int (3 : Int32), .int x, .int y, .int z]) : Mt false l Z (⟨"com/example/nearword/nearword/internal/index/IntList", "pieces", "()I"⟩ : MethodName) prog_41_method_7_code 1 (some .int) ({ frames := 0, cells := 0, slots := 0, locals := 0 } : Room) n0 (fun v h => v = some (.int (1 : Int32)) ∧ h0 = h) h0 #[(.ref a)] := by
  refine Mt.go (Ls := #[.val (.ref a)]) (plainFor_of_name pn0) (fun m => by first | (simp [entryFrame, mkF, argsToLocals, Value.category]; done) | rfl) ?_
  show (Go false l ({ frames := 0, cells := 0, slots := 0, locals := 0 } : Room) Z (⟨"com/example/nearword/nearword/internal/index/IntList", "pieces", "()I"⟩ : MethodName) prog_41_method_7_code 1 (some .int) n0 0 0 (fun v h => v = some (.int (1 : Int32)) ∧ h0 = h)) h0 0 0 0 #[.val (.ref a)] []
  refine Go.aloadN (pc' := 1) d8_0 rfl rfl rfl ?_
  refine Go.getF (pc' := 4) (hw _ (List.mem_of_getElem? (i := 34) rfl)) hF1 d8_1 rfl ?_
  refine Go.alen (pc' := 5) (z := (1 : Int32)) hG rfl d8_4 rfl ?_
  exact Go.retI d8_5 rfl ⟨rfl, rfl⟩ (by decide) (by decide)
set_option maxRecDepth 65536 in
set_option maxHeartbeats 40000000 in
theorem m_pc (l : Launch) (Z : State) (a0 : Array Value) (hw : ∀ d ∈ tables_1, d.before a0 Z = true) (a g r : Addr) (x y z : Int32) (h0 : Heap) (n0 : Nat) (z0 : n0 ≤ h0.size) (hE : Exa Z h0 a "com/example/nearword/nearword/internal/index/IntList") (hF1 : Fld Z h0 a "com/example/nearword/nearword/internal/index/IntList" "pieces" "[[I" (.ref g)) (hF2 : Fld Z h0 a "com/example/nearword/nearword/internal/index/IntList" "start" "I" (.int (0 : Int32))) (hG : Ary Z h0 g (.array .int) [.ref r]) (hA : Ary Z h0 r .int [.int (3 : Int32), .int x, .int y, .int z]) : Mt false l Z (⟨"com/example/nearword/nearword/internal/index/IntList", "piece", "(I)[I"⟩ : MethodName) prog_41_method_8_code 2 (some (.array .int)) ({ frames := 0, cells := 0, slots := 0, locals := 0 } : Room) n0 (fun v h => v = some (.ref r) ∧ h0 = h) h0 #[(.ref a), (.int (0 : Int32))] := by
  refine Mt.go (Ls := #[.val (.ref a), .val (.int (0 : Int32))]) (plainFor_of_name pn0) (fun m => by first | (simp [entryFrame, mkF, argsToLocals, Value.category]; done) | rfl) ?_
  show (Go false l ({ frames := 0, cells := 0, slots := 0, locals := 0 } : Room) Z (⟨"com/example/nearword/nearword/internal/index/IntList", "piece", "(I)[I"⟩ : MethodName) prog_41_method_8_code 2 (some (.array .int)) n0 0 0 (fun v h => v = some (.ref r) ∧ h0 = h)) h0 0 0 0 #[.val (.ref a), .val (.int (0 : Int32))] []
  refine Go.aloadN (pc' := 1) d9_0 rfl rfl rfl ?_
  refine Go.getF (pc' := 4) (hw _ (List.mem_of_getElem? (i := 34) rfl)) hF1 d9_1 rfl ?_
  refine Go.iloadN (pc' := 5) d9_4 rfl rfl ?_
  refine Go.ldA (pc' := 6) (k := 0) (v := (.ref r)) hG rfl rfl rfl d9_5 rfl ?_
  exact Go.retA d9_6 rfl rfl rfl ⟨rfl, rfl⟩ (by decide) (by decide)
set_option maxRecDepth 65536 in
set_option maxHeartbeats 40000000 in
theorem m_fr (l : Launch) (Z : State) (a0 : Array Value) (hw : ∀ d ∈ tables_1, d.before a0 Z = true) (a g r : Addr) (x y z : Int32) (h0 : Heap) (n0 : Nat) (z0 : n0 ≤ h0.size) (hE : Exa Z h0 a "com/example/nearword/nearword/internal/index/IntList") (hF1 : Fld Z h0 a "com/example/nearword/nearword/internal/index/IntList" "pieces" "[[I" (.ref g)) (hF2 : Fld Z h0 a "com/example/nearword/nearword/internal/index/IntList" "start" "I" (.int (0 : Int32))) (hG : Ary Z h0 g (.array .int) [.ref r]) (hA : Ary Z h0 r .int [.int (3 : Int32), .int x, .int y, .int z]) : Mt false l Z (⟨"com/example/nearword/nearword/internal/index/IntList", "from", "()I"⟩ : MethodName) prog_41_method_9_code 1 (some .int) ({ frames := 0, cells := 0, slots := 0, locals := 0 } : Room) n0 (fun v h => v = some (.int (1 : Int32)) ∧ h0 = h) h0 #[(.ref a)] := by
  refine Mt.go (Ls := #[.val (.ref a)]) (plainFor_of_name pn0) (fun m => by first | (simp [entryFrame, mkF, argsToLocals, Value.category]; done) | rfl) ?_
  show (Go false l ({ frames := 0, cells := 0, slots := 0, locals := 0 } : Room) Z (⟨"com/example/nearword/nearword/internal/index/IntList", "from", "()I"⟩ : MethodName) prog_41_method_9_code 1 (some .int) n0 0 0 (fun v h => v = some (.int (1 : Int32)) ∧ h0 = h)) h0 0 0 0 #[.val (.ref a)] []
  refine Go.aloadN (pc' := 1) d11_0 rfl rfl rfl ?_
  refine Go.getF (pc' := 4) (hw _ (List.mem_of_getElem? (i := 36) rfl)) hF2 d11_1 rfl ?_
  refine Go.iconst (pc' := 5) (v := (1 : Int32)) d11_4 rfl rfl ?_
  refine Go.iadd (pc' := 6) d11_5 rfl ?_
  show (Go false l ({ frames := 0, cells := 0, slots := 0, locals := 0 } : Room) Z (⟨"com/example/nearword/nearword/internal/index/IntList", "from", "()I"⟩ : MethodName) prog_41_method_9_code 1 (some .int) n0 0 0 (fun v h => v = some (.int (1 : Int32)) ∧ h0 = h)) h0 0 0 6 #[.val (.ref a)] [(.int (1 : Int32))]
  exact Go.retI d11_6 rfl ⟨rfl, rfl⟩ (by decide) (by decide)
set_option maxRecDepth 65536 in
set_option maxHeartbeats 40000000 in
theorem m_len (l : Launch) (Z : State) (a0 : Array Value) (hw : ∀ d ∈ tables_1, d.before a0 Z = true) (a g r : Addr) (x y z : Int32) (h0 : Heap) (n0 : Nat) (z0 : n0 ≤ h0.size) (hE : Exa Z h0 a "com/example/nearword/nearword/internal/index/IntList") (hF1 : Fld Z h0 a "com/example/nearword/nearword/internal/index/IntList" "pieces" "[[I" (.ref g)) (hF2 : Fld Z h0 a "com/example/nearword/nearword/internal/index/IntList" "start" "I" (.int (0 : Int32))) (hG : Ary Z h0 g (.array .int) [.ref r]) (hA : Ary Z h0 r .int [.int (3 : Int32), .int x, .int y, .int z]) : Mt false l Z (⟨"com/example/nearword/nearword/internal/index/IntList", "length", "(I)I"⟩ : MethodName) prog_41_method_11_code 2 (some .int) ({ frames := 0, cells := 0, slots := 0, locals := 0 } : Room) n0 (fun v h => v = some (.int (3 : Int32)) ∧ h0 = h) h0 #[(.ref a), (.int (0 : Int32))] := by
  refine Mt.go (Ls := #[.val (.ref a), .val (.int (0 : Int32))]) (plainFor_of_name pn0) (fun m => by first | (simp [entryFrame, mkF, argsToLocals, Value.category]; done) | rfl) ?_
  show (Go false l ({ frames := 0, cells := 0, slots := 0, locals := 0 } : Room) Z (⟨"com/example/nearword/nearword/internal/index/IntList", "length", "(I)I"⟩ : MethodName) prog_41_method_11_code 2 (some .int) n0 0 0 (fun v h => v = some (.int (3 : Int32)) ∧ h0 = h)) h0 0 0 0 #[.val (.ref a), .val (.int (0 : Int32))] []
  refine Go.aloadN (pc' := 1) d12_0 rfl rfl rfl ?_
  refine Go.getF (pc' := 4) (hw _ (List.mem_of_getElem? (i := 34) rfl)) hF1 d12_1 rfl ?_
  refine Go.iloadN (pc' := 5) d12_4 rfl rfl ?_
  refine Go.ldA (pc' := 6) (k := 0) (v := (.ref r)) hG rfl rfl rfl d12_5 rfl ?_
  refine Go.aloadN (pc' := 7) d12_6 rfl rfl rfl ?_
  refine Go.getF (pc' := 10) (hw _ (List.mem_of_getElem? (i := 36) rfl)) hF2 d12_7 rfl ?_
  refine Go.ldI (pc' := 11) (k := 0) (v := (.int (3 : Int32))) hA rfl rfl d12_10 rfl ?_
  exact Go.retI d12_11 rfl ⟨rfl, rfl⟩ (by decide) (by decide)
set_option maxRecDepth 65536 in
set_option maxHeartbeats 40000000 in
theorem m_to (l : Launch) (Z : State) (a0 : Array Value) (hw : ∀ d ∈ tables_1, d.before a0 Z = true) (a g r : Addr) (x y z : Int32) (h0 : Heap) (n0 : Nat) (z0 : n0 ≤ h0.size) (hE : Exa Z h0 a "com/example/nearword/nearword/internal/index/IntList") (hF1 : Fld Z h0 a "com/example/nearword/nearword/internal/index/IntList" "pieces" "[[I" (.ref g)) (hF2 : Fld Z h0 a "com/example/nearword/nearword/internal/index/IntList" "start" "I" (.int (0 : Int32))) (hG : Ary Z h0 g (.array .int) [.ref r]) (hA : Ary Z h0 r .int [.int (3 : Int32), .int x, .int y, .int z]) : Mt false l Z (⟨"com/example/nearword/nearword/internal/index/IntList", "to", "(I)I"⟩ : MethodName) prog_41_method_10_code 2 (some .int) ({ frames := 1, cells := 0, slots := 0, locals := 14 } : Room) n0 (fun v h => v = some (.int (4 : Int32)) ∧ h0 = h) h0 #[(.ref a), (.int (0 : Int32))] := by
  refine Mt.go (Ls := #[.val (.ref a), .val (.int (0 : Int32))]) (plainFor_of_name pn0) (fun m => by first | (simp [entryFrame, mkF, argsToLocals, Value.category]; done) | rfl) ?_
  show (Go false l ({ frames := 1, cells := 0, slots := 0, locals := 14 } : Room) Z (⟨"com/example/nearword/nearword/internal/index/IntList", "to", "(I)I"⟩ : MethodName) prog_41_method_10_code 2 (some .int) n0 0 0 (fun v h => v = some (.int (4 : Int32)) ∧ h0 = h)) h0 0 0 0 #[.val (.ref a), .val (.int (0 : Int32))] []
  refine Go.aloadN (pc' := 1) d10_0 rfl rfl rfl ?_
  refine Go.callV (pc' := 4) (argsL := []) (rest := []) (W := 0) (hw _ (List.mem_of_getElem? (i := 70) rfl)) (hw _ (List.mem_of_getElem? (i := 71) rfl)) (hw _ (List.mem_of_getElem? (i := 73) rfl)) (hw _ (List.mem_of_getElem? (i := 72) rfl)) (hw _ (List.mem_of_getElem? (i := 14) rfl)) (hw _ (List.mem_of_getElem? (i := 74) rfl)) (by decide) hE (m_fr l Z a0 hw a g r x y z h0 n0 z0 hE hF1 hF2 hG hA) d10_1 rfl pd2 rfl rfl (Nat.le_of_eq rfl) (by decide) (by decide) (by decide) (by decide) rfl ?_
  rintro _ _ ⟨rfl, rfl⟩
  show (Go false l ({ frames := 1, cells := 0, slots := 0, locals := 14 } : Room) Z (⟨"com/example/nearword/nearword/internal/index/IntList", "to", "(I)I"⟩ : MethodName) prog_41_method_10_code 2 (some .int) n0 0 0 (fun v h => v = some (.int (4 : Int32)) ∧ h0 = h)) h0 (0 + 0) (0 + 0) 4 #[.val (.ref a), .val (.int (0 : Int32))] [(.int (1 : Int32))]
  refine Go.aloadN (pc' := 5) d10_4 rfl rfl rfl ?_
  refine Go.iloadN (pc' := 6) d10_5 rfl rfl ?_
  refine Go.callP (pc' := 9) (argsL := [(.int (0 : Int32))]) (rest := [(.int (1 : Int32))]) (W := 1) (hw _ (List.mem_of_getElem? (i := 75) rfl)) (hw _ (List.mem_of_getElem? (i := 76) rfl)) (hw _ (List.mem_of_getElem? (i := 77) rfl)) (hw _ (List.mem_of_getElem? (i := 14) rfl)) (hw _ (List.mem_of_getElem? (i := 78) rfl)) (hw _ (List.mem_of_getElem? (i := 58) rfl)) rfl (by decide) hE (m_len l Z a0 hw a g r x y z h0 n0 z0 hE hF1 hF2 hG hA) d10_6 rfl pd3 rfl rfl (Nat.le_of_eq rfl) (by decide) (by decide) (by decide) (by decide) rfl ?_
  rintro _ _ ⟨rfl, rfl⟩
  show (Go false l ({ frames := 1, cells := 0, slots := 0, locals := 14 } : Room) Z (⟨"com/example/nearword/nearword/internal/index/IntList", "to", "(I)I"⟩ : MethodName) prog_41_method_10_code 2 (some .int) n0 0 0 (fun v h => v = some (.int (4 : Int32)) ∧ h0 = h)) h0 (0 + 0 + 0) (0 + 0 + 0) 9 #[.val (.ref a), .val (.int (0 : Int32))] [(.int (3 : Int32)), (.int (1 : Int32))]
  refine Go.iadd (pc' := 10) d10_9 rfl ?_
  show (Go false l ({ frames := 1, cells := 0, slots := 0, locals := 14 } : Room) Z (⟨"com/example/nearword/nearword/internal/index/IntList", "to", "(I)I"⟩ : MethodName) prog_41_method_10_code 2 (some .int) n0 0 0 (fun v h => v = some (.int (4 : Int32)) ∧ h0 = h)) h0 (0 + 0 + 0) (0 + 0 + 0) 10 #[.val (.ref a), .val (.int (0 : Int32))] [(.int (4 : Int32))]
  exact Go.retI d10_10 rfl ⟨rfl, rfl⟩ (by decide) (by decide)
set_option maxRecDepth 65536 in
set_option maxHeartbeats 40000000 in
theorem m_ab1 (l : Launch) (Z : State) (a0 : Array Value) (hw : ∀ d ∈ tables_1, d.before a0 Z = true) (a g c0 : Addr) (W0 : List Int64) (w : Int32) (b : Int64) (h0 : Heap) (n0 : Nat) (z0 : n0 ≤ h0.size) (hE : Exa Z h0 a "com/example/nearword/nearword/internal/index/PointBits") (hF : Fld Z h0 a "com/example/nearword/nearword/internal/index/PointBits" "chunks" "[[J" (.ref g)) (hG : Ary Z h0 g (.array .long) [.ref c0]) (hA0 : Ary Z h0 c0 .long (W0.map Value.long)) (hl0 : W0.length ≤ 8192) (hw0 : 0 ≤ w.toInt) (hw1 : w.toInt < (W0.length : Int)) (hg0 : n0 ≤ c0) (ha0 : a ≠ c0) (hq0 : g ≠ c0) : Mt false l Z (⟨"com/example/nearword/nearword/internal/index/PointBits", "addBits", "(IJ)V"⟩ : MethodName) prog_49_method_6_code 6 none ({ frames := 0, cells := 0, slots := 0, locals := 0 } : Room) n0 (fun u h => u = none ∧ ∃ V0 : List Int64, Keep h0 h [c0] ∧ Ary Z h c0 .long (V0.map Value.long) ∧ V0.length = W0.length ∧ ∀ f : Nat, (own_bt V0 f = true ↔ (own_bt W0 f = true ∨ (f / 64 = w.toInt.toNat ∧ b.toBitVec.getLsbD (f % 64) = true)))) h0 #[(.ref a), (.int w), (.long b)] := by
  refine Mt.go (Ls := #[.val (.ref a), .val (.int w), .val (.long b), .second, .unset, .unset]) (plainFor_of_name pn1) (fun m => by first | (simp [entryFrame, mkF, argsToLocals, Value.category]; done) | rfl) ?_
  show (Go false l ({ frames := 0, cells := 0, slots := 0, locals := 0 } : Room) Z (⟨"com/example/nearword/nearword/internal/index/PointBits", "addBits", "(IJ)V"⟩ : MethodName) prog_49_method_6_code 6 none n0 0 0 (fun u h => u = none ∧ ∃ V0 : List Int64, Keep h0 h [c0] ∧ Ary Z h c0 .long (V0.map Value.long) ∧ V0.length = W0.length ∧ ∀ f : Nat, (own_bt V0 f = true ↔ (own_bt W0 f = true ∨ (f / 64 = w.toInt.toNat ∧ b.toBitVec.getLsbD (f % 64) = true))))) h0 0 0 0 #[.val (.ref a), .val (.int w), .val (.long b), .second, .unset, .unset] []
  refine Go.iloadN (pc' := 1) d13_0 rfl rfl ?_
  refine Go.bipush (pc' := 3) (v := (13 : Int32)) d13_1 rfl rfl ?_
  refine Go.iushr (pc' := 4) d13_3 rfl ?_
  generalize ek_171 : (w.toUInt32 >>> ((13 : Int32) &&& 31).toUInt32).toInt32 = k_171
  have k_172 : k_171.toInt = w.toInt / 8192 := by
    rw [← ek_171]
    have : (13 : Int32).toInt = 13 := by decide
    have := c_iushr w (13 : Int32) 13 (by decide) (by decide)
    have := rng32 ((w.toUInt32 >>> ((13 : Int32) &&& 31).toUInt32).toInt32)
    have := rng32 w
    omega
  refine Go.istore (pc' := 6) (Ls' := #[.val (.ref a), .val (.int w), .val (.long b), .second, .val (.int k_171), .unset]) d13_4 rfl rfl ?_
  refine Go.iloadN (pc' := 7) d13_6 rfl rfl ?_
  refine Go.sipush (pc' := 10) (v := (8191 : Int32)) d13_7 rfl rfl ?_
  refine Go.iand (pc' := 11) d13_10 rfl ?_
  generalize ex_173 : w &&& (8191 : Int32) = x_173
  have k_174 : x_173.toInt = w.toInt % 8192 := by
    rw [← ex_173]
    have : (8191 : Int32).toInt = 8191 := by decide
    have := c_mask w (8191 : Int32) 13 (by decide) (by decide)
    have := rng32 (w &&& (8191 : Int32))
    have := rng32 w
    omega
  refine Go.istore (pc' := 13) (Ls' := #[.val (.ref a), .val (.int w), .val (.long b), .second, .val (.int k_171), .val (.int x_173)]) d13_11 rfl rfl ?_
  refine Go.iload (pc' := 15) d13_13 rfl rfl ?_
  refine Go.aloadN (pc' := 16) d13_15 rfl rfl rfl ?_
  refine Go.getF (pc' := 19) (hw _ (List.mem_of_getElem? (i := 50) rfl)) hF d13_16 rfl ?_
  refine Go.alen (pc' := 20) (z := (1 : Int32)) hG rfl d13_19 rfl ?_
  refine Go.icmp (pc1 := 36) (pc2 := 23) d13_20 (by decide) (by decide) rfl (fun (c_175 : (1 : Int) ≤ k_171.toInt) => ?_) (fun (c_175 : k_171.toInt < (1 : Int)) => ?_)
  · exfalso; omega
  refine Go.iload (pc' := 25) d13_23 rfl rfl ?_
  refine Go.aloadN (pc' := 26) d13_25 rfl rfl rfl ?_
  refine Go.getF (pc' := 29) (hw _ (List.mem_of_getElem? (i := 50) rfl)) hF d13_26 rfl ?_
  refine Go.iload (pc' := 31) d13_29 rfl rfl ?_
  refine Go.ldA (pc' := 32) (k := 0) (v := (.ref c0)) hG rfl (by omega) rfl d13_31 rfl ?_
  obtain ⟨zl, hzl⟩ := own_i32 W0.length (by omega)
  refine Go.alen (pc' := 33) (z := zl) hA0 (by rw [List.length_map]; exact hzl) d13_32 rfl ?_
  refine Go.icmp (pc1 := 44) (pc2 := 36) d13_33 (by decide) (by decide) rfl (fun (c_176 : x_173.toInt < zl.toInt) => ?_) (fun (c_176 : zl.toInt ≤ x_173.toInt) => ?_)
  rotate_left
  · exfalso; omega
  refine Go.aloadN (pc' := 45) d13_44 rfl rfl rfl ?_
  refine Go.getF (pc' := 48) (hw _ (List.mem_of_getElem? (i := 50) rfl)) hF d13_45 rfl ?_
  refine Go.iload (pc' := 50) d13_48 rfl rfl ?_
  refine Go.ldA (pc' := 51) (k := 0) (v := (.ref c0)) hG rfl (by omega) rfl d13_50 rfl ?_
  obtain ⟨v, hv⟩ : ∃ v, W0[w.toInt.toNat]? = some v := ⟨_, List.getElem?_eq_getElem (by omega)⟩
  refine Go.iload (pc' := 53) d13_51 rfl rfl ?_
  refine Go.dup2 (pc' := 54) d13_53 rfl rfl rfl ?_
  refine Go.ldJ (pc' := 55) (k := w.toInt.toNat) (v := (.long v)) hA0 (by omega) (by rw [List.getElem?_map, hv]; rfl) d13_54 rfl ?_
  refine Go.lloadN (pc' := 56) d13_55 rfl rfl ?_
  refine Go.lor (pc' := 57) d13_56 rfl ?_
  refine Go.stJ (pc' := 58) (k := w.toInt.toNat) hA0 (by omega) (by rw [List.length_map]; omega) d13_57 hg0 rfl ?_
  intro h_177 W_178 A_179
  have f_180 : Exa Z h_177 a "com/example/nearword/nearword/internal/index/PointBits" := hE.sm (Sm.wr W_178 ha0)
  have f_181 : Fld Z h_177 a "com/example/nearword/nearword/internal/index/PointBits" "chunks" "[[J" (.ref g) := hF.sm (Sm.wr W_178 ha0)
  have f_182 : Ary Z h_177 g (.array .long) [(.ref c0)] := hG.sm (Sm.wr W_178 hq0)
  have t_183 : a < h_177.size := Nat.lt_of_lt_of_le hE.lt (Nat.le_of_eq W_178.size.symm)
  have t_184 : g < h_177.size := Nat.lt_of_lt_of_le hG.lt (Nat.le_of_eq W_178.size.symm)
  have t_185 : c0 < h_177.size := Nat.lt_of_lt_of_le hA0.lt (Nat.le_of_eq W_178.size.symm)
  have z_186 : n0 ≤ h_177.size := Nat.le_trans z0 (Nat.le_of_eq W_178.size.symm)
  have b_187 : h0.size ≤ h_177.size := Nat.le_trans (Nat.le_refl _) (Nat.le_of_eq W_178.size.symm)
  have K_188 : Keep h0 h_177 [c0] := (Keep.refl _ _).wr W_178 (Or.inl (List.mem_of_getElem? (i := 0) rfl))
  have y_189 : Ary Z h_177 c0 .long ((W0.set w.toInt.toNat (v ||| b)).map Value.long) := A_179.eq (by rw [List.map_set])
  exact Go.ret0 d13_58 rfl ⟨rfl, (W0.set w.toInt.toNat (v ||| b)), K_188, y_189, List.length_set, own_or1 W0 w v b (by omega) hv⟩ (by decide) (by decide)
set_option maxRecDepth 65536 in
set_option maxHeartbeats 40000000 in
theorem m_ab2 (l : Launch) (Z : State) (a0 : Array Value) (hw : ∀ d ∈ tables_1, d.before a0 Z = true) (a g c0 c1 : Addr) (W0 W1 : List Int64) (w : Int32) (b : Int64) (h0 : Heap) (n0 : Nat) (z0 : n0 ≤ h0.size) (hE : Exa Z h0 a "com/example/nearword/nearword/internal/index/PointBits") (hF : Fld Z h0 a "com/example/nearword/nearword/internal/index/PointBits" "chunks" "[[J" (.ref g)) (hG : Ary Z h0 g (.array .long) [.ref c0, .ref c1]) (hA0 : Ary Z h0 c0 .long (W0.map Value.long)) (hA1 : Ary Z h0 c1 .long (W1.map Value.long)) (hl0 : W0.length = 8192) (hl1 : W1.length ≤ 8192) (hw0 : 0 ≤ w.toInt) (hw1 : w.toInt < (W0.length : Int) + (W1.length : Int)) (hg0 : n0 ≤ c0) (ha0 : a ≠ c0) (hq0 : g ≠ c0) (hg1 : n0 ≤ c1) (ha1 : a ≠ c1) (hq1 : g ≠ c1) (h01 : c0 ≠ c1) : Mt false l Z (⟨"com/example/nearword/nearword/internal/index/PointBits", "addBits", "(IJ)V"⟩ : MethodName) prog_49_method_6_code 6 none ({ frames := 0, cells := 0, slots := 0, locals := 0 } : Room) n0 (fun u h => u = none ∧ ∃ V0 V1 : List Int64, Keep h0 h [c0, c1] ∧ Ary Z h c0 .long (V0.map Value.long) ∧ Ary Z h c1 .long (V1.map Value.long) ∧ V0.length = W0.length ∧ V1.length = W1.length ∧ ∀ f : Nat, (own_bt (V0 ++ V1) f = true ↔ (own_bt (W0 ++ W1) f = true ∨ (f / 64 = w.toInt.toNat ∧ b.toBitVec.getLsbD (f % 64) = true)))) h0 #[(.ref a), (.int w), (.long b)] := by
  refine Mt.go (Ls := #[.val (.ref a), .val (.int w), .val (.long b), .second, .unset, .unset]) (plainFor_of_name pn1) (fun m => by first | (simp [entryFrame, mkF, argsToLocals, Value.category]; done) | rfl) ?_
  show (Go false l ({ frames := 0, cells := 0, slots := 0, locals := 0 } : Room) Z (⟨"com/example/nearword/nearword/internal/index/PointBits", "addBits", "(IJ)V"⟩ : MethodName) prog_49_method_6_code 6 none n0 0 0 (fun u h => u = none ∧ ∃ V0 V1 : List Int64, Keep h0 h [c0, c1] ∧ Ary Z h c0 .long (V0.map Value.long) ∧ Ary Z h c1 .long (V1.map Value.long) ∧ V0.length = W0.length ∧ V1.length = W1.length ∧ ∀ f : Nat, (own_bt (V0 ++ V1) f = true ↔ (own_bt (W0 ++ W1) f = true ∨ (f / 64 = w.toInt.toNat ∧ b.toBitVec.getLsbD (f % 64) = true))))) h0 0 0 0 #[.val (.ref a), .val (.int w), .val (.long b), .second, .unset, .unset] []
  refine Go.iloadN (pc' := 1) d13_0 rfl rfl ?_
  refine Go.bipush (pc' := 3) (v := (13 : Int32)) d13_1 rfl rfl ?_
  refine Go.iushr (pc' := 4) d13_3 rfl ?_
  generalize ek_190 : (w.toUInt32 >>> ((13 : Int32) &&& 31).toUInt32).toInt32 = k_190
  have k_191 : k_190.toInt = w.toInt / 8192 := by
    rw [← ek_190]
    have : (13 : Int32).toInt = 13 := by decide
    have := c_iushr w (13 : Int32) 13 (by decide) (by decide)
    have := rng32 ((w.toUInt32 >>> ((13 : Int32) &&& 31).toUInt32).toInt32)
    have := rng32 w
    omega
  refine Go.istore (pc' := 6) (Ls' := #[.val (.ref a), .val (.int w), .val (.long b), .second, .val (.int k_190), .unset]) d13_4 rfl rfl ?_
  refine Go.iloadN (pc' := 7) d13_6 rfl rfl ?_
  refine Go.sipush (pc' := 10) (v := (8191 : Int32)) d13_7 rfl rfl ?_
  refine Go.iand (pc' := 11) d13_10 rfl ?_
  generalize ex_192 : w &&& (8191 : Int32) = x_192
  have k_193 : x_192.toInt = w.toInt % 8192 := by
    rw [← ex_192]
    have : (8191 : Int32).toInt = 8191 := by decide
    have := c_mask w (8191 : Int32) 13 (by decide) (by decide)
    have := rng32 (w &&& (8191 : Int32))
    have := rng32 w
    omega
  refine Go.istore (pc' := 13) (Ls' := #[.val (.ref a), .val (.int w), .val (.long b), .second, .val (.int k_190), .val (.int x_192)]) d13_11 rfl rfl ?_
  refine Go.iload (pc' := 15) d13_13 rfl rfl ?_
  refine Go.aloadN (pc' := 16) d13_15 rfl rfl rfl ?_
  refine Go.getF (pc' := 19) (hw _ (List.mem_of_getElem? (i := 50) rfl)) hF d13_16 rfl ?_
  refine Go.alen (pc' := 20) (z := (2 : Int32)) hG rfl d13_19 rfl ?_
  refine Go.icmp (pc1 := 36) (pc2 := 23) d13_20 (by decide) (by decide) rfl (fun (c_194 : (2 : Int) ≤ k_190.toInt) => ?_) (fun (c_194 : k_190.toInt < (2 : Int)) => ?_)
  · exfalso; omega
  rcases (by omega : w.toInt < 8192 ∨ 8192 ≤ w.toInt) with hsd | hsd
  · refine Go.iload (pc' := 25) d13_23 rfl rfl ?_
    refine Go.aloadN (pc' := 26) d13_25 rfl rfl rfl ?_
    refine Go.getF (pc' := 29) (hw _ (List.mem_of_getElem? (i := 50) rfl)) hF d13_26 rfl ?_
    refine Go.iload (pc' := 31) d13_29 rfl rfl ?_
    refine Go.ldA (pc' := 32) (k := 0) (v := (.ref c0)) hG rfl (by omega) rfl d13_31 rfl ?_
    obtain ⟨zl, hzl⟩ := own_i32 W0.length (by omega)
    refine Go.alen (pc' := 33) (z := zl) hA0 (by rw [List.length_map]; exact hzl) d13_32 rfl ?_
    refine Go.icmp (pc1 := 44) (pc2 := 36) d13_33 (by decide) (by decide) rfl (fun (c_195 : x_192.toInt < zl.toInt) => ?_) (fun (c_195 : zl.toInt ≤ x_192.toInt) => ?_)
    rotate_left
    · exfalso; omega
    refine Go.aloadN (pc' := 45) d13_44 rfl rfl rfl ?_
    refine Go.getF (pc' := 48) (hw _ (List.mem_of_getElem? (i := 50) rfl)) hF d13_45 rfl ?_
    refine Go.iload (pc' := 50) d13_48 rfl rfl ?_
    refine Go.ldA (pc' := 51) (k := 0) (v := (.ref c0)) hG rfl (by omega) rfl d13_50 rfl ?_
    obtain ⟨v, hv⟩ : ∃ v, W0[w.toInt.toNat]? = some v := ⟨_, List.getElem?_eq_getElem (by omega)⟩
    refine Go.iload (pc' := 53) d13_51 rfl rfl ?_
    refine Go.dup2 (pc' := 54) d13_53 rfl rfl rfl ?_
    refine Go.ldJ (pc' := 55) (k := w.toInt.toNat) (v := (.long v)) hA0 (by omega) (by rw [List.getElem?_map, hv]; rfl) d13_54 rfl ?_
    refine Go.lloadN (pc' := 56) d13_55 rfl rfl ?_
    refine Go.lor (pc' := 57) d13_56 rfl ?_
    refine Go.stJ (pc' := 58) (k := w.toInt.toNat) hA0 (by omega) (by rw [List.length_map]; omega) d13_57 hg0 rfl ?_
    intro h_196 W_197 A_198
    have f_199 : Exa Z h_196 a "com/example/nearword/nearword/internal/index/PointBits" := hE.sm (Sm.wr W_197 ha0)
    have f_200 : Fld Z h_196 a "com/example/nearword/nearword/internal/index/PointBits" "chunks" "[[J" (.ref g) := hF.sm (Sm.wr W_197 ha0)
    have f_201 : Ary Z h_196 g (.array .long) [(.ref c0), (.ref c1)] := hG.sm (Sm.wr W_197 hq0)
    have f_202 : Ary Z h_196 c1 .long (W1.map Value.long) := hA1.sm (Sm.wr W_197 h01.symm)
    have t_203 : a < h_196.size := Nat.lt_of_lt_of_le hE.lt (Nat.le_of_eq W_197.size.symm)
    have t_204 : g < h_196.size := Nat.lt_of_lt_of_le hG.lt (Nat.le_of_eq W_197.size.symm)
    have t_205 : c0 < h_196.size := Nat.lt_of_lt_of_le hA0.lt (Nat.le_of_eq W_197.size.symm)
    have t_206 : c1 < h_196.size := Nat.lt_of_lt_of_le hA1.lt (Nat.le_of_eq W_197.size.symm)
    have z_207 : n0 ≤ h_196.size := Nat.le_trans z0 (Nat.le_of_eq W_197.size.symm)
    have b_208 : h0.size ≤ h_196.size := Nat.le_trans (Nat.le_refl _) (Nat.le_of_eq W_197.size.symm)
    have K_209 : Keep h0 h_196 [c0, c1] := (Keep.refl _ _).wr W_197 (Or.inl (List.mem_of_getElem? (i := 0) rfl))
    have y_210 : Ary Z h_196 c0 .long ((W0.set w.toInt.toNat (v ||| b)).map Value.long) := A_198.eq (by rw [List.map_set])
    exact Go.ret0 d13_58 rfl ⟨rfl, (W0.set w.toInt.toNat (v ||| b)), W1, K_209, y_210, f_202, List.length_set, rfl, own_or2a W0 W1 w v b (by omega) hv⟩ (by decide) (by decide)
  · refine Go.iload (pc' := 25) d13_23 rfl rfl ?_
    refine Go.aloadN (pc' := 26) d13_25 rfl rfl rfl ?_
    refine Go.getF (pc' := 29) (hw _ (List.mem_of_getElem? (i := 50) rfl)) hF d13_26 rfl ?_
    refine Go.iload (pc' := 31) d13_29 rfl rfl ?_
    refine Go.ldA (pc' := 32) (k := 1) (v := (.ref c1)) hG rfl (by omega) rfl d13_31 rfl ?_
    obtain ⟨zl, hzl⟩ := own_i32 W1.length (by omega)
    refine Go.alen (pc' := 33) (z := zl) hA1 (by rw [List.length_map]; exact hzl) d13_32 rfl ?_
    refine Go.icmp (pc1 := 44) (pc2 := 36) d13_33 (by decide) (by decide) rfl (fun (c_211 : x_192.toInt < zl.toInt) => ?_) (fun (c_211 : zl.toInt ≤ x_192.toInt) => ?_)
    rotate_left
    · exfalso; omega
    refine Go.aloadN (pc' := 45) d13_44 rfl rfl rfl ?_
    refine Go.getF (pc' := 48) (hw _ (List.mem_of_getElem? (i := 50) rfl)) hF d13_45 rfl ?_
    refine Go.iload (pc' := 50) d13_48 rfl rfl ?_
    refine Go.ldA (pc' := 51) (k := 1) (v := (.ref c1)) hG rfl (by omega) rfl d13_50 rfl ?_
    obtain ⟨v, hv⟩ : ∃ v, W1[(w.toInt.toNat - 8192)]? = some v := ⟨_, List.getElem?_eq_getElem (by omega)⟩
    refine Go.iload (pc' := 53) d13_51 rfl rfl ?_
    refine Go.dup2 (pc' := 54) d13_53 rfl rfl rfl ?_
    refine Go.ldJ (pc' := 55) (k := (w.toInt.toNat - 8192)) (v := (.long v)) hA1 (by omega) (by rw [List.getElem?_map, hv]; rfl) d13_54 rfl ?_
    refine Go.lloadN (pc' := 56) d13_55 rfl rfl ?_
    refine Go.lor (pc' := 57) d13_56 rfl ?_
    refine Go.stJ (pc' := 58) (k := (w.toInt.toNat - 8192)) hA1 (by omega) (by rw [List.length_map]; omega) d13_57 hg1 rfl ?_
    intro h_212 W_213 A_214
    have f_215 : Exa Z h_212 a "com/example/nearword/nearword/internal/index/PointBits" := hE.sm (Sm.wr W_213 ha1)
    have f_216 : Fld Z h_212 a "com/example/nearword/nearword/internal/index/PointBits" "chunks" "[[J" (.ref g) := hF.sm (Sm.wr W_213 ha1)
    have f_217 : Ary Z h_212 g (.array .long) [(.ref c0), (.ref c1)] := hG.sm (Sm.wr W_213 hq1)
    have f_218 : Ary Z h_212 c0 .long (W0.map Value.long) := hA0.sm (Sm.wr W_213 h01)
    have t_219 : a < h_212.size := Nat.lt_of_lt_of_le hE.lt (Nat.le_of_eq W_213.size.symm)
    have t_220 : g < h_212.size := Nat.lt_of_lt_of_le hG.lt (Nat.le_of_eq W_213.size.symm)
    have t_221 : c0 < h_212.size := Nat.lt_of_lt_of_le hA0.lt (Nat.le_of_eq W_213.size.symm)
    have t_222 : c1 < h_212.size := Nat.lt_of_lt_of_le hA1.lt (Nat.le_of_eq W_213.size.symm)
    have z_223 : n0 ≤ h_212.size := Nat.le_trans z0 (Nat.le_of_eq W_213.size.symm)
    have b_224 : h0.size ≤ h_212.size := Nat.le_trans (Nat.le_refl _) (Nat.le_of_eq W_213.size.symm)
    have K_225 : Keep h0 h_212 [c0, c1] := (Keep.refl _ _).wr W_213 (Or.inl (List.mem_of_getElem? (i := 1) rfl))
    have y_226 : Ary Z h_212 c1 .long ((W1.set (w.toInt.toNat - 8192) (v ||| b)).map Value.long) := A_214.eq (by rw [List.map_set])
    exact Go.ret0 d13_58 rfl ⟨rfl, W0, (W1.set (w.toInt.toNat - 8192) (v ||| b)), K_225, f_218, y_226, rfl, List.length_set, own_or2b W0 W1 w v b (by omega) (by omega) hv⟩ (by decide) (by decide)
set_option maxRecDepth 65536 in
set_option maxHeartbeats 40000000 in
theorem m_has1 (l : Launch) (Z : State) (a0 : Array Value) (hw : ∀ d ∈ tables_1, d.before a0 Z = true) (a g c0 : Addr) (W0 : List Int64) (q : Int32) (h0 : Heap) (n0 : Nat) (z0 : n0 ≤ h0.size) (hE : Exa Z h0 a "com/example/nearword/nearword/internal/index/PointBits") (hF : Fld Z h0 a "com/example/nearword/nearword/internal/index/PointBits" "chunks" "[[J" (.ref g)) (hG : Ary Z h0 g (.array .long) [.ref c0]) (hA0 : Ary Z h0 c0 .long (W0.map Value.long)) (hl0 : W0.length ≤ 8192) : Mt false l Z (⟨"com/example/nearword/nearword/internal/index/PointBits", "has", "(I)Z"⟩ : MethodName) prog_49_method_3_code 4 (some .boolean) ({ frames := 0, cells := 0, slots := 0, locals := 0 } : Room) n0 (fun u h => ∃ r : Int32, u = some (.int r) ∧ h0 = h ∧ (r.toInt = 0 ∨ r.toInt = 1) ∧ (r.toInt = 1 ↔ (0 ≤ q.toInt ∧ own_bt W0 q.toInt.toNat = true))) h0 #[(.ref a), (.int q)] := by
  refine Mt.go (Ls := #[.val (.ref a), .val (.int q), .unset, .unset]) (plainFor_of_name pn1) (fun m => by first | (simp [entryFrame, mkF, argsToLocals, Value.category]; done) | rfl) ?_
  show (Go false l ({ frames := 0, cells := 0, slots := 0, locals := 0 } : Room) Z (⟨"com/example/nearword/nearword/internal/index/PointBits", "has", "(I)Z"⟩ : MethodName) prog_49_method_3_code 4 (some .boolean) n0 0 0 (fun u h => ∃ r : Int32, u = some (.int r) ∧ h0 = h ∧ (r.toInt = 0 ∨ r.toInt = 1) ∧ (r.toInt = 1 ↔ (0 ≤ q.toInt ∧ own_bt W0 q.toInt.toNat = true)))) h0 0 0 0 #[.val (.ref a), .val (.int q), .unset, .unset] []
  have hrq := rng32 q
  refine Go.iloadN (pc' := 1) d14_0 rfl rfl ?_
  refine Go.bipush (pc' := 3) (v := (19 : Int32)) d14_1 rfl rfl ?_
  refine Go.iushr (pc' := 4) d14_3 rfl ?_
  generalize ek_227 : (q.toUInt32 >>> ((19 : Int32) &&& 31).toUInt32).toInt32 = k_227
  have k_228 : k_227.toInt = (q.toInt % 4294967296) / 524288 := by
    rw [← ek_227]
    have : (19 : Int32).toInt = 19 := by decide
    have := c_iushr q (19 : Int32) 19 (by decide) (by decide)
    have := rng32 ((q.toUInt32 >>> ((19 : Int32) &&& 31).toUInt32).toInt32)
    have := rng32 q
    omega
  refine Go.istoreN (pc' := 5) (Ls' := #[.val (.ref a), .val (.int q), .val (.int k_227), .unset]) d14_4 rfl rfl ?_
  refine Go.iloadN (pc' := 6) d14_5 rfl rfl ?_
  refine Go.bipush (pc' := 8) (v := (6 : Int32)) d14_6 rfl rfl ?_
  refine Go.iushr (pc' := 9) d14_8 rfl ?_
  refine Go.sipush (pc' := 12) (v := (8191 : Int32)) d14_9 rfl rfl ?_
  refine Go.iand (pc' := 13) d14_12 rfl ?_
  generalize ex_229 : ((q.toUInt32 >>> ((6 : Int32) &&& 31).toUInt32).toInt32) &&& (8191 : Int32) = x_229
  have k_230 : x_229.toInt = ((q.toInt % 4294967296) / 64) % 8192 := by
    rw [← ex_229]
    have : (6 : Int32).toInt = 6 := by decide
    have := c_iushr q (6 : Int32) 6 (by decide) (by decide)
    have := rng32 ((q.toUInt32 >>> ((6 : Int32) &&& 31).toUInt32).toInt32)
    have := rng32 q
    have : (8191 : Int32).toInt = 8191 := by decide
    have := c_mask ((q.toUInt32 >>> ((6 : Int32) &&& 31).toUInt32).toInt32) (8191 : Int32) 13 (by decide) (by decide)
    have := rng32 (((q.toUInt32 >>> ((6 : Int32) &&& 31).toUInt32).toInt32) &&& (8191 : Int32))
    omega
  refine Go.istoreN (pc' := 14) (Ls' := #[.val (.ref a), .val (.int q), .val (.int k_227), .val (.int x_229)]) d14_13 rfl rfl ?_
  refine Go.iloadN (pc' := 15) d14_14 rfl rfl ?_
  refine Go.aloadN (pc' := 16) d14_15 rfl rfl rfl ?_
  refine Go.getF (pc' := 19) (hw _ (List.mem_of_getElem? (i := 50) rfl)) hF d14_16 rfl ?_
  refine Go.alen (pc' := 20) (z := (1 : Int32)) hG rfl d14_19 rfl ?_
  refine Go.icmp (pc1 := 55) (pc2 := 23) d14_20 (by decide) (by decide) rfl (fun (c_231 : (1 : Int) ≤ k_227.toInt) => ?_) (fun (c_231 : k_227.toInt < (1 : Int)) => ?_)
  · refine Go.iconst (pc' := 56) (v := (0 : Int32)) d14_55 rfl rfl ?_
    exact Go.retN (t := .boolean) d14_56 rfl (by simp) rfl ⟨_, rfl, rfl, Or.inl rfl, ⟨fun z => absurd z (by decide), fun z => absurd z.2 (own_far _ _ (by have := z.1; omega))⟩⟩ (by decide) (by decide)
  · refine Go.iloadN (pc' := 24) d14_23 rfl rfl ?_
    refine Go.aloadN (pc' := 25) d14_24 rfl rfl rfl ?_
    refine Go.getF (pc' := 28) (hw _ (List.mem_of_getElem? (i := 50) rfl)) hF d14_25 rfl ?_
    refine Go.iloadN (pc' := 29) d14_28 rfl rfl ?_
    refine Go.ldA (pc' := 30) (k := 0) (v := (.ref c0)) hG rfl (by omega) rfl d14_29 rfl ?_
    obtain ⟨zl, hzl⟩ := own_i32 W0.length (by omega)
    refine Go.alen (pc' := 31) (z := zl) hA0 (by rw [List.length_map]; exact hzl) d14_30 rfl ?_
    refine Go.icmp (pc1 := 55) (pc2 := 34) d14_31 (by decide) (by decide) rfl (fun (c_232 : zl.toInt ≤ x_229.toInt) => ?_) (fun (c_232 : x_229.toInt < zl.toInt) => ?_)
    · refine Go.iconst (pc' := 56) (v := (0 : Int32)) d14_55 rfl rfl ?_
      exact Go.retN (t := .boolean) d14_56 rfl (by simp) rfl ⟨_, rfl, rfl, Or.inl rfl, ⟨fun z => absurd z (by decide), fun z => absurd z.2 (own_far _ _ (by omega))⟩⟩ (by decide) (by decide)
    · refine Go.aloadN (pc' := 35) d14_34 rfl rfl rfl ?_
      refine Go.getF (pc' := 38) (hw _ (List.mem_of_getElem? (i := 50) rfl)) hF d14_35 rfl ?_
      refine Go.iloadN (pc' := 39) d14_38 rfl rfl ?_
      refine Go.ldA (pc' := 40) (k := 0) (v := (.ref c0)) hG rfl (by omega) rfl d14_39 rfl ?_
      obtain ⟨v, hv⟩ : ∃ v, W0[(q.toInt.toNat / 64)]? = some v := ⟨_, List.getElem?_eq_getElem (by omega)⟩
      have o : (own_bt W0 q.toInt.toNat = true ↔ v.toBitVec.getLsbD (q.toInt.toNat % 64) = true) := own_at W0 _ hv
      refine Go.iloadN (pc' := 41) d14_40 rfl rfl ?_
      refine Go.ldJ (pc' := 42) (k := (q.toInt.toNat / 64)) (v := (.long v)) hA0 (by omega) (by rw [List.getElem?_map, hv]; rfl) d14_41 rfl ?_
      refine Go.lconst (pc' := 43) (v := (1 : Int64)) d14_42 rfl rfl ?_
      refine Go.iloadN (pc' := 44) d14_43 rfl rfl ?_
      refine Go.lshl (pc' := 45) d14_44 rfl ?_
      refine Go.land (pc' := 46) d14_45 rfl ?_
      refine Go.lconst (pc' := 47) (v := (0 : Int64)) d14_46 rfl rfl ?_
      refine Go.lcmp (pc' := 48) d14_47 rfl ?_
      refine Go.ifw (pc1 := 55) (pc2 := 51) d14_48 (by decide) (by decide) rfl (fun (c_233 : (v &&& ((1 : Int64) <<< (q &&& 0x3f).toInt64)).toInt = (0 : Int)) => ?_) (fun (c_233 : (v &&& ((1 : Int64) <<< (q &&& 0x3f).toInt64)).toInt ≠ (0 : Int)) => ?_)
      · refine Go.iconst (pc' := 56) (v := (0 : Int32)) d14_55 rfl rfl ?_
        exact Go.retN (t := .boolean) d14_56 rfl (by simp) rfl ⟨_, rfl, rfl, Or.inl rfl, ⟨fun z => absurd z (by decide), fun z => absurd c_233 ((own_test v q (by omega)).mpr (o.mp z.2))⟩⟩ (by decide) (by decide)
      · refine Go.iconst (pc' := 52) (v := (1 : Int32)) d14_51 rfl rfl ?_
        refine Go.goto (pc' := 56) d14_52 (by decide) (by decide) ?_
        exact Go.retN (t := .boolean) d14_56 rfl (by simp) rfl ⟨_, rfl, rfl, Or.inr rfl, ⟨fun _ => ⟨by omega, o.mpr ((own_test v q (by omega)).mp c_233)⟩, fun _ => rfl⟩⟩ (by decide) (by decide)
set_option maxRecDepth 65536 in
set_option maxHeartbeats 40000000 in
theorem m_has2 (l : Launch) (Z : State) (a0 : Array Value) (hw : ∀ d ∈ tables_1, d.before a0 Z = true) (a g c0 c1 : Addr) (W0 W1 : List Int64) (q : Int32) (h0 : Heap) (n0 : Nat) (z0 : n0 ≤ h0.size) (hE : Exa Z h0 a "com/example/nearword/nearword/internal/index/PointBits") (hF : Fld Z h0 a "com/example/nearword/nearword/internal/index/PointBits" "chunks" "[[J" (.ref g)) (hG : Ary Z h0 g (.array .long) [.ref c0, .ref c1]) (hA0 : Ary Z h0 c0 .long (W0.map Value.long)) (hA1 : Ary Z h0 c1 .long (W1.map Value.long)) (hl0 : W0.length = 8192) (hl1 : W1.length ≤ 8192) : Mt false l Z (⟨"com/example/nearword/nearword/internal/index/PointBits", "has", "(I)Z"⟩ : MethodName) prog_49_method_3_code 4 (some .boolean) ({ frames := 0, cells := 0, slots := 0, locals := 0 } : Room) n0 (fun u h => ∃ r : Int32, u = some (.int r) ∧ h0 = h ∧ (r.toInt = 0 ∨ r.toInt = 1) ∧ (r.toInt = 1 ↔ (0 ≤ q.toInt ∧ own_bt (W0 ++ W1) q.toInt.toNat = true))) h0 #[(.ref a), (.int q)] := by
  refine Mt.go (Ls := #[.val (.ref a), .val (.int q), .unset, .unset]) (plainFor_of_name pn1) (fun m => by first | (simp [entryFrame, mkF, argsToLocals, Value.category]; done) | rfl) ?_
  show (Go false l ({ frames := 0, cells := 0, slots := 0, locals := 0 } : Room) Z (⟨"com/example/nearword/nearword/internal/index/PointBits", "has", "(I)Z"⟩ : MethodName) prog_49_method_3_code 4 (some .boolean) n0 0 0 (fun u h => ∃ r : Int32, u = some (.int r) ∧ h0 = h ∧ (r.toInt = 0 ∨ r.toInt = 1) ∧ (r.toInt = 1 ↔ (0 ≤ q.toInt ∧ own_bt (W0 ++ W1) q.toInt.toNat = true)))) h0 0 0 0 #[.val (.ref a), .val (.int q), .unset, .unset] []
  have hrq := rng32 q
  refine Go.iloadN (pc' := 1) d14_0 rfl rfl ?_
  refine Go.bipush (pc' := 3) (v := (19 : Int32)) d14_1 rfl rfl ?_
  refine Go.iushr (pc' := 4) d14_3 rfl ?_
  generalize ek_234 : (q.toUInt32 >>> ((19 : Int32) &&& 31).toUInt32).toInt32 = k_234
  have k_235 : k_234.toInt = (q.toInt % 4294967296) / 524288 := by
    rw [← ek_234]
    have : (19 : Int32).toInt = 19 := by decide
    have := c_iushr q (19 : Int32) 19 (by decide) (by decide)
    have := rng32 ((q.toUInt32 >>> ((19 : Int32) &&& 31).toUInt32).toInt32)
    have := rng32 q
    omega
  refine Go.istoreN (pc' := 5) (Ls' := #[.val (.ref a), .val (.int q), .val (.int k_234), .unset]) d14_4 rfl rfl ?_
  refine Go.iloadN (pc' := 6) d14_5 rfl rfl ?_
  refine Go.bipush (pc' := 8) (v := (6 : Int32)) d14_6 rfl rfl ?_
  refine Go.iushr (pc' := 9) d14_8 rfl ?_
  refine Go.sipush (pc' := 12) (v := (8191 : Int32)) d14_9 rfl rfl ?_
  refine Go.iand (pc' := 13) d14_12 rfl ?_
  generalize ex_236 : ((q.toUInt32 >>> ((6 : Int32) &&& 31).toUInt32).toInt32) &&& (8191 : Int32) = x_236
  have k_237 : x_236.toInt = ((q.toInt % 4294967296) / 64) % 8192 := by
    rw [← ex_236]
    have : (6 : Int32).toInt = 6 := by decide
    have := c_iushr q (6 : Int32) 6 (by decide) (by decide)
    have := rng32 ((q.toUInt32 >>> ((6 : Int32) &&& 31).toUInt32).toInt32)
    have := rng32 q
    have : (8191 : Int32).toInt = 8191 := by decide
    have := c_mask ((q.toUInt32 >>> ((6 : Int32) &&& 31).toUInt32).toInt32) (8191 : Int32) 13 (by decide) (by decide)
    have := rng32 (((q.toUInt32 >>> ((6 : Int32) &&& 31).toUInt32).toInt32) &&& (8191 : Int32))
    omega
  refine Go.istoreN (pc' := 14) (Ls' := #[.val (.ref a), .val (.int q), .val (.int k_234), .val (.int x_236)]) d14_13 rfl rfl ?_
  refine Go.iloadN (pc' := 15) d14_14 rfl rfl ?_
  refine Go.aloadN (pc' := 16) d14_15 rfl rfl rfl ?_
  refine Go.getF (pc' := 19) (hw _ (List.mem_of_getElem? (i := 50) rfl)) hF d14_16 rfl ?_
  refine Go.alen (pc' := 20) (z := (2 : Int32)) hG rfl d14_19 rfl ?_
  refine Go.icmp (pc1 := 55) (pc2 := 23) d14_20 (by decide) (by decide) rfl (fun (c_238 : (2 : Int) ≤ k_234.toInt) => ?_) (fun (c_238 : k_234.toInt < (2 : Int)) => ?_)
  · refine Go.iconst (pc' := 56) (v := (0 : Int32)) d14_55 rfl rfl ?_
    exact Go.retN (t := .boolean) d14_56 rfl (by simp) rfl ⟨_, rfl, rfl, Or.inl rfl, ⟨fun z => absurd z (by decide), fun z => absurd z.2 (own_far _ _ (by rw [List.length_append]; have := z.1; omega))⟩⟩ (by decide) (by decide)
  · rcases (by omega : k_234.toInt = 0 ∨ k_234.toInt = 1) with hsd | hsd
    · refine Go.iloadN (pc' := 24) d14_23 rfl rfl ?_
      refine Go.aloadN (pc' := 25) d14_24 rfl rfl rfl ?_
      refine Go.getF (pc' := 28) (hw _ (List.mem_of_getElem? (i := 50) rfl)) hF d14_25 rfl ?_
      refine Go.iloadN (pc' := 29) d14_28 rfl rfl ?_
      refine Go.ldA (pc' := 30) (k := 0) (v := (.ref c0)) hG rfl (by omega) rfl d14_29 rfl ?_
      obtain ⟨zl, hzl⟩ := own_i32 W0.length (by omega)
      refine Go.alen (pc' := 31) (z := zl) hA0 (by rw [List.length_map]; exact hzl) d14_30 rfl ?_
      refine Go.icmp (pc1 := 55) (pc2 := 34) d14_31 (by decide) (by decide) rfl (fun (c_239 : zl.toInt ≤ x_236.toInt) => ?_) (fun (c_239 : x_236.toInt < zl.toInt) => ?_)
      · refine Go.iconst (pc' := 56) (v := (0 : Int32)) d14_55 rfl rfl ?_
        exact Go.retN (t := .boolean) d14_56 rfl (by simp) rfl ⟨_, rfl, rfl, Or.inl rfl, ⟨fun z => absurd z (by decide), fun z => absurd z.2 (own_far _ _ (by rw [List.length_append]; omega))⟩⟩ (by decide) (by decide)
      · refine Go.aloadN (pc' := 35) d14_34 rfl rfl rfl ?_
        refine Go.getF (pc' := 38) (hw _ (List.mem_of_getElem? (i := 50) rfl)) hF d14_35 rfl ?_
        refine Go.iloadN (pc' := 39) d14_38 rfl rfl ?_
        refine Go.ldA (pc' := 40) (k := 0) (v := (.ref c0)) hG rfl (by omega) rfl d14_39 rfl ?_
        obtain ⟨v, hv⟩ : ∃ v, W0[(q.toInt.toNat / 64)]? = some v := ⟨_, List.getElem?_eq_getElem (by omega)⟩
        have o : (own_bt (W0 ++ W1) q.toInt.toNat = true ↔ v.toBitVec.getLsbD (q.toInt.toNat % 64) = true) := own_atL W0 W1 _ hv
        refine Go.iloadN (pc' := 41) d14_40 rfl rfl ?_
        refine Go.ldJ (pc' := 42) (k := (q.toInt.toNat / 64)) (v := (.long v)) hA0 (by omega) (by rw [List.getElem?_map, hv]; rfl) d14_41 rfl ?_
        refine Go.lconst (pc' := 43) (v := (1 : Int64)) d14_42 rfl rfl ?_
        refine Go.iloadN (pc' := 44) d14_43 rfl rfl ?_
        refine Go.lshl (pc' := 45) d14_44 rfl ?_
        refine Go.land (pc' := 46) d14_45 rfl ?_
        refine Go.lconst (pc' := 47) (v := (0 : Int64)) d14_46 rfl rfl ?_
        refine Go.lcmp (pc' := 48) d14_47 rfl ?_
        refine Go.ifw (pc1 := 55) (pc2 := 51) d14_48 (by decide) (by decide) rfl (fun (c_240 : (v &&& ((1 : Int64) <<< (q &&& 0x3f).toInt64)).toInt = (0 : Int)) => ?_) (fun (c_240 : (v &&& ((1 : Int64) <<< (q &&& 0x3f).toInt64)).toInt ≠ (0 : Int)) => ?_)
        · refine Go.iconst (pc' := 56) (v := (0 : Int32)) d14_55 rfl rfl ?_
          exact Go.retN (t := .boolean) d14_56 rfl (by simp) rfl ⟨_, rfl, rfl, Or.inl rfl, ⟨fun z => absurd z (by decide), fun z => absurd c_240 ((own_test v q (by omega)).mpr (o.mp z.2))⟩⟩ (by decide) (by decide)
        · refine Go.iconst (pc' := 52) (v := (1 : Int32)) d14_51 rfl rfl ?_
          refine Go.goto (pc' := 56) d14_52 (by decide) (by decide) ?_
          exact Go.retN (t := .boolean) d14_56 rfl (by simp) rfl ⟨_, rfl, rfl, Or.inr rfl, ⟨fun _ => ⟨by omega, o.mpr ((own_test v q (by omega)).mp c_240)⟩, fun _ => rfl⟩⟩ (by decide) (by decide)
    · refine Go.iloadN (pc' := 24) d14_23 rfl rfl ?_
      refine Go.aloadN (pc' := 25) d14_24 rfl rfl rfl ?_
      refine Go.getF (pc' := 28) (hw _ (List.mem_of_getElem? (i := 50) rfl)) hF d14_25 rfl ?_
      refine Go.iloadN (pc' := 29) d14_28 rfl rfl ?_
      refine Go.ldA (pc' := 30) (k := 1) (v := (.ref c1)) hG rfl (by omega) rfl d14_29 rfl ?_
      obtain ⟨zl, hzl⟩ := own_i32 W1.length (by omega)
      refine Go.alen (pc' := 31) (z := zl) hA1 (by rw [List.length_map]; exact hzl) d14_30 rfl ?_
      refine Go.icmp (pc1 := 55) (pc2 := 34) d14_31 (by decide) (by decide) rfl (fun (c_241 : zl.toInt ≤ x_236.toInt) => ?_) (fun (c_241 : x_236.toInt < zl.toInt) => ?_)
      · refine Go.iconst (pc' := 56) (v := (0 : Int32)) d14_55 rfl rfl ?_
        exact Go.retN (t := .boolean) d14_56 rfl (by simp) rfl ⟨_, rfl, rfl, Or.inl rfl, ⟨fun z => absurd z (by decide), fun z => absurd z.2 (own_far _ _ (by rw [List.length_append]; omega))⟩⟩ (by decide) (by decide)
      · refine Go.aloadN (pc' := 35) d14_34 rfl rfl rfl ?_
        refine Go.getF (pc' := 38) (hw _ (List.mem_of_getElem? (i := 50) rfl)) hF d14_35 rfl ?_
        refine Go.iloadN (pc' := 39) d14_38 rfl rfl ?_
        refine Go.ldA (pc' := 40) (k := 1) (v := (.ref c1)) hG rfl (by omega) rfl d14_39 rfl ?_
        obtain ⟨v, hv⟩ : ∃ v, W1[(q.toInt.toNat / 64 - 8192)]? = some v := ⟨_, List.getElem?_eq_getElem (by omega)⟩
        have o : (own_bt (W0 ++ W1) q.toInt.toNat = true ↔ v.toBitVec.getLsbD (q.toInt.toNat % 64) = true) := own_atR W0 W1 _ (by omega) (by rw [hl0]; exact hv)
        refine Go.iloadN (pc' := 41) d14_40 rfl rfl ?_
        refine Go.ldJ (pc' := 42) (k := (q.toInt.toNat / 64 - 8192)) (v := (.long v)) hA1 (by omega) (by rw [List.getElem?_map, hv]; rfl) d14_41 rfl ?_
        refine Go.lconst (pc' := 43) (v := (1 : Int64)) d14_42 rfl rfl ?_
        refine Go.iloadN (pc' := 44) d14_43 rfl rfl ?_
        refine Go.lshl (pc' := 45) d14_44 rfl ?_
        refine Go.land (pc' := 46) d14_45 rfl ?_
        refine Go.lconst (pc' := 47) (v := (0 : Int64)) d14_46 rfl rfl ?_
        refine Go.lcmp (pc' := 48) d14_47 rfl ?_
        refine Go.ifw (pc1 := 55) (pc2 := 51) d14_48 (by decide) (by decide) rfl (fun (c_242 : (v &&& ((1 : Int64) <<< (q &&& 0x3f).toInt64)).toInt = (0 : Int)) => ?_) (fun (c_242 : (v &&& ((1 : Int64) <<< (q &&& 0x3f).toInt64)).toInt ≠ (0 : Int)) => ?_)
        · refine Go.iconst (pc' := 56) (v := (0 : Int32)) d14_55 rfl rfl ?_
          exact Go.retN (t := .boolean) d14_56 rfl (by simp) rfl ⟨_, rfl, rfl, Or.inl rfl, ⟨fun z => absurd z (by decide), fun z => absurd c_242 ((own_test v q (by omega)).mpr (o.mp z.2))⟩⟩ (by decide) (by decide)
        · refine Go.iconst (pc' := 52) (v := (1 : Int32)) d14_51 rfl rfl ?_
          refine Go.goto (pc' := 56) d14_52 (by decide) (by decide) ?_
          exact Go.retN (t := .boolean) d14_56 rfl (by simp) rfl ⟨_, rfl, rfl, Or.inr rfl, ⟨fun _ => ⟨by omega, o.mpr ((own_test v q (by omega)).mp c_242)⟩, fun _ => rfl⟩⟩ (by decide) (by decide)
set_option maxRecDepth 65536 in
set_option maxHeartbeats 40000000 in
theorem m_pb (l : Launch) (Z : State) (a0 : Array Value) (hw : ∀ d ∈ tables_1, d.before a0 Z = true) (a o g r : Addr) (t x y z : Int32) (h0 : Heap) (n0 : Nat) (z0 : n0 ≤ h0.size) (hE : Exa Z h0 a "com/example/nearword/nearword/internal/index/PointBits") (hW : Fld Z h0 a "com/example/nearword/nearword/internal/index/PointBits" "words" "I" (.int (0 : Int32))) (hC : Fld Z h0 a "com/example/nearword/nearword/internal/index/PointBits" "chunks" "[[J" .null) (hg : n0 ≤ a) (hO : Exa Z h0 o "com/example/nearword/nearword/internal/index/IntList") (hF1 : Fld Z h0 o "com/example/nearword/nearword/internal/index/IntList" "pieces" "[[I" (.ref g)) (hF2 : Fld Z h0 o "com/example/nearword/nearword/internal/index/IntList" "start" "I" (.int (0 : Int32))) (hG : Ary Z h0 g (.array .int) [.ref r]) (hA : Ary Z h0 r .int [.int (3 : Int32), .int x, .int y, .int z]) (hn_o : a ≠ o) (hn_g : a ≠ g) (hn_r : a ≠ r) (h1 : 0 ≤ x.toInt) (h2 : x.toInt ≤ y.toInt) (h3 : y.toInt ≤ z.toInt) (h4 : z.toInt < t.toInt) (h5 : t.toInt ≤ 590847) : Mt false l Z (⟨"com/example/nearword/nearword/internal/index/PointBits", "<init>", "(Lcom/example/nearword/nearword/internal/index/IntList;I)V"⟩ : MethodName) prog_49_method_1_code 10 none ({ frames := 2, cells := 3, slots := 9235, locals := 27 } : Room) n0 (fun v h => v = none ∧ Keep h0 h [a] ∧ ((∃ (g c0 : Addr) (W0 : List Int64), Exa Z h a "com/example/nearword/nearword/internal/index/PointBits" ∧ Fld Z h a "com/example/nearword/nearword/internal/index/PointBits" "chunks" "[[J" (.ref g) ∧ Ary Z h g (.array .long) [.ref c0] ∧ Ary Z h c0 .long (W0.map Value.long) ∧ W0.length ≤ 8192 ∧ ∀ f : Nat, (own_bt W0 f = true ↔ ((f : Int) = x.toInt ∨ (f : Int) = y.toInt ∨ (f : Int) = z.toInt))) ∨ (∃ (g c0 c1 : Addr) (W0 W1 : List Int64), Exa Z h a "com/example/nearword/nearword/internal/index/PointBits" ∧ Fld Z h a "com/example/nearword/nearword/internal/index/PointBits" "chunks" "[[J" (.ref g) ∧ Ary Z h g (.array .long) [.ref c0, .ref c1] ∧ Ary Z h c0 .long (W0.map Value.long) ∧ Ary Z h c1 .long (W1.map Value.long) ∧ W0.length = 8192 ∧ W1.length ≤ 8192 ∧ ∀ f : Nat, (own_bt (W0 ++ W1) f = true ↔ ((f : Int) = x.toInt ∨ (f : Int) = y.toInt ∨ (f : Int) = z.toInt))))) h0 #[(.ref a), (.ref o), (.int t)] := by
  refine Mt.go (Ls := #[.val (.ref a), .val (.ref o), .val (.int t), .unset, .unset, .unset, .unset, .unset, .unset, .unset]) (plainFor_of_name pn1) (fun m => by first | (simp [entryFrame, mkF, argsToLocals, Value.category]; done) | rfl) ?_
  show (Go false l ({ frames := 2, cells := 3, slots := 9235, locals := 27 } : Room) Z (⟨"com/example/nearword/nearword/internal/index/PointBits", "<init>", "(Lcom/example/nearword/nearword/internal/index/IntList;I)V"⟩ : MethodName) prog_49_method_1_code 10 none n0 3 9235 (fun v h => v = none ∧ Keep h0 h [a] ∧ ((∃ (g c0 : Addr) (W0 : List Int64), Exa Z h a "com/example/nearword/nearword/internal/index/PointBits" ∧ Fld Z h a "com/example/nearword/nearword/internal/index/PointBits" "chunks" "[[J" (.ref g) ∧ Ary Z h g (.array .long) [.ref c0] ∧ Ary Z h c0 .long (W0.map Value.long) ∧ W0.length ≤ 8192 ∧ ∀ f : Nat, (own_bt W0 f = true ↔ ((f : Int) = x.toInt ∨ (f : Int) = y.toInt ∨ (f : Int) = z.toInt))) ∨ (∃ (g c0 c1 : Addr) (W0 W1 : List Int64), Exa Z h a "com/example/nearword/nearword/internal/index/PointBits" ∧ Fld Z h a "com/example/nearword/nearword/internal/index/PointBits" "chunks" "[[J" (.ref g) ∧ Ary Z h g (.array .long) [.ref c0, .ref c1] ∧ Ary Z h c0 .long (W0.map Value.long) ∧ Ary Z h c1 .long (W1.map Value.long) ∧ W0.length = 8192 ∧ W1.length ≤ 8192 ∧ ∀ f : Nat, (own_bt (W0 ++ W1) f = true ↔ ((f : Int) = x.toInt ∨ (f : Int) = y.toInt ∨ (f : Int) = z.toInt)))))) h0 0 0 0 #[.val (.ref a), .val (.ref o), .val (.int t), .unset, .unset, .unset, .unset, .unset, .unset, .unset] []
  refine Go.aloadN (pc' := 1) d7_0 rfl rfl rfl ?_
  refine Go.initO (pc' := 4) (W := 0) (hw _ (List.mem_of_getElem? (i := 43) rfl)) (hw _ (List.mem_of_getElem? (i := 32) rfl)) (hw _ (List.mem_of_getElem? (i := 33) rfl)) d7_1 rfl (by decide) (Nat.le_of_eq rfl) (by decide) rfl ?_
  refine Go.aloadN (pc' := 5) d7_4 rfl rfl rfl ?_
  refine Go.iloadN (pc' := 6) d7_5 rfl rfl ?_
  refine Go.i2l (pc' := 7) d7_6 rfl ?_
  refine Go.ldcL (pc' := 10) (hw _ (List.mem_of_getElem? (i := 44) rfl)) d7_7 rfl ?_
  refine Go.ladd (pc' := 11) d7_10 rfl ?_
  refine Go.bipush (pc' := 13) (v := (6 : Int32)) d7_11 rfl rfl ?_
  refine Go.lushr (pc' := 14) d7_13 rfl ?_
  refine Go.l2i (pc' := 15) d7_14 rfl ?_
  generalize ed_243 : (((t.toInt64 + (63 : Int64)).toUInt64 >>> ((6 : Int32) &&& 0x3f).toInt64.toUInt64).toInt64).toInt32 = d_243
  have k_244 : d_243.toInt = (t.toInt + 63) / 64 := by
    rw [← ed_243]
    have := c_i2l t
    have := rng64 t.toInt64
    have := rng32 t
    have : (63 : Int64).toInt = 63 := by decide
    have := c_ladd t.toInt64 (63 : Int64)
    have := rng64 (t.toInt64 + (63 : Int64))
    have : (6 : Int32).toInt = 6 := by decide
    have := c_lushr (t.toInt64 + (63 : Int64)) (6 : Int32) 6 (by decide) (by decide)
    have := rng64 (((t.toInt64 + (63 : Int64)).toUInt64 >>> ((6 : Int32) &&& 0x3f).toInt64.toUInt64).toInt64)
    have := c_l2i (((t.toInt64 + (63 : Int64)).toUInt64 >>> ((6 : Int32) &&& 0x3f).toInt64.toUInt64).toInt64)
    have := rng32 ((((t.toInt64 + (63 : Int64)).toUInt64 >>> ((6 : Int32) &&& 0x3f).toInt64.toUInt64).toInt64).toInt32)
    omega
  refine Go.putF (pc' := 18) (ty := .int) (hw _ (List.mem_of_getElem? (i := 45) rfl)) hW hE (Or.inl (hw _ (List.mem_of_getElem? (i := 46) rfl))) (hw _ (List.mem_of_getElem? (i := 9) rfl)) (by decide) rfl rfl d7_15 hg rfl ?_
  intro h_245 W_246
  have f_247 : Exa Z h_245 a "com/example/nearword/nearword/internal/index/PointBits" := Exa.wr W_246 hE
  have f_248 : Exa Z h_245 o "com/example/nearword/nearword/internal/index/IntList" := hO.sm (Sm.wr W_246 hn_o.symm)
  have f_249 : Fld Z h_245 o "com/example/nearword/nearword/internal/index/IntList" "pieces" "[[I" (.ref g) := hF1.sm (Sm.wr W_246 hn_o.symm)
  have f_250 : Fld Z h_245 o "com/example/nearword/nearword/internal/index/IntList" "start" "I" (.int (0 : Int32)) := hF2.sm (Sm.wr W_246 hn_o.symm)
  have f_251 : Ary Z h_245 g (.array .int) [(.ref r)] := hG.sm (Sm.wr W_246 hn_g.symm)
  have f_252 : Ary Z h_245 r .int [(.int (3 : Int32)), (.int x), (.int y), (.int z)] := hA.sm (Sm.wr W_246 hn_r.symm)
  have t_253 : a < h_245.size := Nat.lt_of_lt_of_le hE.lt (Nat.le_of_eq W_246.size.symm)
  have t_254 : o < h_245.size := Nat.lt_of_lt_of_le hO.lt (Nat.le_of_eq W_246.size.symm)
  have t_255 : g < h_245.size := Nat.lt_of_lt_of_le hG.lt (Nat.le_of_eq W_246.size.symm)
  have t_256 : r < h_245.size := Nat.lt_of_lt_of_le hA.lt (Nat.le_of_eq W_246.size.symm)
  have z_257 : n0 ≤ h_245.size := Nat.le_trans z0 (Nat.le_of_eq W_246.size.symm)
  have b_258 : h0.size ≤ h_245.size := Nat.le_trans (Nat.le_refl _) (Nat.le_of_eq W_246.size.symm)
  have K_259 : Keep h0 h_245 [a] := (Keep.refl _ _).wr W_246 (Or.inl (List.mem_of_getElem? (i := 0) rfl))
  have f_260 : Fld Z h_245 a "com/example/nearword/nearword/internal/index/PointBits" "words" "I" (.int d_243) := Fld.same W_246 hW
  have f_261 : Fld Z h_245 a "com/example/nearword/nearword/internal/index/PointBits" "chunks" "[[J" .null := Fld.other W_246 hC (Or.inr (slot_ne (Or.inl (hw _ (List.mem_of_getElem? (i := 51) rfl))) (Or.inl (hw _ (List.mem_of_getElem? (i := 46) rfl))) (by decide) (t := (.array (.array .long))) (t' := .int) (by decide) (by decide)))
  refine Go.aloadN (pc' := 19) d7_18 rfl rfl rfl ?_
  refine Go.iconst (pc' := 20) (v := (1 : Int32)) d7_19 rfl rfl ?_
  refine Go.aloadN (pc' := 21) d7_20 rfl rfl rfl ?_
  refine Go.getF (pc' := 24) (hw _ (List.mem_of_getElem? (i := 45) rfl)) f_260 d7_21 rfl ?_
  refine Go.sipush (pc' := 27) (v := (8192 : Int32)) d7_24 rfl rfl ?_
  refine Go.iadd (pc' := 28) d7_27 rfl ?_
  refine Go.iconst (pc' := 29) (v := (1 : Int32)) d7_28 rfl rfl ?_
  refine Go.isub (pc' := 30) d7_29 rfl ?_
  refine Go.sipush (pc' := 33) (v := (8192 : Int32)) d7_30 rfl rfl ?_
  refine Go.idiv (pc' := 34) d7_33 (by decide) rfl ?_
  generalize ek_262 : ((d_243 + (8192 : Int32)) - (1 : Int32)) / (8192 : Int32) = k_262
  have k_263 : k_262.toInt = (d_243.toInt + 8191) / 8192 := by
    rw [← ek_262]
    have : (8192 : Int32).toInt = 8192 := by decide
    have := c_iadd d_243 (8192 : Int32)
    have := rng32 (d_243 + (8192 : Int32))
    have := rng32 d_243
    have : (1 : Int32).toInt = 1 := by decide
    have := c_isub (d_243 + (8192 : Int32)) (1 : Int32)
    have := rng32 ((d_243 + (8192 : Int32)) - (1 : Int32))
    have := c_idiv ((d_243 + (8192 : Int32)) - (1 : Int32)) (8192 : Int32) 8192 (by decide) (by decide)
    have := rng32 (((d_243 + (8192 : Int32)) - (1 : Int32)) / (8192 : Int32))
    omega
  refine Go.callS (pc' := 37) (argsL := [(.int (1 : Int32)), (.int k_262)]) (rest := [(.ref a)]) (W := 1) (hw _ (List.mem_of_getElem? (i := 47) rfl)) (hw _ (List.mem_of_getElem? (i := 6) rfl)) (hw _ (List.mem_of_getElem? (i := 3) rfl)) (hw _ (List.mem_of_getElem? (i := 7) rfl)) (by decide) (m_max l Z a0 hw (1 : Int32) k_262 h_245 n0 z_257) d7_34 rfl pd4 rfl rfl (Nat.le_of_eq rfl) (by decide) (by decide) (by decide) (by decide) rfl ?_
  rintro _ _ ⟨nc, rfl, rfl, hnc⟩
  have z1 : (1 : Int32).toInt = 1 := rfl
  show (Go false l ({ frames := 2, cells := 3, slots := 9235, locals := 27 } : Room) Z (⟨"com/example/nearword/nearword/internal/index/PointBits", "<init>", "(Lcom/example/nearword/nearword/internal/index/IntList;I)V"⟩ : MethodName) prog_49_method_1_code 10 none n0 3 9235 (fun v h => v = none ∧ Keep h0 h [a] ∧ ((∃ (g c0 : Addr) (W0 : List Int64), Exa Z h a "com/example/nearword/nearword/internal/index/PointBits" ∧ Fld Z h a "com/example/nearword/nearword/internal/index/PointBits" "chunks" "[[J" (.ref g) ∧ Ary Z h g (.array .long) [.ref c0] ∧ Ary Z h c0 .long (W0.map Value.long) ∧ W0.length ≤ 8192 ∧ ∀ f : Nat, (own_bt W0 f = true ↔ ((f : Int) = x.toInt ∨ (f : Int) = y.toInt ∨ (f : Int) = z.toInt))) ∨ (∃ (g c0 c1 : Addr) (W0 W1 : List Int64), Exa Z h a "com/example/nearword/nearword/internal/index/PointBits" ∧ Fld Z h a "com/example/nearword/nearword/internal/index/PointBits" "chunks" "[[J" (.ref g) ∧ Ary Z h g (.array .long) [.ref c0, .ref c1] ∧ Ary Z h c0 .long (W0.map Value.long) ∧ Ary Z h c1 .long (W1.map Value.long) ∧ W0.length = 8192 ∧ W1.length ≤ 8192 ∧ ∀ f : Nat, (own_bt (W0 ++ W1) f = true ↔ ((f : Int) = x.toInt ∨ (f : Int) = y.toInt ∨ (f : Int) = z.toInt)))))) h_245 (0 + 0) (0 + 0) 37 #[.val (.ref a), .val (.ref o), .val (.int t), .unset, .unset, .unset, .unset, .unset, .unset, .unset] [(.int nc), (.ref a)]
  have enc : True := trivial
  have knc : (nc.toInt = 1 ∧ d_243.toInt ≤ 8192) ∨ (nc.toInt = 2 ∧ 8192 < d_243.toInt) := by omega
  rcases knc with ⟨hn, hd⟩ | ⟨hn, hd⟩
  · obtain rfl : nc = (1 : Int32) := Int32.toInt_inj.mp hn
    refine Go.newRA (pc' := 40) (k := 1) (ty := .long) (cap := 1) (C := "[J") (ad := "[[J") (by decide) (hw _ (List.mem_of_getElem? (i := 48) rfl)) (hw _ (List.mem_of_getElem? (i := 49) rfl)) (by decide) rfl (by decide) (by decide) d7_37 (by decide) (by decide) rfl ?_
    intro h_264 a_265 q_266 E_267 A_268 V_269
    have n_270 : a ≠ a_265 := Nat.ne_of_lt (q_266 ▸ t_253)
    have n_271 : o ≠ a_265 := Nat.ne_of_lt (q_266 ▸ t_254)
    have n_272 : g ≠ a_265 := Nat.ne_of_lt (q_266 ▸ t_255)
    have n_273 : r ≠ a_265 := Nat.ne_of_lt (q_266 ▸ t_256)
    have g_274 : n0 ≤ a_265 := q_266 ▸ z_257
    have g_275 : h0.size ≤ a_265 := q_266 ▸ b_258
    have f_276 : Exa Z h_264 a "com/example/nearword/nearword/internal/index/PointBits" := f_247.sm (Sm.ext E_267)
    have f_277 : Exa Z h_264 o "com/example/nearword/nearword/internal/index/IntList" := f_248.sm (Sm.ext E_267)
    have f_278 : Fld Z h_264 o "com/example/nearword/nearword/internal/index/IntList" "pieces" "[[I" (.ref g) := f_249.sm (Sm.ext E_267)
    have f_279 : Fld Z h_264 o "com/example/nearword/nearword/internal/index/IntList" "start" "I" (.int (0 : Int32)) := f_250.sm (Sm.ext E_267)
    have f_280 : Ary Z h_264 g (.array .int) [(.ref r)] := f_251.sm (Sm.ext E_267)
    have f_281 : Ary Z h_264 r .int [(.int (3 : Int32)), (.int x), (.int y), (.int z)] := f_252.sm (Sm.ext E_267)
    have f_282 : Fld Z h_264 a "com/example/nearword/nearword/internal/index/PointBits" "words" "I" (.int d_243) := f_260.sm (Sm.ext E_267)
    have f_283 : Fld Z h_264 a "com/example/nearword/nearword/internal/index/PointBits" "chunks" "[[J" .null := f_261.sm (Sm.ext E_267)
    have t_284 : a < h_264.size := Nat.lt_of_lt_of_le t_253 E_267.1
    have t_285 : o < h_264.size := Nat.lt_of_lt_of_le t_254 E_267.1
    have t_286 : g < h_264.size := Nat.lt_of_lt_of_le t_255 E_267.1
    have t_287 : r < h_264.size := Nat.lt_of_lt_of_le t_256 E_267.1
    have z_288 : n0 ≤ h_264.size := Nat.le_trans z_257 E_267.1
    have b_289 : h0.size ≤ h_264.size := Nat.le_trans b_258 E_267.1
    have K_290 : Keep h0 h_264 [a] := K_259.ext E_267
    have t_291 : a_265 < h_264.size := A_268.lt
    change Ary Z h_264 a_265 (.array .long) [.null] at A_268
    refine Go.putF (pc' := 43) (ty := (.array (.array .long))) (hw _ (List.mem_of_getElem? (i := 50) rfl)) f_283 f_276 (Or.inl (hw _ (List.mem_of_getElem? (i := 51) rfl))) (hw _ (List.mem_of_getElem? (i := 9) rfl)) (by decide) rfl rfl d7_40 hg rfl ?_
    intro h_292 W_293
    have f_294 : Exa Z h_292 a "com/example/nearword/nearword/internal/index/PointBits" := Exa.wr W_293 f_276
    have f_295 : Exa Z h_292 o "com/example/nearword/nearword/internal/index/IntList" := f_277.sm (Sm.wr W_293 hn_o.symm)
    have f_296 : Fld Z h_292 o "com/example/nearword/nearword/internal/index/IntList" "pieces" "[[I" (.ref g) := f_278.sm (Sm.wr W_293 hn_o.symm)
    have f_297 : Fld Z h_292 o "com/example/nearword/nearword/internal/index/IntList" "start" "I" (.int (0 : Int32)) := f_279.sm (Sm.wr W_293 hn_o.symm)
    have f_298 : Ary Z h_292 g (.array .int) [(.ref r)] := f_280.sm (Sm.wr W_293 hn_g.symm)
    have f_299 : Ary Z h_292 r .int [(.int (3 : Int32)), (.int x), (.int y), (.int z)] := f_281.sm (Sm.wr W_293 hn_r.symm)
    have f_300 : Ary Z h_292 a_265 (.array .long) [.null] := A_268.sm (Sm.wr W_293 n_270.symm)
    have f_301 : Ova Z h_292 a_265 .long "[J" := V_269.sm (Sm.wr W_293 n_270.symm)
    have t_302 : a < h_292.size := Nat.lt_of_lt_of_le t_284 (Nat.le_of_eq W_293.size.symm)
    have t_303 : o < h_292.size := Nat.lt_of_lt_of_le t_285 (Nat.le_of_eq W_293.size.symm)
    have t_304 : g < h_292.size := Nat.lt_of_lt_of_le t_286 (Nat.le_of_eq W_293.size.symm)
    have t_305 : r < h_292.size := Nat.lt_of_lt_of_le t_287 (Nat.le_of_eq W_293.size.symm)
    have t_306 : a_265 < h_292.size := Nat.lt_of_lt_of_le t_291 (Nat.le_of_eq W_293.size.symm)
    have z_307 : n0 ≤ h_292.size := Nat.le_trans z_288 (Nat.le_of_eq W_293.size.symm)
    have b_308 : h0.size ≤ h_292.size := Nat.le_trans b_289 (Nat.le_of_eq W_293.size.symm)
    have K_309 : Keep h0 h_292 [a] := K_290.wr W_293 (Or.inl (List.mem_of_getElem? (i := 0) rfl))
    have f_310 : Fld Z h_292 a "com/example/nearword/nearword/internal/index/PointBits" "words" "I" (.int d_243) := Fld.other W_293 f_282 (Or.inr (slot_ne (Or.inl (hw _ (List.mem_of_getElem? (i := 46) rfl))) (Or.inl (hw _ (List.mem_of_getElem? (i := 51) rfl))) (by decide) (t := .int) (t' := (.array (.array .long))) (by decide) (by decide)))
    have f_311 : Fld Z h_292 a "com/example/nearword/nearword/internal/index/PointBits" "chunks" "[[J" (.ref a_265) := Fld.same W_293 f_283
    refine Go.iconst (pc' := 44) (v := (0 : Int32)) d7_43 rfl rfl ?_
    refine Go.istoreN (pc' := 45) (Ls' := #[.val (.ref a), .val (.ref o), .val (.int t), .val (.int (0 : Int32)), .unset, .unset, .unset, .unset, .unset, .unset]) d7_44 rfl rfl ?_
    refine Go.iloadN (pc' := 46) d7_45 rfl rfl ?_
    refine Go.aloadN (pc' := 47) d7_46 rfl rfl rfl ?_
    refine Go.getF (pc' := 50) (hw _ (List.mem_of_getElem? (i := 50) rfl)) f_311 d7_47 rfl ?_
    refine Go.alen (pc' := 51) (z := (1 : Int32)) f_300 rfl d7_50 rfl ?_
    refine Go.icmp (pc1 := 84) (pc2 := 54) d7_51 (by decide) (by decide) rfl (fun (c_312 : (1 : Int) ≤ (0 : Int)) => ?_) (fun (c_312 : (0 : Int) < (1 : Int)) => ?_)
    · exact absurd c_312 (by decide)
    refine Go.aloadN (pc' := 55) d7_54 rfl rfl rfl ?_
    refine Go.getF (pc' := 58) (hw _ (List.mem_of_getElem? (i := 50) rfl)) f_311 d7_55 rfl ?_
    refine Go.iloadN (pc' := 59) d7_58 rfl rfl ?_
    refine Go.sipush (pc' := 62) (v := (8192 : Int32)) d7_59 rfl rfl ?_
    refine Go.aloadN (pc' := 63) d7_62 rfl rfl rfl ?_
    refine Go.getF (pc' := 66) (hw _ (List.mem_of_getElem? (i := 45) rfl)) f_310 d7_63 rfl ?_
    refine Go.iloadN (pc' := 67) d7_66 rfl rfl ?_
    refine Go.sipush (pc' := 70) (v := (8192 : Int32)) d7_67 rfl rfl ?_
    refine Go.imul (pc' := 71) d7_70 rfl ?_
    show (Go false l ({ frames := 2, cells := 3, slots := 9235, locals := 27 } : Room) Z (⟨"com/example/nearword/nearword/internal/index/PointBits", "<init>", "(Lcom/example/nearword/nearword/internal/index/IntList;I)V"⟩ : MethodName) prog_49_method_1_code 10 none n0 3 9235 (fun v h => v = none ∧ Keep h0 h [a] ∧ ((∃ (g c0 : Addr) (W0 : List Int64), Exa Z h a "com/example/nearword/nearword/internal/index/PointBits" ∧ Fld Z h a "com/example/nearword/nearword/internal/index/PointBits" "chunks" "[[J" (.ref g) ∧ Ary Z h g (.array .long) [.ref c0] ∧ Ary Z h c0 .long (W0.map Value.long) ∧ W0.length ≤ 8192 ∧ ∀ f : Nat, (own_bt W0 f = true ↔ ((f : Int) = x.toInt ∨ (f : Int) = y.toInt ∨ (f : Int) = z.toInt))) ∨ (∃ (g c0 c1 : Addr) (W0 W1 : List Int64), Exa Z h a "com/example/nearword/nearword/internal/index/PointBits" ∧ Fld Z h a "com/example/nearword/nearword/internal/index/PointBits" "chunks" "[[J" (.ref g) ∧ Ary Z h g (.array .long) [.ref c0, .ref c1] ∧ Ary Z h c0 .long (W0.map Value.long) ∧ Ary Z h c1 .long (W1.map Value.long) ∧ W0.length = 8192 ∧ W1.length ≤ 8192 ∧ ∀ f : Nat, (own_bt (W0 ++ W1) f = true ↔ ((f : Int) = x.toInt ∨ (f : Int) = y.toInt ∨ (f : Int) = z.toInt)))))) h_292 (0 + 0 + 1) (0 + 0 + 1) 71 #[.val (.ref a), .val (.ref o), .val (.int t), .val (.int (0 : Int32)), .unset, .unset, .unset, .unset, .unset, .unset] [(.int (0 : Int32)), (.int d_243), (.int (8192 : Int32)), (.int (0 : Int32)), (.ref a_265)]
    refine Go.isub (pc' := 72) d7_71 rfl ?_
    generalize ev_313 : d_243 - (0 : Int32) = v_313
    have k_314 : v_313.toInt = d_243.toInt - 0 := by
      rw [← ev_313]
      have : (0 : Int32).toInt = 0 := by decide
      have := c_isub d_243 (0 : Int32)
      have := rng32 (d_243 - (0 : Int32))
      have := rng32 d_243
      omega
    refine Go.callS (pc' := 75) (argsL := [(.int (8192 : Int32)), (.int v_313)]) (rest := [(.int (0 : Int32)), (.ref a_265)]) (W := 2) (hw _ (List.mem_of_getElem? (i := 52) rfl)) (hw _ (List.mem_of_getElem? (i := 2) rfl)) (hw _ (List.mem_of_getElem? (i := 3) rfl)) (hw _ (List.mem_of_getElem? (i := 4) rfl)) (by decide) (m_min l Z a0 hw (8192 : Int32) v_313 h_292 n0 z_307) d7_72 rfl pd4 rfl rfl (Nat.le_of_eq rfl) (by decide) (by decide) (by decide) (by decide) rfl ?_
    rintro _ _ ⟨s0, rfl, rfl, hs0⟩
    have z8 : (8192 : Int32).toInt = 8192 := rfl
    show (Go false l ({ frames := 2, cells := 3, slots := 9235, locals := 27 } : Room) Z (⟨"com/example/nearword/nearword/internal/index/PointBits", "<init>", "(Lcom/example/nearword/nearword/internal/index/IntList;I)V"⟩ : MethodName) prog_49_method_1_code 10 none n0 3 9235 (fun v h => v = none ∧ Keep h0 h [a] ∧ ((∃ (g c0 : Addr) (W0 : List Int64), Exa Z h a "com/example/nearword/nearword/internal/index/PointBits" ∧ Fld Z h a "com/example/nearword/nearword/internal/index/PointBits" "chunks" "[[J" (.ref g) ∧ Ary Z h g (.array .long) [.ref c0] ∧ Ary Z h c0 .long (W0.map Value.long) ∧ W0.length ≤ 8192 ∧ ∀ f : Nat, (own_bt W0 f = true ↔ ((f : Int) = x.toInt ∨ (f : Int) = y.toInt ∨ (f : Int) = z.toInt))) ∨ (∃ (g c0 c1 : Addr) (W0 W1 : List Int64), Exa Z h a "com/example/nearword/nearword/internal/index/PointBits" ∧ Fld Z h a "com/example/nearword/nearword/internal/index/PointBits" "chunks" "[[J" (.ref g) ∧ Ary Z h g (.array .long) [.ref c0, .ref c1] ∧ Ary Z h c0 .long (W0.map Value.long) ∧ Ary Z h c1 .long (W1.map Value.long) ∧ W0.length = 8192 ∧ W1.length ≤ 8192 ∧ ∀ f : Nat, (own_bt (W0 ++ W1) f = true ↔ ((f : Int) = x.toInt ∨ (f : Int) = y.toInt ∨ (f : Int) = z.toInt)))))) h_292 (0 + 0 + 1 + 0) (0 + 0 + 1 + 0) 75 #[.val (.ref a), .val (.ref o), .val (.int t), .val (.int (0 : Int32)), .unset, .unset, .unset, .unset, .unset, .unset] [(.int s0), (.int (0 : Int32)), (.ref a_265)]
    have ks0 : s0.toInt = d_243.toInt := by omega
    refine Go.newAE (pc' := 77) (k := s0.toInt.toNat) (ty := .long) (cap := 8192) (hw _ (List.mem_of_getElem? (i := 53) rfl)) rfl (ad := "[J") (by decide) (by omega) (by omega) (by decide) d7_75 (by decide) (by decide) rfl ?_
    intro h_315 a_316 q_317 E_318 A_319 X_320
    have n_321 : a ≠ a_316 := Nat.ne_of_lt (q_317 ▸ t_302)
    have n_322 : o ≠ a_316 := Nat.ne_of_lt (q_317 ▸ t_303)
    have n_323 : g ≠ a_316 := Nat.ne_of_lt (q_317 ▸ t_304)
    have n_324 : r ≠ a_316 := Nat.ne_of_lt (q_317 ▸ t_305)
    have n_325 : a_265 ≠ a_316 := Nat.ne_of_lt (q_317 ▸ t_306)
    have g_326 : n0 ≤ a_316 := q_317 ▸ z_307
    have g_327 : h0.size ≤ a_316 := q_317 ▸ b_308
    have f_328 : Exa Z h_315 a "com/example/nearword/nearword/internal/index/PointBits" := f_294.sm (Sm.ext E_318)
    have f_329 : Exa Z h_315 o "com/example/nearword/nearword/internal/index/IntList" := f_295.sm (Sm.ext E_318)
    have f_330 : Fld Z h_315 o "com/example/nearword/nearword/internal/index/IntList" "pieces" "[[I" (.ref g) := f_296.sm (Sm.ext E_318)
    have f_331 : Fld Z h_315 o "com/example/nearword/nearword/internal/index/IntList" "start" "I" (.int (0 : Int32)) := f_297.sm (Sm.ext E_318)
    have f_332 : Ary Z h_315 g (.array .int) [(.ref r)] := f_298.sm (Sm.ext E_318)
    have f_333 : Ary Z h_315 r .int [(.int (3 : Int32)), (.int x), (.int y), (.int z)] := f_299.sm (Sm.ext E_318)
    have f_334 : Ary Z h_315 a_265 (.array .long) [.null] := f_300.sm (Sm.ext E_318)
    have f_335 : Ova Z h_315 a_265 .long "[J" := f_301.sm (Sm.ext E_318)
    have f_336 : Fld Z h_315 a "com/example/nearword/nearword/internal/index/PointBits" "words" "I" (.int d_243) := f_310.sm (Sm.ext E_318)
    have f_337 : Fld Z h_315 a "com/example/nearword/nearword/internal/index/PointBits" "chunks" "[[J" (.ref a_265) := f_311.sm (Sm.ext E_318)
    have t_338 : a < h_315.size := Nat.lt_of_lt_of_le t_302 E_318.1
    have t_339 : o < h_315.size := Nat.lt_of_lt_of_le t_303 E_318.1
    have t_340 : g < h_315.size := Nat.lt_of_lt_of_le t_304 E_318.1
    have t_341 : r < h_315.size := Nat.lt_of_lt_of_le t_305 E_318.1
    have t_342 : a_265 < h_315.size := Nat.lt_of_lt_of_le t_306 E_318.1
    have z_343 : n0 ≤ h_315.size := Nat.le_trans z_307 E_318.1
    have b_344 : h0.size ≤ h_315.size := Nat.le_trans b_308 E_318.1
    have K_345 : Keep h0 h_315 [a] := K_309.ext E_318
    have t_346 : a_316 < h_315.size := A_319.lt
    have y0 : Ary Z h_315 a_316 .long ((List.replicate (s0.toInt.toNat) (0 : Int64)).map Value.long) := A_319.eq (by simp [defaultValue])
    obtain ⟨X0, hX0⟩ : ∃ W : List Int64, W = List.replicate (s0.toInt.toNat) (0 : Int64) := ⟨_, rfl⟩
    rw [← hX0] at y0
    have lx0 : X0.length = s0.toInt.toNat := by rw [hX0]; simp
    refine Go.stR (pc' := 78) (k := 0) f_334 rfl (Sto.ova f_334 f_335 X_320) rfl (by show 0 < 1; decide) d7_77 g_274 rfl ?_
    intro h_347 W_348 A_349
    have f_350 : Exa Z h_347 a "com/example/nearword/nearword/internal/index/PointBits" := f_328.sm (Sm.wr W_348 n_270)
    have f_351 : Exa Z h_347 o "com/example/nearword/nearword/internal/index/IntList" := f_329.sm (Sm.wr W_348 n_271)
    have f_352 : Fld Z h_347 o "com/example/nearword/nearword/internal/index/IntList" "pieces" "[[I" (.ref g) := f_330.sm (Sm.wr W_348 n_271)
    have f_353 : Fld Z h_347 o "com/example/nearword/nearword/internal/index/IntList" "start" "I" (.int (0 : Int32)) := f_331.sm (Sm.wr W_348 n_271)
    have f_354 : Ary Z h_347 g (.array .int) [(.ref r)] := f_332.sm (Sm.wr W_348 n_272)
    have f_355 : Ary Z h_347 r .int [(.int (3 : Int32)), (.int x), (.int y), (.int z)] := f_333.sm (Sm.wr W_348 n_273)
    have f_356 : Ova Z h_347 a_265 .long "[J" := Ova.wr W_348 f_335
    have f_357 : Fld Z h_347 a "com/example/nearword/nearword/internal/index/PointBits" "words" "I" (.int d_243) := f_336.sm (Sm.wr W_348 n_270)
    have f_358 : Fld Z h_347 a "com/example/nearword/nearword/internal/index/PointBits" "chunks" "[[J" (.ref a_265) := f_337.sm (Sm.wr W_348 n_270)
    have f_359 : Ary Z h_347 a_316 .long (X0.map Value.long) := y0.sm (Sm.wr W_348 n_325.symm)
    have f_360 : Exa Z h_347 a_316 "[J" := X_320.sm (Sm.wr W_348 n_325.symm)
    have t_361 : a < h_347.size := Nat.lt_of_lt_of_le t_338 (Nat.le_of_eq W_348.size.symm)
    have t_362 : o < h_347.size := Nat.lt_of_lt_of_le t_339 (Nat.le_of_eq W_348.size.symm)
    have t_363 : g < h_347.size := Nat.lt_of_lt_of_le t_340 (Nat.le_of_eq W_348.size.symm)
    have t_364 : r < h_347.size := Nat.lt_of_lt_of_le t_341 (Nat.le_of_eq W_348.size.symm)
    have t_365 : a_265 < h_347.size := Nat.lt_of_lt_of_le t_342 (Nat.le_of_eq W_348.size.symm)
    have t_366 : a_316 < h_347.size := Nat.lt_of_lt_of_le t_346 (Nat.le_of_eq W_348.size.symm)
    have z_367 : n0 ≤ h_347.size := Nat.le_trans z_343 (Nat.le_of_eq W_348.size.symm)
    have b_368 : h0.size ≤ h_347.size := Nat.le_trans b_344 (Nat.le_of_eq W_348.size.symm)
    have K_369 : Keep h0 h_347 [a] := K_345.wr W_348 (Or.inr g_275)
    change Ary Z h_347 a_265 (.array .long) [(.ref a_316)] at A_349
    refine Go.iinc (pc' := 81) (w := (1 : Int32)) (Ls' := #[.val (.ref a), .val (.ref o), .val (.int t), .val (.int (1 : Int32)), .unset, .unset, .unset, .unset, .unset, .unset]) d7_78 rfl rfl rfl rfl ?_
    refine Go.goto (pc' := 45) d7_81 (by decide) (by decide) ?_
    refine Go.iloadN (pc' := 46) d7_45 rfl rfl ?_
    refine Go.aloadN (pc' := 47) d7_46 rfl rfl rfl ?_
    refine Go.getF (pc' := 50) (hw _ (List.mem_of_getElem? (i := 50) rfl)) f_358 d7_47 rfl ?_
    refine Go.alen (pc' := 51) (z := (1 : Int32)) A_349 rfl d7_50 rfl ?_
    have b0 : ∀ f : Nat, (own_bt X0 f = true ↔ ((0 : Int) = 1)) := fun f => by rw [hX0]; exact ⟨fun q => absurd q (own_zero _ _), fun q => by omega⟩
    have lw : X0.length ≤ 8192 ∧ (X0.length : Int) = d_243.toInt := by omega
    refine Go.icmp (pc1 := 84) (pc2 := 54) d7_51 (by decide) (by decide) rfl (fun (c_370 : (1 : Int) ≤ (1 : Int)) => ?_) (fun (c_370 : (1 : Int) < (1 : Int)) => ?_)
    rotate_left
    · exact absurd c_370 (by decide)
    refine Go.iconst (pc' := 85) (v := (0 : Int32)) d7_84 rfl rfl ?_
    refine Go.istoreN (pc' := 86) (Ls' := #[.val (.ref a), .val (.ref o), .val (.int t), .val (.int (0 : Int32)), .unset, .unset, .unset, .unset, .unset, .unset]) d7_85 rfl rfl ?_
    refine Go.iloadN (pc' := 87) d7_86 rfl rfl ?_
    refine Go.aloadN (pc' := 88) d7_87 rfl rfl rfl ?_
    refine Go.callV (pc' := 91) (argsL := []) (rest := [(.int (0 : Int32))]) (W := 1) (hw _ (List.mem_of_getElem? (i := 55) rfl)) (hw _ (List.mem_of_getElem? (i := 56) rfl)) (hw _ (List.mem_of_getElem? (i := 58) rfl)) (hw _ (List.mem_of_getElem? (i := 57) rfl)) (hw _ (List.mem_of_getElem? (i := 14) rfl)) (hw _ (List.mem_of_getElem? (i := 59) rfl)) (by decide) f_351 (m_ps l Z a0 hw o g r x y z h_347 n0 z_367 f_351 f_352 f_353 f_354 f_355) d7_88 rfl pd2 rfl rfl (Nat.le_of_eq rfl) (by decide) (by decide) (by decide) (by decide) rfl ?_
    rintro _ _ ⟨rfl, rfl⟩
    show (Go false l ({ frames := 2, cells := 3, slots := 9235, locals := 27 } : Room) Z (⟨"com/example/nearword/nearword/internal/index/PointBits", "<init>", "(Lcom/example/nearword/nearword/internal/index/IntList;I)V"⟩ : MethodName) prog_49_method_1_code 10 none n0 3 9235 (fun v h => v = none ∧ Keep h0 h [a] ∧ ((∃ (g c0 : Addr) (W0 : List Int64), Exa Z h a "com/example/nearword/nearword/internal/index/PointBits" ∧ Fld Z h a "com/example/nearword/nearword/internal/index/PointBits" "chunks" "[[J" (.ref g) ∧ Ary Z h g (.array .long) [.ref c0] ∧ Ary Z h c0 .long (W0.map Value.long) ∧ W0.length ≤ 8192 ∧ ∀ f : Nat, (own_bt W0 f = true ↔ ((f : Int) = x.toInt ∨ (f : Int) = y.toInt ∨ (f : Int) = z.toInt))) ∨ (∃ (g c0 c1 : Addr) (W0 W1 : List Int64), Exa Z h a "com/example/nearword/nearword/internal/index/PointBits" ∧ Fld Z h a "com/example/nearword/nearword/internal/index/PointBits" "chunks" "[[J" (.ref g) ∧ Ary Z h g (.array .long) [.ref c0, .ref c1] ∧ Ary Z h c0 .long (W0.map Value.long) ∧ Ary Z h c1 .long (W1.map Value.long) ∧ W0.length = 8192 ∧ W1.length ≤ 8192 ∧ ∀ f : Nat, (own_bt (W0 ++ W1) f = true ↔ ((f : Int) = x.toInt ∨ (f : Int) = y.toInt ∨ (f : Int) = z.toInt)))))) h_347 (0 + 0 + 1 + 0 + 1 + 0) (0 + 0 + 1 + 0 + 8192 + 0) 91 #[.val (.ref a), .val (.ref o), .val (.int t), .val (.int (0 : Int32)), .unset, .unset, .unset, .unset, .unset, .unset] [(.int (1 : Int32)), (.int (0 : Int32))]
    refine Go.icmp (pc1 := 189) (pc2 := 94) d7_91 (by decide) (by decide) rfl (fun (c_371 : (1 : Int) ≤ (0 : Int)) => ?_) (fun (c_371 : (0 : Int) < (1 : Int)) => ?_)
    · exact absurd c_371 (by decide)
    refine Go.aloadN (pc' := 95) d7_94 rfl rfl rfl ?_
    refine Go.iloadN (pc' := 96) d7_95 rfl rfl ?_
    refine Go.callV (pc' := 99) (argsL := [(.int (0 : Int32))]) (rest := []) (W := 0) (hw _ (List.mem_of_getElem? (i := 60) rfl)) (hw _ (List.mem_of_getElem? (i := 61) rfl)) (hw _ (List.mem_of_getElem? (i := 63) rfl)) (hw _ (List.mem_of_getElem? (i := 62) rfl)) (hw _ (List.mem_of_getElem? (i := 14) rfl)) (hw _ (List.mem_of_getElem? (i := 64) rfl)) (by decide) f_351 (m_pc l Z a0 hw o g r x y z h_347 n0 z_367 f_351 f_352 f_353 f_354 f_355) d7_96 rfl pd5 rfl rfl (Nat.le_of_eq rfl) (by decide) (by decide) (by decide) (by decide) rfl ?_
    rintro _ _ ⟨rfl, rfl⟩
    show (Go false l ({ frames := 2, cells := 3, slots := 9235, locals := 27 } : Room) Z (⟨"com/example/nearword/nearword/internal/index/PointBits", "<init>", "(Lcom/example/nearword/nearword/internal/index/IntList;I)V"⟩ : MethodName) prog_49_method_1_code 10 none n0 3 9235 (fun v h => v = none ∧ Keep h0 h [a] ∧ ((∃ (g c0 : Addr) (W0 : List Int64), Exa Z h a "com/example/nearword/nearword/internal/index/PointBits" ∧ Fld Z h a "com/example/nearword/nearword/internal/index/PointBits" "chunks" "[[J" (.ref g) ∧ Ary Z h g (.array .long) [.ref c0] ∧ Ary Z h c0 .long (W0.map Value.long) ∧ W0.length ≤ 8192 ∧ ∀ f : Nat, (own_bt W0 f = true ↔ ((f : Int) = x.toInt ∨ (f : Int) = y.toInt ∨ (f : Int) = z.toInt))) ∨ (∃ (g c0 c1 : Addr) (W0 W1 : List Int64), Exa Z h a "com/example/nearword/nearword/internal/index/PointBits" ∧ Fld Z h a "com/example/nearword/nearword/internal/index/PointBits" "chunks" "[[J" (.ref g) ∧ Ary Z h g (.array .long) [.ref c0, .ref c1] ∧ Ary Z h c0 .long (W0.map Value.long) ∧ Ary Z h c1 .long (W1.map Value.long) ∧ W0.length = 8192 ∧ W1.length ≤ 8192 ∧ ∀ f : Nat, (own_bt (W0 ++ W1) f = true ↔ ((f : Int) = x.toInt ∨ (f : Int) = y.toInt ∨ (f : Int) = z.toInt)))))) h_347 (0 + 0 + 1 + 0 + 1 + 0 + 0) (0 + 0 + 1 + 0 + 8192 + 0 + 0) 99 #[.val (.ref a), .val (.ref o), .val (.int t), .val (.int (0 : Int32)), .unset, .unset, .unset, .unset, .unset, .unset] [(.ref r)]
    refine Go.astore (pc' := 101) (Ls' := #[.val (.ref a), .val (.ref o), .val (.int t), .val (.int (0 : Int32)), .val (.ref r), .unset, .unset, .unset, .unset, .unset]) d7_99 rfl rfl rfl ?_
    refine Go.aloadN (pc' := 102) d7_101 rfl rfl rfl ?_
    refine Go.iloadN (pc' := 103) d7_102 rfl rfl ?_
    refine Go.callV (pc' := 106) (argsL := [(.int (0 : Int32))]) (rest := []) (W := 0) (hw _ (List.mem_of_getElem? (i := 65) rfl)) (hw _ (List.mem_of_getElem? (i := 66) rfl)) (hw _ (List.mem_of_getElem? (i := 68) rfl)) (hw _ (List.mem_of_getElem? (i := 67) rfl)) (hw _ (List.mem_of_getElem? (i := 14) rfl)) (hw _ (List.mem_of_getElem? (i := 69) rfl)) (by decide) f_351 (m_to l Z a0 hw o g r x y z h_347 n0 z_367 f_351 f_352 f_353 f_354 f_355) d7_103 rfl pd3 rfl rfl (Nat.le_of_eq rfl) (by decide) (by decide) (by decide) (by decide) rfl ?_
    rintro _ _ ⟨rfl, rfl⟩
    show (Go false l ({ frames := 2, cells := 3, slots := 9235, locals := 27 } : Room) Z (⟨"com/example/nearword/nearword/internal/index/PointBits", "<init>", "(Lcom/example/nearword/nearword/internal/index/IntList;I)V"⟩ : MethodName) prog_49_method_1_code 10 none n0 3 9235 (fun v h => v = none ∧ Keep h0 h [a] ∧ ((∃ (g c0 : Addr) (W0 : List Int64), Exa Z h a "com/example/nearword/nearword/internal/index/PointBits" ∧ Fld Z h a "com/example/nearword/nearword/internal/index/PointBits" "chunks" "[[J" (.ref g) ∧ Ary Z h g (.array .long) [.ref c0] ∧ Ary Z h c0 .long (W0.map Value.long) ∧ W0.length ≤ 8192 ∧ ∀ f : Nat, (own_bt W0 f = true ↔ ((f : Int) = x.toInt ∨ (f : Int) = y.toInt ∨ (f : Int) = z.toInt))) ∨ (∃ (g c0 c1 : Addr) (W0 W1 : List Int64), Exa Z h a "com/example/nearword/nearword/internal/index/PointBits" ∧ Fld Z h a "com/example/nearword/nearword/internal/index/PointBits" "chunks" "[[J" (.ref g) ∧ Ary Z h g (.array .long) [.ref c0, .ref c1] ∧ Ary Z h c0 .long (W0.map Value.long) ∧ Ary Z h c1 .long (W1.map Value.long) ∧ W0.length = 8192 ∧ W1.length ≤ 8192 ∧ ∀ f : Nat, (own_bt (W0 ++ W1) f = true ↔ ((f : Int) = x.toInt ∨ (f : Int) = y.toInt ∨ (f : Int) = z.toInt)))))) h_347 (0 + 0 + 1 + 0 + 1 + 0 + 0 + 0) (0 + 0 + 1 + 0 + 8192 + 0 + 0 + 0) 106 #[.val (.ref a), .val (.ref o), .val (.int t), .val (.int (0 : Int32)), .val (.ref r), .unset, .unset, .unset, .unset, .unset] [(.int (4 : Int32))]
    refine Go.istore (pc' := 108) (Ls' := #[.val (.ref a), .val (.ref o), .val (.int t), .val (.int (0 : Int32)), .val (.ref r), .val (.int (4 : Int32)), .unset, .unset, .unset, .unset]) d7_106 rfl rfl ?_
    refine Go.aloadN (pc' := 109) d7_108 rfl rfl rfl ?_
    refine Go.callV (pc' := 112) (argsL := []) (rest := []) (W := 0) (hw _ (List.mem_of_getElem? (i := 79) rfl)) (hw _ (List.mem_of_getElem? (i := 71) rfl)) (hw _ (List.mem_of_getElem? (i := 73) rfl)) (hw _ (List.mem_of_getElem? (i := 72) rfl)) (hw _ (List.mem_of_getElem? (i := 14) rfl)) (hw _ (List.mem_of_getElem? (i := 74) rfl)) (by decide) f_351 (m_fr l Z a0 hw o g r x y z h_347 n0 z_367 f_351 f_352 f_353 f_354 f_355) d7_109 rfl pd2 rfl rfl (Nat.le_of_eq rfl) (by decide) (by decide) (by decide) (by decide) rfl ?_
    rintro _ _ ⟨rfl, rfl⟩
    show (Go false l ({ frames := 2, cells := 3, slots := 9235, locals := 27 } : Room) Z (⟨"com/example/nearword/nearword/internal/index/PointBits", "<init>", "(Lcom/example/nearword/nearword/internal/index/IntList;I)V"⟩ : MethodName) prog_49_method_1_code 10 none n0 3 9235 (fun v h => v = none ∧ Keep h0 h [a] ∧ ((∃ (g c0 : Addr) (W0 : List Int64), Exa Z h a "com/example/nearword/nearword/internal/index/PointBits" ∧ Fld Z h a "com/example/nearword/nearword/internal/index/PointBits" "chunks" "[[J" (.ref g) ∧ Ary Z h g (.array .long) [.ref c0] ∧ Ary Z h c0 .long (W0.map Value.long) ∧ W0.length ≤ 8192 ∧ ∀ f : Nat, (own_bt W0 f = true ↔ ((f : Int) = x.toInt ∨ (f : Int) = y.toInt ∨ (f : Int) = z.toInt))) ∨ (∃ (g c0 c1 : Addr) (W0 W1 : List Int64), Exa Z h a "com/example/nearword/nearword/internal/index/PointBits" ∧ Fld Z h a "com/example/nearword/nearword/internal/index/PointBits" "chunks" "[[J" (.ref g) ∧ Ary Z h g (.array .long) [.ref c0, .ref c1] ∧ Ary Z h c0 .long (W0.map Value.long) ∧ Ary Z h c1 .long (W1.map Value.long) ∧ W0.length = 8192 ∧ W1.length ≤ 8192 ∧ ∀ f : Nat, (own_bt (W0 ++ W1) f = true ↔ ((f : Int) = x.toInt ∨ (f : Int) = y.toInt ∨ (f : Int) = z.toInt)))))) h_347 (0 + 0 + 1 + 0 + 1 + 0 + 0 + 0 + 0) (0 + 0 + 1 + 0 + 8192 + 0 + 0 + 0 + 0) 112 #[.val (.ref a), .val (.ref o), .val (.int t), .val (.int (0 : Int32)), .val (.ref r), .val (.int (4 : Int32)), .unset, .unset, .unset, .unset] [(.int (1 : Int32))]
    refine Go.istore (pc' := 114) (Ls' := #[.val (.ref a), .val (.ref o), .val (.int t), .val (.int (0 : Int32)), .val (.ref r), .val (.int (4 : Int32)), .val (.int (1 : Int32)), .unset, .unset, .unset]) d7_112 rfl rfl ?_
    refine Go.iload (pc' := 116) d7_114 rfl rfl ?_
    refine Go.iload (pc' := 118) d7_116 rfl rfl ?_
    refine Go.icmp (pc1 := 183) (pc2 := 121) d7_118 (by decide) (by decide) rfl (fun (c_372 : (4 : Int) ≤ (1 : Int)) => ?_) (fun (c_372 : (1 : Int) < (4 : Int)) => ?_)
    · exact absurd c_372 (by decide)
    refine Go.aload (pc' := 123) d7_121 rfl rfl rfl ?_
    refine Go.iload (pc' := 125) d7_123 rfl rfl ?_
    refine Go.ldI (pc' := 126) (k := 1) (v := (.int x)) f_355 rfl rfl d7_125 rfl ?_
    refine Go.bipush (pc' := 128) (v := (6 : Int32)) d7_126 rfl rfl ?_
    refine Go.iushr (pc' := 129) d7_128 rfl ?_
    generalize ew_373 : (x.toUInt32 >>> ((6 : Int32) &&& 31).toUInt32).toInt32 = w_373
    have k_374 : w_373.toInt = x.toInt / 64 := by
      rw [← ew_373]
      have : (6 : Int32).toInt = 6 := by decide
      have := c_iushr x (6 : Int32) 6 (by decide) (by decide)
      have := rng32 ((x.toUInt32 >>> ((6 : Int32) &&& 31).toUInt32).toInt32)
      have := rng32 x
      omega
    refine Go.istore (pc' := 131) (Ls' := #[.val (.ref a), .val (.ref o), .val (.int t), .val (.int (0 : Int32)), .val (.ref r), .val (.int (4 : Int32)), .val (.int (1 : Int32)), .val (.int w_373), .unset, .unset]) d7_129 rfl rfl ?_
    refine Go.lconst (pc' := 132) (v := (0 : Int64)) d7_131 rfl rfl ?_
    refine Go.lstore (pc' := 134) (Ls' := #[.val (.ref a), .val (.ref o), .val (.int t), .val (.int (0 : Int32)), .val (.ref r), .val (.int (4 : Int32)), .val (.int (1 : Int32)), .val (.int w_373), .val (.long (0 : Int64)), .second]) d7_132 rfl rfl ?_
    refine Go.iload (pc' := 136) d7_134 rfl rfl ?_
    refine Go.iload (pc' := 138) d7_136 rfl rfl ?_
    refine Go.icmp (pc1 := 172) (pc2 := 141) d7_138 (by decide) (by decide) rfl (fun (c_375 : (4 : Int) ≤ (1 : Int)) => ?_) (fun (c_375 : (1 : Int) < (4 : Int)) => ?_)
    · exact absurd c_375 (by decide)
    refine Go.aload (pc' := 143) d7_141 rfl rfl rfl ?_
    refine Go.iload (pc' := 145) d7_143 rfl rfl ?_
    refine Go.ldI (pc' := 146) (k := 1) (v := (.int x)) f_355 rfl rfl d7_145 rfl ?_
    refine Go.bipush (pc' := 148) (v := (6 : Int32)) d7_146 rfl rfl ?_
    refine Go.iushr (pc' := 149) d7_148 rfl ?_
    generalize eu_376 : (x.toUInt32 >>> ((6 : Int32) &&& 31).toUInt32).toInt32 = u_376
    have k_377 : u_376.toInt = x.toInt / 64 := by
      rw [← eu_376]
      have : (6 : Int32).toInt = 6 := by decide
      have := c_iushr x (6 : Int32) 6 (by decide) (by decide)
      have := rng32 ((x.toUInt32 >>> ((6 : Int32) &&& 31).toUInt32).toInt32)
      have := rng32 x
      omega
    refine Go.iload (pc' := 151) d7_149 rfl rfl ?_
    refine Go.icmp (pc1 := 172) (pc2 := 154) d7_151 (by decide) (by decide) rfl (fun (c_378 : u_376.toInt ≠ w_373.toInt) => ?_) (fun (c_378 : u_376.toInt = w_373.toInt) => ?_)
    · exfalso; omega
    refine Go.lload (pc' := 156) d7_154 rfl rfl ?_
    refine Go.lconst (pc' := 157) (v := (1 : Int64)) d7_156 rfl rfl ?_
    refine Go.aload (pc' := 159) d7_157 rfl rfl rfl ?_
    refine Go.iload (pc' := 161) d7_159 rfl rfl ?_
    refine Go.ldI (pc' := 162) (k := 1) (v := (.int x)) f_355 rfl rfl d7_161 rfl ?_
    refine Go.lshl (pc' := 163) d7_162 rfl ?_
    refine Go.lor (pc' := 164) d7_163 rfl ?_
    generalize eb_379 : (0 : Int64) ||| ((1 : Int64) <<< (x &&& 0x3f).toInt64) = b_379
    have hb_b_379 : ∀ j : Nat, j < 64 → (b_379.toBitVec.getLsbD j = true ↔ (j = x.toInt.toNat % 64)) := fun j hj => by
      rw [← eb_379]
      exact (own_orb _ x (by omega) j hj _ (own_z0 j)).trans (iff_of_eq (false_or _))
    refine Go.lstore (pc' := 166) (Ls' := #[.val (.ref a), .val (.ref o), .val (.int t), .val (.int (0 : Int32)), .val (.ref r), .val (.int (4 : Int32)), .val (.int (1 : Int32)), .val (.int w_373), .val (.long b_379), .second]) d7_164 rfl rfl ?_
    refine Go.iinc (pc' := 169) (w := (2 : Int32)) (Ls' := #[.val (.ref a), .val (.ref o), .val (.int t), .val (.int (0 : Int32)), .val (.ref r), .val (.int (4 : Int32)), .val (.int (2 : Int32)), .val (.int w_373), .val (.long b_379), .second]) d7_166 rfl rfl rfl rfl ?_
    refine Go.goto (pc' := 134) d7_169 (by decide) (by decide) ?_
    refine Go.iload (pc' := 136) d7_134 rfl rfl ?_
    refine Go.iload (pc' := 138) d7_136 rfl rfl ?_
    refine Go.icmp (pc1 := 172) (pc2 := 141) d7_138 (by decide) (by decide) rfl (fun (c_380 : (4 : Int) ≤ (2 : Int)) => ?_) (fun (c_380 : (2 : Int) < (4 : Int)) => ?_)
    · exact absurd c_380 (by decide)
    refine Go.aload (pc' := 143) d7_141 rfl rfl rfl ?_
    refine Go.iload (pc' := 145) d7_143 rfl rfl ?_
    refine Go.ldI (pc' := 146) (k := 2) (v := (.int y)) f_355 rfl rfl d7_145 rfl ?_
    refine Go.bipush (pc' := 148) (v := (6 : Int32)) d7_146 rfl rfl ?_
    refine Go.iushr (pc' := 149) d7_148 rfl ?_
    generalize eu_381 : (y.toUInt32 >>> ((6 : Int32) &&& 31).toUInt32).toInt32 = u_381
    have k_382 : u_381.toInt = y.toInt / 64 := by
      rw [← eu_381]
      have : (6 : Int32).toInt = 6 := by decide
      have := c_iushr y (6 : Int32) 6 (by decide) (by decide)
      have := rng32 ((y.toUInt32 >>> ((6 : Int32) &&& 31).toUInt32).toInt32)
      have := rng32 y
      omega
    refine Go.iload (pc' := 151) d7_149 rfl rfl ?_
    refine Go.icmp (pc1 := 172) (pc2 := 154) d7_151 (by decide) (by decide) rfl (fun (c_383 : u_381.toInt ≠ w_373.toInt) => ?_) (fun (c_383 : u_381.toInt = w_373.toInt) => ?_)
    · refine Go.aloadN (pc' := 173) d7_172 rfl rfl rfl ?_
      refine Go.iload (pc' := 175) d7_173 rfl rfl ?_
      refine Go.lload (pc' := 177) d7_175 rfl rfl ?_
      refine Go.callP (pc' := 180) (argsL := [(.int w_373), (.long b_379)]) (rest := []) (W := 0) (hw _ (List.mem_of_getElem? (i := 80) rfl)) (hw _ (List.mem_of_getElem? (i := 81) rfl)) (hw _ (List.mem_of_getElem? (i := 82) rfl)) (hw _ (List.mem_of_getElem? (i := 10) rfl)) (hw _ (List.mem_of_getElem? (i := 83) rfl)) (hw _ (List.mem_of_getElem? (i := 87) rfl)) rfl (by decide) f_350 (m_ab1 l Z a0 hw a a_265 a_316 X0 w_373 b_379 h_347 n0 z_367 f_350 f_358 A_349 f_359 (by omega) (by omega) (by omega) g_326 n_321 n_325) d7_177 rfl pd6 rfl rfl (Nat.le_of_eq rfl) (by decide) (by decide) (by decide) (by decide) rfl ?_
      rintro _ h_384 ⟨rfl, V_386, K_385, A_387, l_388, hbt0⟩
      have f_389 : Exa Z h_384 a "com/example/nearword/nearword/internal/index/PointBits" := f_350.sm (Sm.keep K_385 (ninS n_321 nin0))
      have f_390 : Exa Z h_384 o "com/example/nearword/nearword/internal/index/IntList" := f_351.sm (Sm.keep K_385 (ninS n_322 nin0))
      have f_391 : Fld Z h_384 o "com/example/nearword/nearword/internal/index/IntList" "pieces" "[[I" (.ref g) := f_352.sm (Sm.keep K_385 (ninS n_322 nin0))
      have f_392 : Fld Z h_384 o "com/example/nearword/nearword/internal/index/IntList" "start" "I" (.int (0 : Int32)) := f_353.sm (Sm.keep K_385 (ninS n_322 nin0))
      have f_393 : Ary Z h_384 g (.array .int) [(.ref r)] := f_354.sm (Sm.keep K_385 (ninS n_323 nin0))
      have f_394 : Ary Z h_384 r .int [(.int (3 : Int32)), (.int x), (.int y), (.int z)] := f_355.sm (Sm.keep K_385 (ninS n_324 nin0))
      have f_395 : Ova Z h_384 a_265 .long "[J" := f_356.sm (Sm.keep K_385 (ninS n_325 nin0))
      have f_396 : Fld Z h_384 a "com/example/nearword/nearword/internal/index/PointBits" "words" "I" (.int d_243) := f_357.sm (Sm.keep K_385 (ninS n_321 nin0))
      have f_397 : Fld Z h_384 a "com/example/nearword/nearword/internal/index/PointBits" "chunks" "[[J" (.ref a_265) := f_358.sm (Sm.keep K_385 (ninS n_321 nin0))
      have f_399 : Exa Z h_384 a_316 "[J" := f_360.keep K_385
      have f_400 : Ary Z h_384 a_265 (.array .long) [(.ref a_316)] := A_349.sm (Sm.keep K_385 (ninS n_325 nin0))
      have t_401 : a < h_384.size := Nat.lt_of_lt_of_le t_361 K_385.1
      have t_402 : o < h_384.size := Nat.lt_of_lt_of_le t_362 K_385.1
      have t_403 : g < h_384.size := Nat.lt_of_lt_of_le t_363 K_385.1
      have t_404 : r < h_384.size := Nat.lt_of_lt_of_le t_364 K_385.1
      have t_405 : a_265 < h_384.size := Nat.lt_of_lt_of_le t_365 K_385.1
      have t_406 : a_316 < h_384.size := Nat.lt_of_lt_of_le t_366 K_385.1
      have z_407 : n0 ≤ h_384.size := Nat.le_trans z_367 K_385.1
      have b_408 : h0.size ≤ h_384.size := Nat.le_trans b_368 K_385.1
      have K_409 : Keep h0 h_384 [a] := K_369.trans K_385 (allS (Or.inr g_327) all0)
      have bb1 : ∀ f : Nat, (own_bt V_386 f = true ↔ ((f : Int) = x.toInt)) := fun f => by
        rw [hbt0 f, b0 f, hb_b_379 (f % 64) (Nat.mod_lt _ (by decide))]
        omega
      show (Go false l ({ frames := 2, cells := 3, slots := 9235, locals := 27 } : Room) Z (⟨"com/example/nearword/nearword/internal/index/PointBits", "<init>", "(Lcom/example/nearword/nearword/internal/index/IntList;I)V"⟩ : MethodName) prog_49_method_1_code 10 none n0 3 9235 (fun v h => v = none ∧ Keep h0 h [a] ∧ ((∃ (g c0 : Addr) (W0 : List Int64), Exa Z h a "com/example/nearword/nearword/internal/index/PointBits" ∧ Fld Z h a "com/example/nearword/nearword/internal/index/PointBits" "chunks" "[[J" (.ref g) ∧ Ary Z h g (.array .long) [.ref c0] ∧ Ary Z h c0 .long (W0.map Value.long) ∧ W0.length ≤ 8192 ∧ ∀ f : Nat, (own_bt W0 f = true ↔ ((f : Int) = x.toInt ∨ (f : Int) = y.toInt ∨ (f : Int) = z.toInt))) ∨ (∃ (g c0 c1 : Addr) (W0 W1 : List Int64), Exa Z h a "com/example/nearword/nearword/internal/index/PointBits" ∧ Fld Z h a "com/example/nearword/nearword/internal/index/PointBits" "chunks" "[[J" (.ref g) ∧ Ary Z h g (.array .long) [.ref c0, .ref c1] ∧ Ary Z h c0 .long (W0.map Value.long) ∧ Ary Z h c1 .long (W1.map Value.long) ∧ W0.length = 8192 ∧ W1.length ≤ 8192 ∧ ∀ f : Nat, (own_bt (W0 ++ W1) f = true ↔ ((f : Int) = x.toInt ∨ (f : Int) = y.toInt ∨ (f : Int) = z.toInt)))))) h_384 (0 + 0 + 1 + 0 + 1 + 0 + 0 + 0 + 0 + 0) (0 + 0 + 1 + 0 + 8192 + 0 + 0 + 0 + 0 + 0) 180 #[.val (.ref a), .val (.ref o), .val (.int t), .val (.int (0 : Int32)), .val (.ref r), .val (.int (4 : Int32)), .val (.int (2 : Int32)), .val (.int w_373), .val (.long b_379), .second] []
      refine Go.goto (pc' := 114) d7_180 (by decide) (by decide) ?_
      refine Go.iload (pc' := 116) d7_114 rfl rfl ?_
      refine Go.iload (pc' := 118) d7_116 rfl rfl ?_
      refine Go.icmp (pc1 := 183) (pc2 := 121) d7_118 (by decide) (by decide) rfl (fun (c_410 : (4 : Int) ≤ (2 : Int)) => ?_) (fun (c_410 : (2 : Int) < (4 : Int)) => ?_)
      · exact absurd c_410 (by decide)
      refine Go.aload (pc' := 123) d7_121 rfl rfl rfl ?_
      refine Go.iload (pc' := 125) d7_123 rfl rfl ?_
      refine Go.ldI (pc' := 126) (k := 2) (v := (.int y)) f_394 rfl rfl d7_125 rfl ?_
      refine Go.bipush (pc' := 128) (v := (6 : Int32)) d7_126 rfl rfl ?_
      refine Go.iushr (pc' := 129) d7_128 rfl ?_
      generalize ew_411 : (y.toUInt32 >>> ((6 : Int32) &&& 31).toUInt32).toInt32 = w_411
      have k_412 : w_411.toInt = y.toInt / 64 := by
        rw [← ew_411]
        have : (6 : Int32).toInt = 6 := by decide
        have := c_iushr y (6 : Int32) 6 (by decide) (by decide)
        have := rng32 ((y.toUInt32 >>> ((6 : Int32) &&& 31).toUInt32).toInt32)
        have := rng32 y
        omega
      refine Go.istore (pc' := 131) (Ls' := #[.val (.ref a), .val (.ref o), .val (.int t), .val (.int (0 : Int32)), .val (.ref r), .val (.int (4 : Int32)), .val (.int (2 : Int32)), .val (.int w_411), .val (.long b_379), .second]) d7_129 rfl rfl ?_
      refine Go.lconst (pc' := 132) (v := (0 : Int64)) d7_131 rfl rfl ?_
      refine Go.lstore (pc' := 134) (Ls' := #[.val (.ref a), .val (.ref o), .val (.int t), .val (.int (0 : Int32)), .val (.ref r), .val (.int (4 : Int32)), .val (.int (2 : Int32)), .val (.int w_411), .val (.long (0 : Int64)), .second]) d7_132 rfl rfl ?_
      refine Go.iload (pc' := 136) d7_134 rfl rfl ?_
      refine Go.iload (pc' := 138) d7_136 rfl rfl ?_
      refine Go.icmp (pc1 := 172) (pc2 := 141) d7_138 (by decide) (by decide) rfl (fun (c_413 : (4 : Int) ≤ (2 : Int)) => ?_) (fun (c_413 : (2 : Int) < (4 : Int)) => ?_)
      · exact absurd c_413 (by decide)
      refine Go.aload (pc' := 143) d7_141 rfl rfl rfl ?_
      refine Go.iload (pc' := 145) d7_143 rfl rfl ?_
      refine Go.ldI (pc' := 146) (k := 2) (v := (.int y)) f_394 rfl rfl d7_145 rfl ?_
      refine Go.bipush (pc' := 148) (v := (6 : Int32)) d7_146 rfl rfl ?_
      refine Go.iushr (pc' := 149) d7_148 rfl ?_
      generalize eu_414 : (y.toUInt32 >>> ((6 : Int32) &&& 31).toUInt32).toInt32 = u_414
      have k_415 : u_414.toInt = y.toInt / 64 := by
        rw [← eu_414]
        have : (6 : Int32).toInt = 6 := by decide
        have := c_iushr y (6 : Int32) 6 (by decide) (by decide)
        have := rng32 ((y.toUInt32 >>> ((6 : Int32) &&& 31).toUInt32).toInt32)
        have := rng32 y
        omega
      refine Go.iload (pc' := 151) d7_149 rfl rfl ?_
      refine Go.icmp (pc1 := 172) (pc2 := 154) d7_151 (by decide) (by decide) rfl (fun (c_416 : u_414.toInt ≠ w_411.toInt) => ?_) (fun (c_416 : u_414.toInt = w_411.toInt) => ?_)
      · exfalso; omega
      refine Go.lload (pc' := 156) d7_154 rfl rfl ?_
      refine Go.lconst (pc' := 157) (v := (1 : Int64)) d7_156 rfl rfl ?_
      refine Go.aload (pc' := 159) d7_157 rfl rfl rfl ?_
      refine Go.iload (pc' := 161) d7_159 rfl rfl ?_
      refine Go.ldI (pc' := 162) (k := 2) (v := (.int y)) f_394 rfl rfl d7_161 rfl ?_
      refine Go.lshl (pc' := 163) d7_162 rfl ?_
      refine Go.lor (pc' := 164) d7_163 rfl ?_
      generalize eb_417 : (0 : Int64) ||| ((1 : Int64) <<< (y &&& 0x3f).toInt64) = b_417
      have hb_b_417 : ∀ j : Nat, j < 64 → (b_417.toBitVec.getLsbD j = true ↔ (j = y.toInt.toNat % 64)) := fun j hj => by
        rw [← eb_417]
        exact (own_orb _ y (by omega) j hj _ (own_z0 j)).trans (iff_of_eq (false_or _))
      refine Go.lstore (pc' := 166) (Ls' := #[.val (.ref a), .val (.ref o), .val (.int t), .val (.int (0 : Int32)), .val (.ref r), .val (.int (4 : Int32)), .val (.int (2 : Int32)), .val (.int w_411), .val (.long b_417), .second]) d7_164 rfl rfl ?_
      refine Go.iinc (pc' := 169) (w := (3 : Int32)) (Ls' := #[.val (.ref a), .val (.ref o), .val (.int t), .val (.int (0 : Int32)), .val (.ref r), .val (.int (4 : Int32)), .val (.int (3 : Int32)), .val (.int w_411), .val (.long b_417), .second]) d7_166 rfl rfl rfl rfl ?_
      refine Go.goto (pc' := 134) d7_169 (by decide) (by decide) ?_
      refine Go.iload (pc' := 136) d7_134 rfl rfl ?_
      refine Go.iload (pc' := 138) d7_136 rfl rfl ?_
      refine Go.icmp (pc1 := 172) (pc2 := 141) d7_138 (by decide) (by decide) rfl (fun (c_418 : (4 : Int) ≤ (3 : Int)) => ?_) (fun (c_418 : (3 : Int) < (4 : Int)) => ?_)
      · exact absurd c_418 (by decide)
      refine Go.aload (pc' := 143) d7_141 rfl rfl rfl ?_
      refine Go.iload (pc' := 145) d7_143 rfl rfl ?_
      refine Go.ldI (pc' := 146) (k := 3) (v := (.int z)) f_394 rfl rfl d7_145 rfl ?_
      refine Go.bipush (pc' := 148) (v := (6 : Int32)) d7_146 rfl rfl ?_
      refine Go.iushr (pc' := 149) d7_148 rfl ?_
      generalize eu_419 : (z.toUInt32 >>> ((6 : Int32) &&& 31).toUInt32).toInt32 = u_419
      have k_420 : u_419.toInt = z.toInt / 64 := by
        rw [← eu_419]
        have : (6 : Int32).toInt = 6 := by decide
        have := c_iushr z (6 : Int32) 6 (by decide) (by decide)
        have := rng32 ((z.toUInt32 >>> ((6 : Int32) &&& 31).toUInt32).toInt32)
        have := rng32 z
        omega
      refine Go.iload (pc' := 151) d7_149 rfl rfl ?_
      refine Go.icmp (pc1 := 172) (pc2 := 154) d7_151 (by decide) (by decide) rfl (fun (c_421 : u_419.toInt ≠ w_411.toInt) => ?_) (fun (c_421 : u_419.toInt = w_411.toInt) => ?_)
      · refine Go.aloadN (pc' := 173) d7_172 rfl rfl rfl ?_
        refine Go.iload (pc' := 175) d7_173 rfl rfl ?_
        refine Go.lload (pc' := 177) d7_175 rfl rfl ?_
        refine Go.callP (pc' := 180) (argsL := [(.int w_411), (.long b_417)]) (rest := []) (W := 0) (hw _ (List.mem_of_getElem? (i := 80) rfl)) (hw _ (List.mem_of_getElem? (i := 81) rfl)) (hw _ (List.mem_of_getElem? (i := 82) rfl)) (hw _ (List.mem_of_getElem? (i := 10) rfl)) (hw _ (List.mem_of_getElem? (i := 83) rfl)) (hw _ (List.mem_of_getElem? (i := 87) rfl)) rfl (by decide) f_389 (m_ab1 l Z a0 hw a a_265 a_316 V_386 w_411 b_417 h_384 n0 z_407 f_389 f_397 f_400 A_387 (by omega) (by omega) (by omega) g_326 n_321 n_325) d7_177 rfl pd6 rfl rfl (Nat.le_of_eq rfl) (by decide) (by decide) (by decide) (by decide) rfl ?_
        rintro _ h_422 ⟨rfl, V_424, K_423, A_425, l_426, hbt1⟩
        have f_427 : Exa Z h_422 a "com/example/nearword/nearword/internal/index/PointBits" := f_389.sm (Sm.keep K_423 (ninS n_321 nin0))
        have f_428 : Exa Z h_422 o "com/example/nearword/nearword/internal/index/IntList" := f_390.sm (Sm.keep K_423 (ninS n_322 nin0))
        have f_429 : Fld Z h_422 o "com/example/nearword/nearword/internal/index/IntList" "pieces" "[[I" (.ref g) := f_391.sm (Sm.keep K_423 (ninS n_322 nin0))
        have f_430 : Fld Z h_422 o "com/example/nearword/nearword/internal/index/IntList" "start" "I" (.int (0 : Int32)) := f_392.sm (Sm.keep K_423 (ninS n_322 nin0))
        have f_431 : Ary Z h_422 g (.array .int) [(.ref r)] := f_393.sm (Sm.keep K_423 (ninS n_323 nin0))
        have f_432 : Ary Z h_422 r .int [(.int (3 : Int32)), (.int x), (.int y), (.int z)] := f_394.sm (Sm.keep K_423 (ninS n_324 nin0))
        have f_433 : Ova Z h_422 a_265 .long "[J" := f_395.sm (Sm.keep K_423 (ninS n_325 nin0))
        have f_434 : Fld Z h_422 a "com/example/nearword/nearword/internal/index/PointBits" "words" "I" (.int d_243) := f_396.sm (Sm.keep K_423 (ninS n_321 nin0))
        have f_435 : Fld Z h_422 a "com/example/nearword/nearword/internal/index/PointBits" "chunks" "[[J" (.ref a_265) := f_397.sm (Sm.keep K_423 (ninS n_321 nin0))
        have f_436 : Exa Z h_422 a_316 "[J" := f_399.keep K_423
        have f_437 : Ary Z h_422 a_265 (.array .long) [(.ref a_316)] := f_400.sm (Sm.keep K_423 (ninS n_325 nin0))
        have t_439 : a < h_422.size := Nat.lt_of_lt_of_le t_401 K_423.1
        have t_440 : o < h_422.size := Nat.lt_of_lt_of_le t_402 K_423.1
        have t_441 : g < h_422.size := Nat.lt_of_lt_of_le t_403 K_423.1
        have t_442 : r < h_422.size := Nat.lt_of_lt_of_le t_404 K_423.1
        have t_443 : a_265 < h_422.size := Nat.lt_of_lt_of_le t_405 K_423.1
        have t_444 : a_316 < h_422.size := Nat.lt_of_lt_of_le t_406 K_423.1
        have z_445 : n0 ≤ h_422.size := Nat.le_trans z_407 K_423.1
        have b_446 : h0.size ≤ h_422.size := Nat.le_trans b_408 K_423.1
        have K_447 : Keep h0 h_422 [a] := K_409.trans K_423 (allS (Or.inr g_327) all0)
        have bb2 : ∀ f : Nat, (own_bt V_424 f = true ↔ ((f : Int) = x.toInt ∨ (f : Int) = y.toInt)) := fun f => by
          rw [hbt1 f, bb1 f, hb_b_417 (f % 64) (Nat.mod_lt _ (by decide))]
          omega
        show (Go false l ({ frames := 2, cells := 3, slots := 9235, locals := 27 } : Room) Z (⟨"com/example/nearword/nearword/internal/index/PointBits", "<init>", "(Lcom/example/nearword/nearword/internal/index/IntList;I)V"⟩ : MethodName) prog_49_method_1_code 10 none n0 3 9235 (fun v h => v = none ∧ Keep h0 h [a] ∧ ((∃ (g c0 : Addr) (W0 : List Int64), Exa Z h a "com/example/nearword/nearword/internal/index/PointBits" ∧ Fld Z h a "com/example/nearword/nearword/internal/index/PointBits" "chunks" "[[J" (.ref g) ∧ Ary Z h g (.array .long) [.ref c0] ∧ Ary Z h c0 .long (W0.map Value.long) ∧ W0.length ≤ 8192 ∧ ∀ f : Nat, (own_bt W0 f = true ↔ ((f : Int) = x.toInt ∨ (f : Int) = y.toInt ∨ (f : Int) = z.toInt))) ∨ (∃ (g c0 c1 : Addr) (W0 W1 : List Int64), Exa Z h a "com/example/nearword/nearword/internal/index/PointBits" ∧ Fld Z h a "com/example/nearword/nearword/internal/index/PointBits" "chunks" "[[J" (.ref g) ∧ Ary Z h g (.array .long) [.ref c0, .ref c1] ∧ Ary Z h c0 .long (W0.map Value.long) ∧ Ary Z h c1 .long (W1.map Value.long) ∧ W0.length = 8192 ∧ W1.length ≤ 8192 ∧ ∀ f : Nat, (own_bt (W0 ++ W1) f = true ↔ ((f : Int) = x.toInt ∨ (f : Int) = y.toInt ∨ (f : Int) = z.toInt)))))) h_422 (0 + 0 + 1 + 0 + 1 + 0 + 0 + 0 + 0 + 0 + 0) (0 + 0 + 1 + 0 + 8192 + 0 + 0 + 0 + 0 + 0 + 0) 180 #[.val (.ref a), .val (.ref o), .val (.int t), .val (.int (0 : Int32)), .val (.ref r), .val (.int (4 : Int32)), .val (.int (3 : Int32)), .val (.int w_411), .val (.long b_417), .second] []
        refine Go.goto (pc' := 114) d7_180 (by decide) (by decide) ?_
        refine Go.iload (pc' := 116) d7_114 rfl rfl ?_
        refine Go.iload (pc' := 118) d7_116 rfl rfl ?_
        refine Go.icmp (pc1 := 183) (pc2 := 121) d7_118 (by decide) (by decide) rfl (fun (c_448 : (4 : Int) ≤ (3 : Int)) => ?_) (fun (c_448 : (3 : Int) < (4 : Int)) => ?_)
        · exact absurd c_448 (by decide)
        refine Go.aload (pc' := 123) d7_121 rfl rfl rfl ?_
        refine Go.iload (pc' := 125) d7_123 rfl rfl ?_
        refine Go.ldI (pc' := 126) (k := 3) (v := (.int z)) f_432 rfl rfl d7_125 rfl ?_
        refine Go.bipush (pc' := 128) (v := (6 : Int32)) d7_126 rfl rfl ?_
        refine Go.iushr (pc' := 129) d7_128 rfl ?_
        generalize ew_449 : (z.toUInt32 >>> ((6 : Int32) &&& 31).toUInt32).toInt32 = w_449
        have k_450 : w_449.toInt = z.toInt / 64 := by
          rw [← ew_449]
          have : (6 : Int32).toInt = 6 := by decide
          have := c_iushr z (6 : Int32) 6 (by decide) (by decide)
          have := rng32 ((z.toUInt32 >>> ((6 : Int32) &&& 31).toUInt32).toInt32)
          have := rng32 z
          omega
        refine Go.istore (pc' := 131) (Ls' := #[.val (.ref a), .val (.ref o), .val (.int t), .val (.int (0 : Int32)), .val (.ref r), .val (.int (4 : Int32)), .val (.int (3 : Int32)), .val (.int w_449), .val (.long b_417), .second]) d7_129 rfl rfl ?_
        refine Go.lconst (pc' := 132) (v := (0 : Int64)) d7_131 rfl rfl ?_
        refine Go.lstore (pc' := 134) (Ls' := #[.val (.ref a), .val (.ref o), .val (.int t), .val (.int (0 : Int32)), .val (.ref r), .val (.int (4 : Int32)), .val (.int (3 : Int32)), .val (.int w_449), .val (.long (0 : Int64)), .second]) d7_132 rfl rfl ?_
        refine Go.iload (pc' := 136) d7_134 rfl rfl ?_
        refine Go.iload (pc' := 138) d7_136 rfl rfl ?_
        refine Go.icmp (pc1 := 172) (pc2 := 141) d7_138 (by decide) (by decide) rfl (fun (c_451 : (4 : Int) ≤ (3 : Int)) => ?_) (fun (c_451 : (3 : Int) < (4 : Int)) => ?_)
        · exact absurd c_451 (by decide)
        refine Go.aload (pc' := 143) d7_141 rfl rfl rfl ?_
        refine Go.iload (pc' := 145) d7_143 rfl rfl ?_
        refine Go.ldI (pc' := 146) (k := 3) (v := (.int z)) f_432 rfl rfl d7_145 rfl ?_
        refine Go.bipush (pc' := 148) (v := (6 : Int32)) d7_146 rfl rfl ?_
        refine Go.iushr (pc' := 149) d7_148 rfl ?_
        generalize eu_452 : (z.toUInt32 >>> ((6 : Int32) &&& 31).toUInt32).toInt32 = u_452
        have k_453 : u_452.toInt = z.toInt / 64 := by
          rw [← eu_452]
          have : (6 : Int32).toInt = 6 := by decide
          have := c_iushr z (6 : Int32) 6 (by decide) (by decide)
          have := rng32 ((z.toUInt32 >>> ((6 : Int32) &&& 31).toUInt32).toInt32)
          have := rng32 z
          omega
        refine Go.iload (pc' := 151) d7_149 rfl rfl ?_
        refine Go.icmp (pc1 := 172) (pc2 := 154) d7_151 (by decide) (by decide) rfl (fun (c_454 : u_452.toInt ≠ w_449.toInt) => ?_) (fun (c_454 : u_452.toInt = w_449.toInt) => ?_)
        · exfalso; omega
        refine Go.lload (pc' := 156) d7_154 rfl rfl ?_
        refine Go.lconst (pc' := 157) (v := (1 : Int64)) d7_156 rfl rfl ?_
        refine Go.aload (pc' := 159) d7_157 rfl rfl rfl ?_
        refine Go.iload (pc' := 161) d7_159 rfl rfl ?_
        refine Go.ldI (pc' := 162) (k := 3) (v := (.int z)) f_432 rfl rfl d7_161 rfl ?_
        refine Go.lshl (pc' := 163) d7_162 rfl ?_
        refine Go.lor (pc' := 164) d7_163 rfl ?_
        generalize eb_455 : (0 : Int64) ||| ((1 : Int64) <<< (z &&& 0x3f).toInt64) = b_455
        have hb_b_455 : ∀ j : Nat, j < 64 → (b_455.toBitVec.getLsbD j = true ↔ (j = z.toInt.toNat % 64)) := fun j hj => by
          rw [← eb_455]
          exact (own_orb _ z (by omega) j hj _ (own_z0 j)).trans (iff_of_eq (false_or _))
        refine Go.lstore (pc' := 166) (Ls' := #[.val (.ref a), .val (.ref o), .val (.int t), .val (.int (0 : Int32)), .val (.ref r), .val (.int (4 : Int32)), .val (.int (3 : Int32)), .val (.int w_449), .val (.long b_455), .second]) d7_164 rfl rfl ?_
        refine Go.iinc (pc' := 169) (w := (4 : Int32)) (Ls' := #[.val (.ref a), .val (.ref o), .val (.int t), .val (.int (0 : Int32)), .val (.ref r), .val (.int (4 : Int32)), .val (.int (4 : Int32)), .val (.int w_449), .val (.long b_455), .second]) d7_166 rfl rfl rfl rfl ?_
        refine Go.goto (pc' := 134) d7_169 (by decide) (by decide) ?_
        refine Go.iload (pc' := 136) d7_134 rfl rfl ?_
        refine Go.iload (pc' := 138) d7_136 rfl rfl ?_
        refine Go.icmp (pc1 := 172) (pc2 := 141) d7_138 (by decide) (by decide) rfl (fun (c_456 : (4 : Int) ≤ (4 : Int)) => ?_) (fun (c_456 : (4 : Int) < (4 : Int)) => ?_)
        rotate_left
        · exact absurd c_456 (by decide)
        refine Go.aloadN (pc' := 173) d7_172 rfl rfl rfl ?_
        refine Go.iload (pc' := 175) d7_173 rfl rfl ?_
        refine Go.lload (pc' := 177) d7_175 rfl rfl ?_
        refine Go.callP (pc' := 180) (argsL := [(.int w_449), (.long b_455)]) (rest := []) (W := 0) (hw _ (List.mem_of_getElem? (i := 80) rfl)) (hw _ (List.mem_of_getElem? (i := 81) rfl)) (hw _ (List.mem_of_getElem? (i := 82) rfl)) (hw _ (List.mem_of_getElem? (i := 10) rfl)) (hw _ (List.mem_of_getElem? (i := 83) rfl)) (hw _ (List.mem_of_getElem? (i := 87) rfl)) rfl (by decide) f_427 (m_ab1 l Z a0 hw a a_265 a_316 V_424 w_449 b_455 h_422 n0 z_445 f_427 f_435 f_437 A_425 (by omega) (by omega) (by omega) g_326 n_321 n_325) d7_177 rfl pd6 rfl rfl (Nat.le_of_eq rfl) (by decide) (by decide) (by decide) (by decide) rfl ?_
        rintro _ h_457 ⟨rfl, V_459, K_458, A_460, l_461, hbt2⟩
        have f_462 : Exa Z h_457 a "com/example/nearword/nearword/internal/index/PointBits" := f_427.sm (Sm.keep K_458 (ninS n_321 nin0))
        have f_463 : Exa Z h_457 o "com/example/nearword/nearword/internal/index/IntList" := f_428.sm (Sm.keep K_458 (ninS n_322 nin0))
        have f_464 : Fld Z h_457 o "com/example/nearword/nearword/internal/index/IntList" "pieces" "[[I" (.ref g) := f_429.sm (Sm.keep K_458 (ninS n_322 nin0))
        have f_465 : Fld Z h_457 o "com/example/nearword/nearword/internal/index/IntList" "start" "I" (.int (0 : Int32)) := f_430.sm (Sm.keep K_458 (ninS n_322 nin0))
        have f_466 : Ary Z h_457 g (.array .int) [(.ref r)] := f_431.sm (Sm.keep K_458 (ninS n_323 nin0))
        have f_467 : Ary Z h_457 r .int [(.int (3 : Int32)), (.int x), (.int y), (.int z)] := f_432.sm (Sm.keep K_458 (ninS n_324 nin0))
        have f_468 : Ova Z h_457 a_265 .long "[J" := f_433.sm (Sm.keep K_458 (ninS n_325 nin0))
        have f_469 : Fld Z h_457 a "com/example/nearword/nearword/internal/index/PointBits" "words" "I" (.int d_243) := f_434.sm (Sm.keep K_458 (ninS n_321 nin0))
        have f_470 : Fld Z h_457 a "com/example/nearword/nearword/internal/index/PointBits" "chunks" "[[J" (.ref a_265) := f_435.sm (Sm.keep K_458 (ninS n_321 nin0))
        have f_471 : Exa Z h_457 a_316 "[J" := f_436.keep K_458
        have f_472 : Ary Z h_457 a_265 (.array .long) [(.ref a_316)] := f_437.sm (Sm.keep K_458 (ninS n_325 nin0))
        have t_474 : a < h_457.size := Nat.lt_of_lt_of_le t_439 K_458.1
        have t_475 : o < h_457.size := Nat.lt_of_lt_of_le t_440 K_458.1
        have t_476 : g < h_457.size := Nat.lt_of_lt_of_le t_441 K_458.1
        have t_477 : r < h_457.size := Nat.lt_of_lt_of_le t_442 K_458.1
        have t_478 : a_265 < h_457.size := Nat.lt_of_lt_of_le t_443 K_458.1
        have t_479 : a_316 < h_457.size := Nat.lt_of_lt_of_le t_444 K_458.1
        have z_480 : n0 ≤ h_457.size := Nat.le_trans z_445 K_458.1
        have b_481 : h0.size ≤ h_457.size := Nat.le_trans b_446 K_458.1
        have K_482 : Keep h0 h_457 [a] := K_447.trans K_458 (allS (Or.inr g_327) all0)
        have bb3 : ∀ f : Nat, (own_bt V_459 f = true ↔ ((f : Int) = x.toInt ∨ (f : Int) = y.toInt ∨ (f : Int) = z.toInt)) := fun f => by
          rw [hbt2 f, bb2 f, hb_b_455 (f % 64) (Nat.mod_lt _ (by decide))]
          omega
        show (Go false l ({ frames := 2, cells := 3, slots := 9235, locals := 27 } : Room) Z (⟨"com/example/nearword/nearword/internal/index/PointBits", "<init>", "(Lcom/example/nearword/nearword/internal/index/IntList;I)V"⟩ : MethodName) prog_49_method_1_code 10 none n0 3 9235 (fun v h => v = none ∧ Keep h0 h [a] ∧ ((∃ (g c0 : Addr) (W0 : List Int64), Exa Z h a "com/example/nearword/nearword/internal/index/PointBits" ∧ Fld Z h a "com/example/nearword/nearword/internal/index/PointBits" "chunks" "[[J" (.ref g) ∧ Ary Z h g (.array .long) [.ref c0] ∧ Ary Z h c0 .long (W0.map Value.long) ∧ W0.length ≤ 8192 ∧ ∀ f : Nat, (own_bt W0 f = true ↔ ((f : Int) = x.toInt ∨ (f : Int) = y.toInt ∨ (f : Int) = z.toInt))) ∨ (∃ (g c0 c1 : Addr) (W0 W1 : List Int64), Exa Z h a "com/example/nearword/nearword/internal/index/PointBits" ∧ Fld Z h a "com/example/nearword/nearword/internal/index/PointBits" "chunks" "[[J" (.ref g) ∧ Ary Z h g (.array .long) [.ref c0, .ref c1] ∧ Ary Z h c0 .long (W0.map Value.long) ∧ Ary Z h c1 .long (W1.map Value.long) ∧ W0.length = 8192 ∧ W1.length ≤ 8192 ∧ ∀ f : Nat, (own_bt (W0 ++ W1) f = true ↔ ((f : Int) = x.toInt ∨ (f : Int) = y.toInt ∨ (f : Int) = z.toInt)))))) h_457 (0 + 0 + 1 + 0 + 1 + 0 + 0 + 0 + 0 + 0 + 0 + 0) (0 + 0 + 1 + 0 + 8192 + 0 + 0 + 0 + 0 + 0 + 0 + 0) 180 #[.val (.ref a), .val (.ref o), .val (.int t), .val (.int (0 : Int32)), .val (.ref r), .val (.int (4 : Int32)), .val (.int (4 : Int32)), .val (.int w_449), .val (.long b_455), .second] []
        refine Go.goto (pc' := 114) d7_180 (by decide) (by decide) ?_
        refine Go.iload (pc' := 116) d7_114 rfl rfl ?_
        refine Go.iload (pc' := 118) d7_116 rfl rfl ?_
        refine Go.icmp (pc1 := 183) (pc2 := 121) d7_118 (by decide) (by decide) rfl (fun (c_483 : (4 : Int) ≤ (4 : Int)) => ?_) (fun (c_483 : (4 : Int) < (4 : Int)) => ?_)
        rotate_left
        · exact absurd c_483 (by decide)
        refine Go.iinc (pc' := 186) (w := (1 : Int32)) (Ls' := #[.val (.ref a), .val (.ref o), .val (.int t), .val (.int (1 : Int32)), .val (.ref r), .val (.int (4 : Int32)), .val (.int (4 : Int32)), .val (.int w_449), .val (.long b_455), .second]) d7_183 rfl rfl rfl rfl ?_
        refine Go.goto (pc' := 86) d7_186 (by decide) (by decide) ?_
        refine Go.iloadN (pc' := 87) d7_86 rfl rfl ?_
        refine Go.aloadN (pc' := 88) d7_87 rfl rfl rfl ?_
        refine Go.callV (pc' := 91) (argsL := []) (rest := [(.int (1 : Int32))]) (W := 1) (hw _ (List.mem_of_getElem? (i := 55) rfl)) (hw _ (List.mem_of_getElem? (i := 56) rfl)) (hw _ (List.mem_of_getElem? (i := 58) rfl)) (hw _ (List.mem_of_getElem? (i := 57) rfl)) (hw _ (List.mem_of_getElem? (i := 14) rfl)) (hw _ (List.mem_of_getElem? (i := 59) rfl)) (by decide) f_463 (m_ps l Z a0 hw o g r x y z h_457 n0 z_480 f_463 f_464 f_465 f_466 f_467) d7_88 rfl pd2 rfl rfl (Nat.le_of_eq rfl) (by decide) (by decide) (by decide) (by decide) rfl ?_
        rintro _ _ ⟨rfl, rfl⟩
        show (Go false l ({ frames := 2, cells := 3, slots := 9235, locals := 27 } : Room) Z (⟨"com/example/nearword/nearword/internal/index/PointBits", "<init>", "(Lcom/example/nearword/nearword/internal/index/IntList;I)V"⟩ : MethodName) prog_49_method_1_code 10 none n0 3 9235 (fun v h => v = none ∧ Keep h0 h [a] ∧ ((∃ (g c0 : Addr) (W0 : List Int64), Exa Z h a "com/example/nearword/nearword/internal/index/PointBits" ∧ Fld Z h a "com/example/nearword/nearword/internal/index/PointBits" "chunks" "[[J" (.ref g) ∧ Ary Z h g (.array .long) [.ref c0] ∧ Ary Z h c0 .long (W0.map Value.long) ∧ W0.length ≤ 8192 ∧ ∀ f : Nat, (own_bt W0 f = true ↔ ((f : Int) = x.toInt ∨ (f : Int) = y.toInt ∨ (f : Int) = z.toInt))) ∨ (∃ (g c0 c1 : Addr) (W0 W1 : List Int64), Exa Z h a "com/example/nearword/nearword/internal/index/PointBits" ∧ Fld Z h a "com/example/nearword/nearword/internal/index/PointBits" "chunks" "[[J" (.ref g) ∧ Ary Z h g (.array .long) [.ref c0, .ref c1] ∧ Ary Z h c0 .long (W0.map Value.long) ∧ Ary Z h c1 .long (W1.map Value.long) ∧ W0.length = 8192 ∧ W1.length ≤ 8192 ∧ ∀ f : Nat, (own_bt (W0 ++ W1) f = true ↔ ((f : Int) = x.toInt ∨ (f : Int) = y.toInt ∨ (f : Int) = z.toInt)))))) h_457 (0 + 0 + 1 + 0 + 1 + 0 + 0 + 0 + 0 + 0 + 0 + 0 + 0) (0 + 0 + 1 + 0 + 8192 + 0 + 0 + 0 + 0 + 0 + 0 + 0 + 0) 91 #[.val (.ref a), .val (.ref o), .val (.int t), .val (.int (1 : Int32)), .val (.ref r), .val (.int (4 : Int32)), .val (.int (4 : Int32)), .val (.int w_449), .val (.long b_455), .second] [(.int (1 : Int32)), (.int (1 : Int32))]
        refine Go.icmp (pc1 := 189) (pc2 := 94) d7_91 (by decide) (by decide) rfl (fun (c_484 : (1 : Int) ≤ (1 : Int)) => ?_) (fun (c_484 : (1 : Int) < (1 : Int)) => ?_)
        rotate_left
        · exact absurd c_484 (by decide)
        exact Go.ret0 d7_189 rfl ⟨rfl, K_482, Or.inl ⟨a_265, a_316, V_459, f_462, f_470, f_472, A_460, by omega, fun f => (bb3 f).trans (by omega)⟩⟩ (by decide) (by decide)
      · refine Go.lload (pc' := 156) d7_154 rfl rfl ?_
        refine Go.lconst (pc' := 157) (v := (1 : Int64)) d7_156 rfl rfl ?_
        refine Go.aload (pc' := 159) d7_157 rfl rfl rfl ?_
        refine Go.iload (pc' := 161) d7_159 rfl rfl ?_
        refine Go.ldI (pc' := 162) (k := 3) (v := (.int z)) f_394 rfl rfl d7_161 rfl ?_
        refine Go.lshl (pc' := 163) d7_162 rfl ?_
        refine Go.lor (pc' := 164) d7_163 rfl ?_
        generalize eb_485 : b_417 ||| ((1 : Int64) <<< (z &&& 0x3f).toInt64) = b_485
        have hb_b_485 : ∀ j : Nat, j < 64 → (b_485.toBitVec.getLsbD j = true ↔ (j = y.toInt.toNat % 64 ∨ j = z.toInt.toNat % 64)) := fun j hj => by
          rw [← eb_485]
          exact (own_orb _ z (by omega) j hj _ (hb_b_417 j hj))
        refine Go.lstore (pc' := 166) (Ls' := #[.val (.ref a), .val (.ref o), .val (.int t), .val (.int (0 : Int32)), .val (.ref r), .val (.int (4 : Int32)), .val (.int (3 : Int32)), .val (.int w_411), .val (.long b_485), .second]) d7_164 rfl rfl ?_
        refine Go.iinc (pc' := 169) (w := (4 : Int32)) (Ls' := #[.val (.ref a), .val (.ref o), .val (.int t), .val (.int (0 : Int32)), .val (.ref r), .val (.int (4 : Int32)), .val (.int (4 : Int32)), .val (.int w_411), .val (.long b_485), .second]) d7_166 rfl rfl rfl rfl ?_
        refine Go.goto (pc' := 134) d7_169 (by decide) (by decide) ?_
        refine Go.iload (pc' := 136) d7_134 rfl rfl ?_
        refine Go.iload (pc' := 138) d7_136 rfl rfl ?_
        refine Go.icmp (pc1 := 172) (pc2 := 141) d7_138 (by decide) (by decide) rfl (fun (c_486 : (4 : Int) ≤ (4 : Int)) => ?_) (fun (c_486 : (4 : Int) < (4 : Int)) => ?_)
        rotate_left
        · exact absurd c_486 (by decide)
        refine Go.aloadN (pc' := 173) d7_172 rfl rfl rfl ?_
        refine Go.iload (pc' := 175) d7_173 rfl rfl ?_
        refine Go.lload (pc' := 177) d7_175 rfl rfl ?_
        refine Go.callP (pc' := 180) (argsL := [(.int w_411), (.long b_485)]) (rest := []) (W := 0) (hw _ (List.mem_of_getElem? (i := 80) rfl)) (hw _ (List.mem_of_getElem? (i := 81) rfl)) (hw _ (List.mem_of_getElem? (i := 82) rfl)) (hw _ (List.mem_of_getElem? (i := 10) rfl)) (hw _ (List.mem_of_getElem? (i := 83) rfl)) (hw _ (List.mem_of_getElem? (i := 87) rfl)) rfl (by decide) f_389 (m_ab1 l Z a0 hw a a_265 a_316 V_386 w_411 b_485 h_384 n0 z_407 f_389 f_397 f_400 A_387 (by omega) (by omega) (by omega) g_326 n_321 n_325) d7_177 rfl pd6 rfl rfl (Nat.le_of_eq rfl) (by decide) (by decide) (by decide) (by decide) rfl ?_
        rintro _ h_487 ⟨rfl, V_489, K_488, A_490, l_491, hbt1⟩
        have f_492 : Exa Z h_487 a "com/example/nearword/nearword/internal/index/PointBits" := f_389.sm (Sm.keep K_488 (ninS n_321 nin0))
        have f_493 : Exa Z h_487 o "com/example/nearword/nearword/internal/index/IntList" := f_390.sm (Sm.keep K_488 (ninS n_322 nin0))
        have f_494 : Fld Z h_487 o "com/example/nearword/nearword/internal/index/IntList" "pieces" "[[I" (.ref g) := f_391.sm (Sm.keep K_488 (ninS n_322 nin0))
        have f_495 : Fld Z h_487 o "com/example/nearword/nearword/internal/index/IntList" "start" "I" (.int (0 : Int32)) := f_392.sm (Sm.keep K_488 (ninS n_322 nin0))
        have f_496 : Ary Z h_487 g (.array .int) [(.ref r)] := f_393.sm (Sm.keep K_488 (ninS n_323 nin0))
        have f_497 : Ary Z h_487 r .int [(.int (3 : Int32)), (.int x), (.int y), (.int z)] := f_394.sm (Sm.keep K_488 (ninS n_324 nin0))
        have f_498 : Ova Z h_487 a_265 .long "[J" := f_395.sm (Sm.keep K_488 (ninS n_325 nin0))
        have f_499 : Fld Z h_487 a "com/example/nearword/nearword/internal/index/PointBits" "words" "I" (.int d_243) := f_396.sm (Sm.keep K_488 (ninS n_321 nin0))
        have f_500 : Fld Z h_487 a "com/example/nearword/nearword/internal/index/PointBits" "chunks" "[[J" (.ref a_265) := f_397.sm (Sm.keep K_488 (ninS n_321 nin0))
        have f_501 : Exa Z h_487 a_316 "[J" := f_399.keep K_488
        have f_502 : Ary Z h_487 a_265 (.array .long) [(.ref a_316)] := f_400.sm (Sm.keep K_488 (ninS n_325 nin0))
        have t_504 : a < h_487.size := Nat.lt_of_lt_of_le t_401 K_488.1
        have t_505 : o < h_487.size := Nat.lt_of_lt_of_le t_402 K_488.1
        have t_506 : g < h_487.size := Nat.lt_of_lt_of_le t_403 K_488.1
        have t_507 : r < h_487.size := Nat.lt_of_lt_of_le t_404 K_488.1
        have t_508 : a_265 < h_487.size := Nat.lt_of_lt_of_le t_405 K_488.1
        have t_509 : a_316 < h_487.size := Nat.lt_of_lt_of_le t_406 K_488.1
        have z_510 : n0 ≤ h_487.size := Nat.le_trans z_407 K_488.1
        have b_511 : h0.size ≤ h_487.size := Nat.le_trans b_408 K_488.1
        have K_512 : Keep h0 h_487 [a] := K_409.trans K_488 (allS (Or.inr g_327) all0)
        have bb2 : ∀ f : Nat, (own_bt V_489 f = true ↔ ((f : Int) = x.toInt ∨ (f : Int) = y.toInt ∨ (f : Int) = z.toInt)) := fun f => by
          rw [hbt1 f, bb1 f, hb_b_485 (f % 64) (Nat.mod_lt _ (by decide))]
          omega
        show (Go false l ({ frames := 2, cells := 3, slots := 9235, locals := 27 } : Room) Z (⟨"com/example/nearword/nearword/internal/index/PointBits", "<init>", "(Lcom/example/nearword/nearword/internal/index/IntList;I)V"⟩ : MethodName) prog_49_method_1_code 10 none n0 3 9235 (fun v h => v = none ∧ Keep h0 h [a] ∧ ((∃ (g c0 : Addr) (W0 : List Int64), Exa Z h a "com/example/nearword/nearword/internal/index/PointBits" ∧ Fld Z h a "com/example/nearword/nearword/internal/index/PointBits" "chunks" "[[J" (.ref g) ∧ Ary Z h g (.array .long) [.ref c0] ∧ Ary Z h c0 .long (W0.map Value.long) ∧ W0.length ≤ 8192 ∧ ∀ f : Nat, (own_bt W0 f = true ↔ ((f : Int) = x.toInt ∨ (f : Int) = y.toInt ∨ (f : Int) = z.toInt))) ∨ (∃ (g c0 c1 : Addr) (W0 W1 : List Int64), Exa Z h a "com/example/nearword/nearword/internal/index/PointBits" ∧ Fld Z h a "com/example/nearword/nearword/internal/index/PointBits" "chunks" "[[J" (.ref g) ∧ Ary Z h g (.array .long) [.ref c0, .ref c1] ∧ Ary Z h c0 .long (W0.map Value.long) ∧ Ary Z h c1 .long (W1.map Value.long) ∧ W0.length = 8192 ∧ W1.length ≤ 8192 ∧ ∀ f : Nat, (own_bt (W0 ++ W1) f = true ↔ ((f : Int) = x.toInt ∨ (f : Int) = y.toInt ∨ (f : Int) = z.toInt)))))) h_487 (0 + 0 + 1 + 0 + 1 + 0 + 0 + 0 + 0 + 0 + 0) (0 + 0 + 1 + 0 + 8192 + 0 + 0 + 0 + 0 + 0 + 0) 180 #[.val (.ref a), .val (.ref o), .val (.int t), .val (.int (0 : Int32)), .val (.ref r), .val (.int (4 : Int32)), .val (.int (4 : Int32)), .val (.int w_411), .val (.long b_485), .second] []
        refine Go.goto (pc' := 114) d7_180 (by decide) (by decide) ?_
        refine Go.iload (pc' := 116) d7_114 rfl rfl ?_
        refine Go.iload (pc' := 118) d7_116 rfl rfl ?_
        refine Go.icmp (pc1 := 183) (pc2 := 121) d7_118 (by decide) (by decide) rfl (fun (c_513 : (4 : Int) ≤ (4 : Int)) => ?_) (fun (c_513 : (4 : Int) < (4 : Int)) => ?_)
        rotate_left
        · exact absurd c_513 (by decide)
        refine Go.iinc (pc' := 186) (w := (1 : Int32)) (Ls' := #[.val (.ref a), .val (.ref o), .val (.int t), .val (.int (1 : Int32)), .val (.ref r), .val (.int (4 : Int32)), .val (.int (4 : Int32)), .val (.int w_411), .val (.long b_485), .second]) d7_183 rfl rfl rfl rfl ?_
        refine Go.goto (pc' := 86) d7_186 (by decide) (by decide) ?_
        refine Go.iloadN (pc' := 87) d7_86 rfl rfl ?_
        refine Go.aloadN (pc' := 88) d7_87 rfl rfl rfl ?_
        refine Go.callV (pc' := 91) (argsL := []) (rest := [(.int (1 : Int32))]) (W := 1) (hw _ (List.mem_of_getElem? (i := 55) rfl)) (hw _ (List.mem_of_getElem? (i := 56) rfl)) (hw _ (List.mem_of_getElem? (i := 58) rfl)) (hw _ (List.mem_of_getElem? (i := 57) rfl)) (hw _ (List.mem_of_getElem? (i := 14) rfl)) (hw _ (List.mem_of_getElem? (i := 59) rfl)) (by decide) f_493 (m_ps l Z a0 hw o g r x y z h_487 n0 z_510 f_493 f_494 f_495 f_496 f_497) d7_88 rfl pd2 rfl rfl (Nat.le_of_eq rfl) (by decide) (by decide) (by decide) (by decide) rfl ?_
        rintro _ _ ⟨rfl, rfl⟩
        show (Go false l ({ frames := 2, cells := 3, slots := 9235, locals := 27 } : Room) Z (⟨"com/example/nearword/nearword/internal/index/PointBits", "<init>", "(Lcom/example/nearword/nearword/internal/index/IntList;I)V"⟩ : MethodName) prog_49_method_1_code 10 none n0 3 9235 (fun v h => v = none ∧ Keep h0 h [a] ∧ ((∃ (g c0 : Addr) (W0 : List Int64), Exa Z h a "com/example/nearword/nearword/internal/index/PointBits" ∧ Fld Z h a "com/example/nearword/nearword/internal/index/PointBits" "chunks" "[[J" (.ref g) ∧ Ary Z h g (.array .long) [.ref c0] ∧ Ary Z h c0 .long (W0.map Value.long) ∧ W0.length ≤ 8192 ∧ ∀ f : Nat, (own_bt W0 f = true ↔ ((f : Int) = x.toInt ∨ (f : Int) = y.toInt ∨ (f : Int) = z.toInt))) ∨ (∃ (g c0 c1 : Addr) (W0 W1 : List Int64), Exa Z h a "com/example/nearword/nearword/internal/index/PointBits" ∧ Fld Z h a "com/example/nearword/nearword/internal/index/PointBits" "chunks" "[[J" (.ref g) ∧ Ary Z h g (.array .long) [.ref c0, .ref c1] ∧ Ary Z h c0 .long (W0.map Value.long) ∧ Ary Z h c1 .long (W1.map Value.long) ∧ W0.length = 8192 ∧ W1.length ≤ 8192 ∧ ∀ f : Nat, (own_bt (W0 ++ W1) f = true ↔ ((f : Int) = x.toInt ∨ (f : Int) = y.toInt ∨ (f : Int) = z.toInt)))))) h_487 (0 + 0 + 1 + 0 + 1 + 0 + 0 + 0 + 0 + 0 + 0 + 0) (0 + 0 + 1 + 0 + 8192 + 0 + 0 + 0 + 0 + 0 + 0 + 0) 91 #[.val (.ref a), .val (.ref o), .val (.int t), .val (.int (1 : Int32)), .val (.ref r), .val (.int (4 : Int32)), .val (.int (4 : Int32)), .val (.int w_411), .val (.long b_485), .second] [(.int (1 : Int32)), (.int (1 : Int32))]
        refine Go.icmp (pc1 := 189) (pc2 := 94) d7_91 (by decide) (by decide) rfl (fun (c_514 : (1 : Int) ≤ (1 : Int)) => ?_) (fun (c_514 : (1 : Int) < (1 : Int)) => ?_)
        rotate_left
        · exact absurd c_514 (by decide)
        exact Go.ret0 d7_189 rfl ⟨rfl, K_512, Or.inl ⟨a_265, a_316, V_489, f_492, f_500, f_502, A_490, by omega, fun f => (bb2 f).trans (by omega)⟩⟩ (by decide) (by decide)
    · refine Go.lload (pc' := 156) d7_154 rfl rfl ?_
      refine Go.lconst (pc' := 157) (v := (1 : Int64)) d7_156 rfl rfl ?_
      refine Go.aload (pc' := 159) d7_157 rfl rfl rfl ?_
      refine Go.iload (pc' := 161) d7_159 rfl rfl ?_
      refine Go.ldI (pc' := 162) (k := 2) (v := (.int y)) f_355 rfl rfl d7_161 rfl ?_
      refine Go.lshl (pc' := 163) d7_162 rfl ?_
      refine Go.lor (pc' := 164) d7_163 rfl ?_
      generalize eb_515 : b_379 ||| ((1 : Int64) <<< (y &&& 0x3f).toInt64) = b_515
      have hb_b_515 : ∀ j : Nat, j < 64 → (b_515.toBitVec.getLsbD j = true ↔ (j = x.toInt.toNat % 64 ∨ j = y.toInt.toNat % 64)) := fun j hj => by
        rw [← eb_515]
        exact (own_orb _ y (by omega) j hj _ (hb_b_379 j hj))
      refine Go.lstore (pc' := 166) (Ls' := #[.val (.ref a), .val (.ref o), .val (.int t), .val (.int (0 : Int32)), .val (.ref r), .val (.int (4 : Int32)), .val (.int (2 : Int32)), .val (.int w_373), .val (.long b_515), .second]) d7_164 rfl rfl ?_
      refine Go.iinc (pc' := 169) (w := (3 : Int32)) (Ls' := #[.val (.ref a), .val (.ref o), .val (.int t), .val (.int (0 : Int32)), .val (.ref r), .val (.int (4 : Int32)), .val (.int (3 : Int32)), .val (.int w_373), .val (.long b_515), .second]) d7_166 rfl rfl rfl rfl ?_
      refine Go.goto (pc' := 134) d7_169 (by decide) (by decide) ?_
      refine Go.iload (pc' := 136) d7_134 rfl rfl ?_
      refine Go.iload (pc' := 138) d7_136 rfl rfl ?_
      refine Go.icmp (pc1 := 172) (pc2 := 141) d7_138 (by decide) (by decide) rfl (fun (c_516 : (4 : Int) ≤ (3 : Int)) => ?_) (fun (c_516 : (3 : Int) < (4 : Int)) => ?_)
      · exact absurd c_516 (by decide)
      refine Go.aload (pc' := 143) d7_141 rfl rfl rfl ?_
      refine Go.iload (pc' := 145) d7_143 rfl rfl ?_
      refine Go.ldI (pc' := 146) (k := 3) (v := (.int z)) f_355 rfl rfl d7_145 rfl ?_
      refine Go.bipush (pc' := 148) (v := (6 : Int32)) d7_146 rfl rfl ?_
      refine Go.iushr (pc' := 149) d7_148 rfl ?_
      generalize eu_517 : (z.toUInt32 >>> ((6 : Int32) &&& 31).toUInt32).toInt32 = u_517
      have k_518 : u_517.toInt = z.toInt / 64 := by
        rw [← eu_517]
        have : (6 : Int32).toInt = 6 := by decide
        have := c_iushr z (6 : Int32) 6 (by decide) (by decide)
        have := rng32 ((z.toUInt32 >>> ((6 : Int32) &&& 31).toUInt32).toInt32)
        have := rng32 z
        omega
      refine Go.iload (pc' := 151) d7_149 rfl rfl ?_
      refine Go.icmp (pc1 := 172) (pc2 := 154) d7_151 (by decide) (by decide) rfl (fun (c_519 : u_517.toInt ≠ w_373.toInt) => ?_) (fun (c_519 : u_517.toInt = w_373.toInt) => ?_)
      · refine Go.aloadN (pc' := 173) d7_172 rfl rfl rfl ?_
        refine Go.iload (pc' := 175) d7_173 rfl rfl ?_
        refine Go.lload (pc' := 177) d7_175 rfl rfl ?_
        refine Go.callP (pc' := 180) (argsL := [(.int w_373), (.long b_515)]) (rest := []) (W := 0) (hw _ (List.mem_of_getElem? (i := 80) rfl)) (hw _ (List.mem_of_getElem? (i := 81) rfl)) (hw _ (List.mem_of_getElem? (i := 82) rfl)) (hw _ (List.mem_of_getElem? (i := 10) rfl)) (hw _ (List.mem_of_getElem? (i := 83) rfl)) (hw _ (List.mem_of_getElem? (i := 87) rfl)) rfl (by decide) f_350 (m_ab1 l Z a0 hw a a_265 a_316 X0 w_373 b_515 h_347 n0 z_367 f_350 f_358 A_349 f_359 (by omega) (by omega) (by omega) g_326 n_321 n_325) d7_177 rfl pd6 rfl rfl (Nat.le_of_eq rfl) (by decide) (by decide) (by decide) (by decide) rfl ?_
        rintro _ h_520 ⟨rfl, V_522, K_521, A_523, l_524, hbt0⟩
        have f_525 : Exa Z h_520 a "com/example/nearword/nearword/internal/index/PointBits" := f_350.sm (Sm.keep K_521 (ninS n_321 nin0))
        have f_526 : Exa Z h_520 o "com/example/nearword/nearword/internal/index/IntList" := f_351.sm (Sm.keep K_521 (ninS n_322 nin0))
        have f_527 : Fld Z h_520 o "com/example/nearword/nearword/internal/index/IntList" "pieces" "[[I" (.ref g) := f_352.sm (Sm.keep K_521 (ninS n_322 nin0))
        have f_528 : Fld Z h_520 o "com/example/nearword/nearword/internal/index/IntList" "start" "I" (.int (0 : Int32)) := f_353.sm (Sm.keep K_521 (ninS n_322 nin0))
        have f_529 : Ary Z h_520 g (.array .int) [(.ref r)] := f_354.sm (Sm.keep K_521 (ninS n_323 nin0))
        have f_530 : Ary Z h_520 r .int [(.int (3 : Int32)), (.int x), (.int y), (.int z)] := f_355.sm (Sm.keep K_521 (ninS n_324 nin0))
        have f_531 : Ova Z h_520 a_265 .long "[J" := f_356.sm (Sm.keep K_521 (ninS n_325 nin0))
        have f_532 : Fld Z h_520 a "com/example/nearword/nearword/internal/index/PointBits" "words" "I" (.int d_243) := f_357.sm (Sm.keep K_521 (ninS n_321 nin0))
        have f_533 : Fld Z h_520 a "com/example/nearword/nearword/internal/index/PointBits" "chunks" "[[J" (.ref a_265) := f_358.sm (Sm.keep K_521 (ninS n_321 nin0))
        have f_535 : Exa Z h_520 a_316 "[J" := f_360.keep K_521
        have f_536 : Ary Z h_520 a_265 (.array .long) [(.ref a_316)] := A_349.sm (Sm.keep K_521 (ninS n_325 nin0))
        have t_537 : a < h_520.size := Nat.lt_of_lt_of_le t_361 K_521.1
        have t_538 : o < h_520.size := Nat.lt_of_lt_of_le t_362 K_521.1
        have t_539 : g < h_520.size := Nat.lt_of_lt_of_le t_363 K_521.1
        have t_540 : r < h_520.size := Nat.lt_of_lt_of_le t_364 K_521.1
        have t_541 : a_265 < h_520.size := Nat.lt_of_lt_of_le t_365 K_521.1
        have t_542 : a_316 < h_520.size := Nat.lt_of_lt_of_le t_366 K_521.1
        have z_543 : n0 ≤ h_520.size := Nat.le_trans z_367 K_521.1
        have b_544 : h0.size ≤ h_520.size := Nat.le_trans b_368 K_521.1
        have K_545 : Keep h0 h_520 [a] := K_369.trans K_521 (allS (Or.inr g_327) all0)
        have bb1 : ∀ f : Nat, (own_bt V_522 f = true ↔ ((f : Int) = x.toInt ∨ (f : Int) = y.toInt)) := fun f => by
          rw [hbt0 f, b0 f, hb_b_515 (f % 64) (Nat.mod_lt _ (by decide))]
          omega
        show (Go false l ({ frames := 2, cells := 3, slots := 9235, locals := 27 } : Room) Z (⟨"com/example/nearword/nearword/internal/index/PointBits", "<init>", "(Lcom/example/nearword/nearword/internal/index/IntList;I)V"⟩ : MethodName) prog_49_method_1_code 10 none n0 3 9235 (fun v h => v = none ∧ Keep h0 h [a] ∧ ((∃ (g c0 : Addr) (W0 : List Int64), Exa Z h a "com/example/nearword/nearword/internal/index/PointBits" ∧ Fld Z h a "com/example/nearword/nearword/internal/index/PointBits" "chunks" "[[J" (.ref g) ∧ Ary Z h g (.array .long) [.ref c0] ∧ Ary Z h c0 .long (W0.map Value.long) ∧ W0.length ≤ 8192 ∧ ∀ f : Nat, (own_bt W0 f = true ↔ ((f : Int) = x.toInt ∨ (f : Int) = y.toInt ∨ (f : Int) = z.toInt))) ∨ (∃ (g c0 c1 : Addr) (W0 W1 : List Int64), Exa Z h a "com/example/nearword/nearword/internal/index/PointBits" ∧ Fld Z h a "com/example/nearword/nearword/internal/index/PointBits" "chunks" "[[J" (.ref g) ∧ Ary Z h g (.array .long) [.ref c0, .ref c1] ∧ Ary Z h c0 .long (W0.map Value.long) ∧ Ary Z h c1 .long (W1.map Value.long) ∧ W0.length = 8192 ∧ W1.length ≤ 8192 ∧ ∀ f : Nat, (own_bt (W0 ++ W1) f = true ↔ ((f : Int) = x.toInt ∨ (f : Int) = y.toInt ∨ (f : Int) = z.toInt)))))) h_520 (0 + 0 + 1 + 0 + 1 + 0 + 0 + 0 + 0 + 0) (0 + 0 + 1 + 0 + 8192 + 0 + 0 + 0 + 0 + 0) 180 #[.val (.ref a), .val (.ref o), .val (.int t), .val (.int (0 : Int32)), .val (.ref r), .val (.int (4 : Int32)), .val (.int (3 : Int32)), .val (.int w_373), .val (.long b_515), .second] []
        refine Go.goto (pc' := 114) d7_180 (by decide) (by decide) ?_
        refine Go.iload (pc' := 116) d7_114 rfl rfl ?_
        refine Go.iload (pc' := 118) d7_116 rfl rfl ?_
        refine Go.icmp (pc1 := 183) (pc2 := 121) d7_118 (by decide) (by decide) rfl (fun (c_546 : (4 : Int) ≤ (3 : Int)) => ?_) (fun (c_546 : (3 : Int) < (4 : Int)) => ?_)
        · exact absurd c_546 (by decide)
        refine Go.aload (pc' := 123) d7_121 rfl rfl rfl ?_
        refine Go.iload (pc' := 125) d7_123 rfl rfl ?_
        refine Go.ldI (pc' := 126) (k := 3) (v := (.int z)) f_530 rfl rfl d7_125 rfl ?_
        refine Go.bipush (pc' := 128) (v := (6 : Int32)) d7_126 rfl rfl ?_
        refine Go.iushr (pc' := 129) d7_128 rfl ?_
        generalize ew_547 : (z.toUInt32 >>> ((6 : Int32) &&& 31).toUInt32).toInt32 = w_547
        have k_548 : w_547.toInt = z.toInt / 64 := by
          rw [← ew_547]
          have : (6 : Int32).toInt = 6 := by decide
          have := c_iushr z (6 : Int32) 6 (by decide) (by decide)
          have := rng32 ((z.toUInt32 >>> ((6 : Int32) &&& 31).toUInt32).toInt32)
          have := rng32 z
          omega
        refine Go.istore (pc' := 131) (Ls' := #[.val (.ref a), .val (.ref o), .val (.int t), .val (.int (0 : Int32)), .val (.ref r), .val (.int (4 : Int32)), .val (.int (3 : Int32)), .val (.int w_547), .val (.long b_515), .second]) d7_129 rfl rfl ?_
        refine Go.lconst (pc' := 132) (v := (0 : Int64)) d7_131 rfl rfl ?_
        refine Go.lstore (pc' := 134) (Ls' := #[.val (.ref a), .val (.ref o), .val (.int t), .val (.int (0 : Int32)), .val (.ref r), .val (.int (4 : Int32)), .val (.int (3 : Int32)), .val (.int w_547), .val (.long (0 : Int64)), .second]) d7_132 rfl rfl ?_
        refine Go.iload (pc' := 136) d7_134 rfl rfl ?_
        refine Go.iload (pc' := 138) d7_136 rfl rfl ?_
        refine Go.icmp (pc1 := 172) (pc2 := 141) d7_138 (by decide) (by decide) rfl (fun (c_549 : (4 : Int) ≤ (3 : Int)) => ?_) (fun (c_549 : (3 : Int) < (4 : Int)) => ?_)
        · exact absurd c_549 (by decide)
        refine Go.aload (pc' := 143) d7_141 rfl rfl rfl ?_
        refine Go.iload (pc' := 145) d7_143 rfl rfl ?_
        refine Go.ldI (pc' := 146) (k := 3) (v := (.int z)) f_530 rfl rfl d7_145 rfl ?_
        refine Go.bipush (pc' := 148) (v := (6 : Int32)) d7_146 rfl rfl ?_
        refine Go.iushr (pc' := 149) d7_148 rfl ?_
        generalize eu_550 : (z.toUInt32 >>> ((6 : Int32) &&& 31).toUInt32).toInt32 = u_550
        have k_551 : u_550.toInt = z.toInt / 64 := by
          rw [← eu_550]
          have : (6 : Int32).toInt = 6 := by decide
          have := c_iushr z (6 : Int32) 6 (by decide) (by decide)
          have := rng32 ((z.toUInt32 >>> ((6 : Int32) &&& 31).toUInt32).toInt32)
          have := rng32 z
          omega
        refine Go.iload (pc' := 151) d7_149 rfl rfl ?_
        refine Go.icmp (pc1 := 172) (pc2 := 154) d7_151 (by decide) (by decide) rfl (fun (c_552 : u_550.toInt ≠ w_547.toInt) => ?_) (fun (c_552 : u_550.toInt = w_547.toInt) => ?_)
        · exfalso; omega
        refine Go.lload (pc' := 156) d7_154 rfl rfl ?_
        refine Go.lconst (pc' := 157) (v := (1 : Int64)) d7_156 rfl rfl ?_
        refine Go.aload (pc' := 159) d7_157 rfl rfl rfl ?_
        refine Go.iload (pc' := 161) d7_159 rfl rfl ?_
        refine Go.ldI (pc' := 162) (k := 3) (v := (.int z)) f_530 rfl rfl d7_161 rfl ?_
        refine Go.lshl (pc' := 163) d7_162 rfl ?_
        refine Go.lor (pc' := 164) d7_163 rfl ?_
        generalize eb_553 : (0 : Int64) ||| ((1 : Int64) <<< (z &&& 0x3f).toInt64) = b_553
        have hb_b_553 : ∀ j : Nat, j < 64 → (b_553.toBitVec.getLsbD j = true ↔ (j = z.toInt.toNat % 64)) := fun j hj => by
          rw [← eb_553]
          exact (own_orb _ z (by omega) j hj _ (own_z0 j)).trans (iff_of_eq (false_or _))
        refine Go.lstore (pc' := 166) (Ls' := #[.val (.ref a), .val (.ref o), .val (.int t), .val (.int (0 : Int32)), .val (.ref r), .val (.int (4 : Int32)), .val (.int (3 : Int32)), .val (.int w_547), .val (.long b_553), .second]) d7_164 rfl rfl ?_
        refine Go.iinc (pc' := 169) (w := (4 : Int32)) (Ls' := #[.val (.ref a), .val (.ref o), .val (.int t), .val (.int (0 : Int32)), .val (.ref r), .val (.int (4 : Int32)), .val (.int (4 : Int32)), .val (.int w_547), .val (.long b_553), .second]) d7_166 rfl rfl rfl rfl ?_
        refine Go.goto (pc' := 134) d7_169 (by decide) (by decide) ?_
        refine Go.iload (pc' := 136) d7_134 rfl rfl ?_
        refine Go.iload (pc' := 138) d7_136 rfl rfl ?_
        refine Go.icmp (pc1 := 172) (pc2 := 141) d7_138 (by decide) (by decide) rfl (fun (c_554 : (4 : Int) ≤ (4 : Int)) => ?_) (fun (c_554 : (4 : Int) < (4 : Int)) => ?_)
        rotate_left
        · exact absurd c_554 (by decide)
        refine Go.aloadN (pc' := 173) d7_172 rfl rfl rfl ?_
        refine Go.iload (pc' := 175) d7_173 rfl rfl ?_
        refine Go.lload (pc' := 177) d7_175 rfl rfl ?_
        refine Go.callP (pc' := 180) (argsL := [(.int w_547), (.long b_553)]) (rest := []) (W := 0) (hw _ (List.mem_of_getElem? (i := 80) rfl)) (hw _ (List.mem_of_getElem? (i := 81) rfl)) (hw _ (List.mem_of_getElem? (i := 82) rfl)) (hw _ (List.mem_of_getElem? (i := 10) rfl)) (hw _ (List.mem_of_getElem? (i := 83) rfl)) (hw _ (List.mem_of_getElem? (i := 87) rfl)) rfl (by decide) f_525 (m_ab1 l Z a0 hw a a_265 a_316 V_522 w_547 b_553 h_520 n0 z_543 f_525 f_533 f_536 A_523 (by omega) (by omega) (by omega) g_326 n_321 n_325) d7_177 rfl pd6 rfl rfl (Nat.le_of_eq rfl) (by decide) (by decide) (by decide) (by decide) rfl ?_
        rintro _ h_555 ⟨rfl, V_557, K_556, A_558, l_559, hbt1⟩
        have f_560 : Exa Z h_555 a "com/example/nearword/nearword/internal/index/PointBits" := f_525.sm (Sm.keep K_556 (ninS n_321 nin0))
        have f_561 : Exa Z h_555 o "com/example/nearword/nearword/internal/index/IntList" := f_526.sm (Sm.keep K_556 (ninS n_322 nin0))
        have f_562 : Fld Z h_555 o "com/example/nearword/nearword/internal/index/IntList" "pieces" "[[I" (.ref g) := f_527.sm (Sm.keep K_556 (ninS n_322 nin0))
        have f_563 : Fld Z h_555 o "com/example/nearword/nearword/internal/index/IntList" "start" "I" (.int (0 : Int32)) := f_528.sm (Sm.keep K_556 (ninS n_322 nin0))
        have f_564 : Ary Z h_555 g (.array .int) [(.ref r)] := f_529.sm (Sm.keep K_556 (ninS n_323 nin0))
        have f_565 : Ary Z h_555 r .int [(.int (3 : Int32)), (.int x), (.int y), (.int z)] := f_530.sm (Sm.keep K_556 (ninS n_324 nin0))
        have f_566 : Ova Z h_555 a_265 .long "[J" := f_531.sm (Sm.keep K_556 (ninS n_325 nin0))
        have f_567 : Fld Z h_555 a "com/example/nearword/nearword/internal/index/PointBits" "words" "I" (.int d_243) := f_532.sm (Sm.keep K_556 (ninS n_321 nin0))
        have f_568 : Fld Z h_555 a "com/example/nearword/nearword/internal/index/PointBits" "chunks" "[[J" (.ref a_265) := f_533.sm (Sm.keep K_556 (ninS n_321 nin0))
        have f_569 : Exa Z h_555 a_316 "[J" := f_535.keep K_556
        have f_570 : Ary Z h_555 a_265 (.array .long) [(.ref a_316)] := f_536.sm (Sm.keep K_556 (ninS n_325 nin0))
        have t_572 : a < h_555.size := Nat.lt_of_lt_of_le t_537 K_556.1
        have t_573 : o < h_555.size := Nat.lt_of_lt_of_le t_538 K_556.1
        have t_574 : g < h_555.size := Nat.lt_of_lt_of_le t_539 K_556.1
        have t_575 : r < h_555.size := Nat.lt_of_lt_of_le t_540 K_556.1
        have t_576 : a_265 < h_555.size := Nat.lt_of_lt_of_le t_541 K_556.1
        have t_577 : a_316 < h_555.size := Nat.lt_of_lt_of_le t_542 K_556.1
        have z_578 : n0 ≤ h_555.size := Nat.le_trans z_543 K_556.1
        have b_579 : h0.size ≤ h_555.size := Nat.le_trans b_544 K_556.1
        have K_580 : Keep h0 h_555 [a] := K_545.trans K_556 (allS (Or.inr g_327) all0)
        have bb2 : ∀ f : Nat, (own_bt V_557 f = true ↔ ((f : Int) = x.toInt ∨ (f : Int) = y.toInt ∨ (f : Int) = z.toInt)) := fun f => by
          rw [hbt1 f, bb1 f, hb_b_553 (f % 64) (Nat.mod_lt _ (by decide))]
          omega
        show (Go false l ({ frames := 2, cells := 3, slots := 9235, locals := 27 } : Room) Z (⟨"com/example/nearword/nearword/internal/index/PointBits", "<init>", "(Lcom/example/nearword/nearword/internal/index/IntList;I)V"⟩ : MethodName) prog_49_method_1_code 10 none n0 3 9235 (fun v h => v = none ∧ Keep h0 h [a] ∧ ((∃ (g c0 : Addr) (W0 : List Int64), Exa Z h a "com/example/nearword/nearword/internal/index/PointBits" ∧ Fld Z h a "com/example/nearword/nearword/internal/index/PointBits" "chunks" "[[J" (.ref g) ∧ Ary Z h g (.array .long) [.ref c0] ∧ Ary Z h c0 .long (W0.map Value.long) ∧ W0.length ≤ 8192 ∧ ∀ f : Nat, (own_bt W0 f = true ↔ ((f : Int) = x.toInt ∨ (f : Int) = y.toInt ∨ (f : Int) = z.toInt))) ∨ (∃ (g c0 c1 : Addr) (W0 W1 : List Int64), Exa Z h a "com/example/nearword/nearword/internal/index/PointBits" ∧ Fld Z h a "com/example/nearword/nearword/internal/index/PointBits" "chunks" "[[J" (.ref g) ∧ Ary Z h g (.array .long) [.ref c0, .ref c1] ∧ Ary Z h c0 .long (W0.map Value.long) ∧ Ary Z h c1 .long (W1.map Value.long) ∧ W0.length = 8192 ∧ W1.length ≤ 8192 ∧ ∀ f : Nat, (own_bt (W0 ++ W1) f = true ↔ ((f : Int) = x.toInt ∨ (f : Int) = y.toInt ∨ (f : Int) = z.toInt)))))) h_555 (0 + 0 + 1 + 0 + 1 + 0 + 0 + 0 + 0 + 0 + 0) (0 + 0 + 1 + 0 + 8192 + 0 + 0 + 0 + 0 + 0 + 0) 180 #[.val (.ref a), .val (.ref o), .val (.int t), .val (.int (0 : Int32)), .val (.ref r), .val (.int (4 : Int32)), .val (.int (4 : Int32)), .val (.int w_547), .val (.long b_553), .second] []
        refine Go.goto (pc' := 114) d7_180 (by decide) (by decide) ?_
        refine Go.iload (pc' := 116) d7_114 rfl rfl ?_
        refine Go.iload (pc' := 118) d7_116 rfl rfl ?_
        refine Go.icmp (pc1 := 183) (pc2 := 121) d7_118 (by decide) (by decide) rfl (fun (c_581 : (4 : Int) ≤ (4 : Int)) => ?_) (fun (c_581 : (4 : Int) < (4 : Int)) => ?_)
        rotate_left
        · exact absurd c_581 (by decide)
        refine Go.iinc (pc' := 186) (w := (1 : Int32)) (Ls' := #[.val (.ref a), .val (.ref o), .val (.int t), .val (.int (1 : Int32)), .val (.ref r), .val (.int (4 : Int32)), .val (.int (4 : Int32)), .val (.int w_547), .val (.long b_553), .second]) d7_183 rfl rfl rfl rfl ?_
        refine Go.goto (pc' := 86) d7_186 (by decide) (by decide) ?_
        refine Go.iloadN (pc' := 87) d7_86 rfl rfl ?_
        refine Go.aloadN (pc' := 88) d7_87 rfl rfl rfl ?_
        refine Go.callV (pc' := 91) (argsL := []) (rest := [(.int (1 : Int32))]) (W := 1) (hw _ (List.mem_of_getElem? (i := 55) rfl)) (hw _ (List.mem_of_getElem? (i := 56) rfl)) (hw _ (List.mem_of_getElem? (i := 58) rfl)) (hw _ (List.mem_of_getElem? (i := 57) rfl)) (hw _ (List.mem_of_getElem? (i := 14) rfl)) (hw _ (List.mem_of_getElem? (i := 59) rfl)) (by decide) f_561 (m_ps l Z a0 hw o g r x y z h_555 n0 z_578 f_561 f_562 f_563 f_564 f_565) d7_88 rfl pd2 rfl rfl (Nat.le_of_eq rfl) (by decide) (by decide) (by decide) (by decide) rfl ?_
        rintro _ _ ⟨rfl, rfl⟩
        show (Go false l ({ frames := 2, cells := 3, slots := 9235, locals := 27 } : Room) Z (⟨"com/example/nearword/nearword/internal/index/PointBits", "<init>", "(Lcom/example/nearword/nearword/internal/index/IntList;I)V"⟩ : MethodName) prog_49_method_1_code 10 none n0 3 9235 (fun v h => v = none ∧ Keep h0 h [a] ∧ ((∃ (g c0 : Addr) (W0 : List Int64), Exa Z h a "com/example/nearword/nearword/internal/index/PointBits" ∧ Fld Z h a "com/example/nearword/nearword/internal/index/PointBits" "chunks" "[[J" (.ref g) ∧ Ary Z h g (.array .long) [.ref c0] ∧ Ary Z h c0 .long (W0.map Value.long) ∧ W0.length ≤ 8192 ∧ ∀ f : Nat, (own_bt W0 f = true ↔ ((f : Int) = x.toInt ∨ (f : Int) = y.toInt ∨ (f : Int) = z.toInt))) ∨ (∃ (g c0 c1 : Addr) (W0 W1 : List Int64), Exa Z h a "com/example/nearword/nearword/internal/index/PointBits" ∧ Fld Z h a "com/example/nearword/nearword/internal/index/PointBits" "chunks" "[[J" (.ref g) ∧ Ary Z h g (.array .long) [.ref c0, .ref c1] ∧ Ary Z h c0 .long (W0.map Value.long) ∧ Ary Z h c1 .long (W1.map Value.long) ∧ W0.length = 8192 ∧ W1.length ≤ 8192 ∧ ∀ f : Nat, (own_bt (W0 ++ W1) f = true ↔ ((f : Int) = x.toInt ∨ (f : Int) = y.toInt ∨ (f : Int) = z.toInt)))))) h_555 (0 + 0 + 1 + 0 + 1 + 0 + 0 + 0 + 0 + 0 + 0 + 0) (0 + 0 + 1 + 0 + 8192 + 0 + 0 + 0 + 0 + 0 + 0 + 0) 91 #[.val (.ref a), .val (.ref o), .val (.int t), .val (.int (1 : Int32)), .val (.ref r), .val (.int (4 : Int32)), .val (.int (4 : Int32)), .val (.int w_547), .val (.long b_553), .second] [(.int (1 : Int32)), (.int (1 : Int32))]
        refine Go.icmp (pc1 := 189) (pc2 := 94) d7_91 (by decide) (by decide) rfl (fun (c_582 : (1 : Int) ≤ (1 : Int)) => ?_) (fun (c_582 : (1 : Int) < (1 : Int)) => ?_)
        rotate_left
        · exact absurd c_582 (by decide)
        exact Go.ret0 d7_189 rfl ⟨rfl, K_580, Or.inl ⟨a_265, a_316, V_557, f_560, f_568, f_570, A_558, by omega, fun f => (bb2 f).trans (by omega)⟩⟩ (by decide) (by decide)
      · refine Go.lload (pc' := 156) d7_154 rfl rfl ?_
        refine Go.lconst (pc' := 157) (v := (1 : Int64)) d7_156 rfl rfl ?_
        refine Go.aload (pc' := 159) d7_157 rfl rfl rfl ?_
        refine Go.iload (pc' := 161) d7_159 rfl rfl ?_
        refine Go.ldI (pc' := 162) (k := 3) (v := (.int z)) f_355 rfl rfl d7_161 rfl ?_
        refine Go.lshl (pc' := 163) d7_162 rfl ?_
        refine Go.lor (pc' := 164) d7_163 rfl ?_
        generalize eb_583 : b_515 ||| ((1 : Int64) <<< (z &&& 0x3f).toInt64) = b_583
        have hb_b_583 : ∀ j : Nat, j < 64 → (b_583.toBitVec.getLsbD j = true ↔ (j = x.toInt.toNat % 64 ∨ j = y.toInt.toNat % 64 ∨ j = z.toInt.toNat % 64)) := fun j hj => by
          rw [← eb_583]
          exact (own_orb _ z (by omega) j hj _ (hb_b_515 j hj)).trans or_assoc
        refine Go.lstore (pc' := 166) (Ls' := #[.val (.ref a), .val (.ref o), .val (.int t), .val (.int (0 : Int32)), .val (.ref r), .val (.int (4 : Int32)), .val (.int (3 : Int32)), .val (.int w_373), .val (.long b_583), .second]) d7_164 rfl rfl ?_
        refine Go.iinc (pc' := 169) (w := (4 : Int32)) (Ls' := #[.val (.ref a), .val (.ref o), .val (.int t), .val (.int (0 : Int32)), .val (.ref r), .val (.int (4 : Int32)), .val (.int (4 : Int32)), .val (.int w_373), .val (.long b_583), .second]) d7_166 rfl rfl rfl rfl ?_
        refine Go.goto (pc' := 134) d7_169 (by decide) (by decide) ?_
        refine Go.iload (pc' := 136) d7_134 rfl rfl ?_
        refine Go.iload (pc' := 138) d7_136 rfl rfl ?_
        refine Go.icmp (pc1 := 172) (pc2 := 141) d7_138 (by decide) (by decide) rfl (fun (c_584 : (4 : Int) ≤ (4 : Int)) => ?_) (fun (c_584 : (4 : Int) < (4 : Int)) => ?_)
        rotate_left
        · exact absurd c_584 (by decide)
        refine Go.aloadN (pc' := 173) d7_172 rfl rfl rfl ?_
        refine Go.iload (pc' := 175) d7_173 rfl rfl ?_
        refine Go.lload (pc' := 177) d7_175 rfl rfl ?_
        refine Go.callP (pc' := 180) (argsL := [(.int w_373), (.long b_583)]) (rest := []) (W := 0) (hw _ (List.mem_of_getElem? (i := 80) rfl)) (hw _ (List.mem_of_getElem? (i := 81) rfl)) (hw _ (List.mem_of_getElem? (i := 82) rfl)) (hw _ (List.mem_of_getElem? (i := 10) rfl)) (hw _ (List.mem_of_getElem? (i := 83) rfl)) (hw _ (List.mem_of_getElem? (i := 87) rfl)) rfl (by decide) f_350 (m_ab1 l Z a0 hw a a_265 a_316 X0 w_373 b_583 h_347 n0 z_367 f_350 f_358 A_349 f_359 (by omega) (by omega) (by omega) g_326 n_321 n_325) d7_177 rfl pd6 rfl rfl (Nat.le_of_eq rfl) (by decide) (by decide) (by decide) (by decide) rfl ?_
        rintro _ h_585 ⟨rfl, V_587, K_586, A_588, l_589, hbt0⟩
        have f_590 : Exa Z h_585 a "com/example/nearword/nearword/internal/index/PointBits" := f_350.sm (Sm.keep K_586 (ninS n_321 nin0))
        have f_591 : Exa Z h_585 o "com/example/nearword/nearword/internal/index/IntList" := f_351.sm (Sm.keep K_586 (ninS n_322 nin0))
        have f_592 : Fld Z h_585 o "com/example/nearword/nearword/internal/index/IntList" "pieces" "[[I" (.ref g) := f_352.sm (Sm.keep K_586 (ninS n_322 nin0))
        have f_593 : Fld Z h_585 o "com/example/nearword/nearword/internal/index/IntList" "start" "I" (.int (0 : Int32)) := f_353.sm (Sm.keep K_586 (ninS n_322 nin0))
        have f_594 : Ary Z h_585 g (.array .int) [(.ref r)] := f_354.sm (Sm.keep K_586 (ninS n_323 nin0))
        have f_595 : Ary Z h_585 r .int [(.int (3 : Int32)), (.int x), (.int y), (.int z)] := f_355.sm (Sm.keep K_586 (ninS n_324 nin0))
        have f_596 : Ova Z h_585 a_265 .long "[J" := f_356.sm (Sm.keep K_586 (ninS n_325 nin0))
        have f_597 : Fld Z h_585 a "com/example/nearword/nearword/internal/index/PointBits" "words" "I" (.int d_243) := f_357.sm (Sm.keep K_586 (ninS n_321 nin0))
        have f_598 : Fld Z h_585 a "com/example/nearword/nearword/internal/index/PointBits" "chunks" "[[J" (.ref a_265) := f_358.sm (Sm.keep K_586 (ninS n_321 nin0))
        have f_600 : Exa Z h_585 a_316 "[J" := f_360.keep K_586
        have f_601 : Ary Z h_585 a_265 (.array .long) [(.ref a_316)] := A_349.sm (Sm.keep K_586 (ninS n_325 nin0))
        have t_602 : a < h_585.size := Nat.lt_of_lt_of_le t_361 K_586.1
        have t_603 : o < h_585.size := Nat.lt_of_lt_of_le t_362 K_586.1
        have t_604 : g < h_585.size := Nat.lt_of_lt_of_le t_363 K_586.1
        have t_605 : r < h_585.size := Nat.lt_of_lt_of_le t_364 K_586.1
        have t_606 : a_265 < h_585.size := Nat.lt_of_lt_of_le t_365 K_586.1
        have t_607 : a_316 < h_585.size := Nat.lt_of_lt_of_le t_366 K_586.1
        have z_608 : n0 ≤ h_585.size := Nat.le_trans z_367 K_586.1
        have b_609 : h0.size ≤ h_585.size := Nat.le_trans b_368 K_586.1
        have K_610 : Keep h0 h_585 [a] := K_369.trans K_586 (allS (Or.inr g_327) all0)
        have bb1 : ∀ f : Nat, (own_bt V_587 f = true ↔ ((f : Int) = x.toInt ∨ (f : Int) = y.toInt ∨ (f : Int) = z.toInt)) := fun f => by
          rw [hbt0 f, b0 f, hb_b_583 (f % 64) (Nat.mod_lt _ (by decide))]
          omega
        show (Go false l ({ frames := 2, cells := 3, slots := 9235, locals := 27 } : Room) Z (⟨"com/example/nearword/nearword/internal/index/PointBits", "<init>", "(Lcom/example/nearword/nearword/internal/index/IntList;I)V"⟩ : MethodName) prog_49_method_1_code 10 none n0 3 9235 (fun v h => v = none ∧ Keep h0 h [a] ∧ ((∃ (g c0 : Addr) (W0 : List Int64), Exa Z h a "com/example/nearword/nearword/internal/index/PointBits" ∧ Fld Z h a "com/example/nearword/nearword/internal/index/PointBits" "chunks" "[[J" (.ref g) ∧ Ary Z h g (.array .long) [.ref c0] ∧ Ary Z h c0 .long (W0.map Value.long) ∧ W0.length ≤ 8192 ∧ ∀ f : Nat, (own_bt W0 f = true ↔ ((f : Int) = x.toInt ∨ (f : Int) = y.toInt ∨ (f : Int) = z.toInt))) ∨ (∃ (g c0 c1 : Addr) (W0 W1 : List Int64), Exa Z h a "com/example/nearword/nearword/internal/index/PointBits" ∧ Fld Z h a "com/example/nearword/nearword/internal/index/PointBits" "chunks" "[[J" (.ref g) ∧ Ary Z h g (.array .long) [.ref c0, .ref c1] ∧ Ary Z h c0 .long (W0.map Value.long) ∧ Ary Z h c1 .long (W1.map Value.long) ∧ W0.length = 8192 ∧ W1.length ≤ 8192 ∧ ∀ f : Nat, (own_bt (W0 ++ W1) f = true ↔ ((f : Int) = x.toInt ∨ (f : Int) = y.toInt ∨ (f : Int) = z.toInt)))))) h_585 (0 + 0 + 1 + 0 + 1 + 0 + 0 + 0 + 0 + 0) (0 + 0 + 1 + 0 + 8192 + 0 + 0 + 0 + 0 + 0) 180 #[.val (.ref a), .val (.ref o), .val (.int t), .val (.int (0 : Int32)), .val (.ref r), .val (.int (4 : Int32)), .val (.int (4 : Int32)), .val (.int w_373), .val (.long b_583), .second] []
        refine Go.goto (pc' := 114) d7_180 (by decide) (by decide) ?_
        refine Go.iload (pc' := 116) d7_114 rfl rfl ?_
        refine Go.iload (pc' := 118) d7_116 rfl rfl ?_
        refine Go.icmp (pc1 := 183) (pc2 := 121) d7_118 (by decide) (by decide) rfl (fun (c_611 : (4 : Int) ≤ (4 : Int)) => ?_) (fun (c_611 : (4 : Int) < (4 : Int)) => ?_)
        rotate_left
        · exact absurd c_611 (by decide)
        refine Go.iinc (pc' := 186) (w := (1 : Int32)) (Ls' := #[.val (.ref a), .val (.ref o), .val (.int t), .val (.int (1 : Int32)), .val (.ref r), .val (.int (4 : Int32)), .val (.int (4 : Int32)), .val (.int w_373), .val (.long b_583), .second]) d7_183 rfl rfl rfl rfl ?_
        refine Go.goto (pc' := 86) d7_186 (by decide) (by decide) ?_
        refine Go.iloadN (pc' := 87) d7_86 rfl rfl ?_
        refine Go.aloadN (pc' := 88) d7_87 rfl rfl rfl ?_
        refine Go.callV (pc' := 91) (argsL := []) (rest := [(.int (1 : Int32))]) (W := 1) (hw _ (List.mem_of_getElem? (i := 55) rfl)) (hw _ (List.mem_of_getElem? (i := 56) rfl)) (hw _ (List.mem_of_getElem? (i := 58) rfl)) (hw _ (List.mem_of_getElem? (i := 57) rfl)) (hw _ (List.mem_of_getElem? (i := 14) rfl)) (hw _ (List.mem_of_getElem? (i := 59) rfl)) (by decide) f_591 (m_ps l Z a0 hw o g r x y z h_585 n0 z_608 f_591 f_592 f_593 f_594 f_595) d7_88 rfl pd2 rfl rfl (Nat.le_of_eq rfl) (by decide) (by decide) (by decide) (by decide) rfl ?_
        rintro _ _ ⟨rfl, rfl⟩
        show (Go false l ({ frames := 2, cells := 3, slots := 9235, locals := 27 } : Room) Z (⟨"com/example/nearword/nearword/internal/index/PointBits", "<init>", "(Lcom/example/nearword/nearword/internal/index/IntList;I)V"⟩ : MethodName) prog_49_method_1_code 10 none n0 3 9235 (fun v h => v = none ∧ Keep h0 h [a] ∧ ((∃ (g c0 : Addr) (W0 : List Int64), Exa Z h a "com/example/nearword/nearword/internal/index/PointBits" ∧ Fld Z h a "com/example/nearword/nearword/internal/index/PointBits" "chunks" "[[J" (.ref g) ∧ Ary Z h g (.array .long) [.ref c0] ∧ Ary Z h c0 .long (W0.map Value.long) ∧ W0.length ≤ 8192 ∧ ∀ f : Nat, (own_bt W0 f = true ↔ ((f : Int) = x.toInt ∨ (f : Int) = y.toInt ∨ (f : Int) = z.toInt))) ∨ (∃ (g c0 c1 : Addr) (W0 W1 : List Int64), Exa Z h a "com/example/nearword/nearword/internal/index/PointBits" ∧ Fld Z h a "com/example/nearword/nearword/internal/index/PointBits" "chunks" "[[J" (.ref g) ∧ Ary Z h g (.array .long) [.ref c0, .ref c1] ∧ Ary Z h c0 .long (W0.map Value.long) ∧ Ary Z h c1 .long (W1.map Value.long) ∧ W0.length = 8192 ∧ W1.length ≤ 8192 ∧ ∀ f : Nat, (own_bt (W0 ++ W1) f = true ↔ ((f : Int) = x.toInt ∨ (f : Int) = y.toInt ∨ (f : Int) = z.toInt)))))) h_585 (0 + 0 + 1 + 0 + 1 + 0 + 0 + 0 + 0 + 0 + 0) (0 + 0 + 1 + 0 + 8192 + 0 + 0 + 0 + 0 + 0 + 0) 91 #[.val (.ref a), .val (.ref o), .val (.int t), .val (.int (1 : Int32)), .val (.ref r), .val (.int (4 : Int32)), .val (.int (4 : Int32)), .val (.int w_373), .val (.long b_583), .second] [(.int (1 : Int32)), (.int (1 : Int32))]
        refine Go.icmp (pc1 := 189) (pc2 := 94) d7_91 (by decide) (by decide) rfl (fun (c_612 : (1 : Int) ≤ (1 : Int)) => ?_) (fun (c_612 : (1 : Int) < (1 : Int)) => ?_)
        rotate_left
        · exact absurd c_612 (by decide)
        exact Go.ret0 d7_189 rfl ⟨rfl, K_610, Or.inl ⟨a_265, a_316, V_587, f_590, f_598, f_601, A_588, by omega, fun f => (bb1 f).trans (by omega)⟩⟩ (by decide) (by decide)
  · obtain rfl : nc = (2 : Int32) := Int32.toInt_inj.mp hn
    refine Go.newRA (pc' := 40) (k := 2) (ty := .long) (cap := 2) (C := "[J") (ad := "[[J") (by decide) (hw _ (List.mem_of_getElem? (i := 48) rfl)) (hw _ (List.mem_of_getElem? (i := 49) rfl)) (by decide) rfl (by decide) (by decide) d7_37 (by decide) (by decide) rfl ?_
    intro h_613 a_614 q_615 E_616 A_617 V_618
    have n_619 : a ≠ a_614 := Nat.ne_of_lt (q_615 ▸ t_253)
    have n_620 : o ≠ a_614 := Nat.ne_of_lt (q_615 ▸ t_254)
    have n_621 : g ≠ a_614 := Nat.ne_of_lt (q_615 ▸ t_255)
    have n_622 : r ≠ a_614 := Nat.ne_of_lt (q_615 ▸ t_256)
    have g_623 : n0 ≤ a_614 := q_615 ▸ z_257
    have g_624 : h0.size ≤ a_614 := q_615 ▸ b_258
    have f_625 : Exa Z h_613 a "com/example/nearword/nearword/internal/index/PointBits" := f_247.sm (Sm.ext E_616)
    have f_626 : Exa Z h_613 o "com/example/nearword/nearword/internal/index/IntList" := f_248.sm (Sm.ext E_616)
    have f_627 : Fld Z h_613 o "com/example/nearword/nearword/internal/index/IntList" "pieces" "[[I" (.ref g) := f_249.sm (Sm.ext E_616)
    have f_628 : Fld Z h_613 o "com/example/nearword/nearword/internal/index/IntList" "start" "I" (.int (0 : Int32)) := f_250.sm (Sm.ext E_616)
    have f_629 : Ary Z h_613 g (.array .int) [(.ref r)] := f_251.sm (Sm.ext E_616)
    have f_630 : Ary Z h_613 r .int [(.int (3 : Int32)), (.int x), (.int y), (.int z)] := f_252.sm (Sm.ext E_616)
    have f_631 : Fld Z h_613 a "com/example/nearword/nearword/internal/index/PointBits" "words" "I" (.int d_243) := f_260.sm (Sm.ext E_616)
    have f_632 : Fld Z h_613 a "com/example/nearword/nearword/internal/index/PointBits" "chunks" "[[J" .null := f_261.sm (Sm.ext E_616)
    have t_633 : a < h_613.size := Nat.lt_of_lt_of_le t_253 E_616.1
    have t_634 : o < h_613.size := Nat.lt_of_lt_of_le t_254 E_616.1
    have t_635 : g < h_613.size := Nat.lt_of_lt_of_le t_255 E_616.1
    have t_636 : r < h_613.size := Nat.lt_of_lt_of_le t_256 E_616.1
    have z_637 : n0 ≤ h_613.size := Nat.le_trans z_257 E_616.1
    have b_638 : h0.size ≤ h_613.size := Nat.le_trans b_258 E_616.1
    have K_639 : Keep h0 h_613 [a] := K_259.ext E_616
    have t_640 : a_614 < h_613.size := A_617.lt
    change Ary Z h_613 a_614 (.array .long) [.null, .null] at A_617
    refine Go.putF (pc' := 43) (ty := (.array (.array .long))) (hw _ (List.mem_of_getElem? (i := 50) rfl)) f_632 f_625 (Or.inl (hw _ (List.mem_of_getElem? (i := 51) rfl))) (hw _ (List.mem_of_getElem? (i := 9) rfl)) (by decide) rfl rfl d7_40 hg rfl ?_
    intro h_641 W_642
    have f_643 : Exa Z h_641 a "com/example/nearword/nearword/internal/index/PointBits" := Exa.wr W_642 f_625
    have f_644 : Exa Z h_641 o "com/example/nearword/nearword/internal/index/IntList" := f_626.sm (Sm.wr W_642 hn_o.symm)
    have f_645 : Fld Z h_641 o "com/example/nearword/nearword/internal/index/IntList" "pieces" "[[I" (.ref g) := f_627.sm (Sm.wr W_642 hn_o.symm)
    have f_646 : Fld Z h_641 o "com/example/nearword/nearword/internal/index/IntList" "start" "I" (.int (0 : Int32)) := f_628.sm (Sm.wr W_642 hn_o.symm)
    have f_647 : Ary Z h_641 g (.array .int) [(.ref r)] := f_629.sm (Sm.wr W_642 hn_g.symm)
    have f_648 : Ary Z h_641 r .int [(.int (3 : Int32)), (.int x), (.int y), (.int z)] := f_630.sm (Sm.wr W_642 hn_r.symm)
    have f_649 : Ary Z h_641 a_614 (.array .long) [.null, .null] := A_617.sm (Sm.wr W_642 n_619.symm)
    have f_650 : Ova Z h_641 a_614 .long "[J" := V_618.sm (Sm.wr W_642 n_619.symm)
    have t_651 : a < h_641.size := Nat.lt_of_lt_of_le t_633 (Nat.le_of_eq W_642.size.symm)
    have t_652 : o < h_641.size := Nat.lt_of_lt_of_le t_634 (Nat.le_of_eq W_642.size.symm)
    have t_653 : g < h_641.size := Nat.lt_of_lt_of_le t_635 (Nat.le_of_eq W_642.size.symm)
    have t_654 : r < h_641.size := Nat.lt_of_lt_of_le t_636 (Nat.le_of_eq W_642.size.symm)
    have t_655 : a_614 < h_641.size := Nat.lt_of_lt_of_le t_640 (Nat.le_of_eq W_642.size.symm)
    have z_656 : n0 ≤ h_641.size := Nat.le_trans z_637 (Nat.le_of_eq W_642.size.symm)
    have b_657 : h0.size ≤ h_641.size := Nat.le_trans b_638 (Nat.le_of_eq W_642.size.symm)
    have K_658 : Keep h0 h_641 [a] := K_639.wr W_642 (Or.inl (List.mem_of_getElem? (i := 0) rfl))
    have f_659 : Fld Z h_641 a "com/example/nearword/nearword/internal/index/PointBits" "words" "I" (.int d_243) := Fld.other W_642 f_631 (Or.inr (slot_ne (Or.inl (hw _ (List.mem_of_getElem? (i := 46) rfl))) (Or.inl (hw _ (List.mem_of_getElem? (i := 51) rfl))) (by decide) (t := .int) (t' := (.array (.array .long))) (by decide) (by decide)))
    have f_660 : Fld Z h_641 a "com/example/nearword/nearword/internal/index/PointBits" "chunks" "[[J" (.ref a_614) := Fld.same W_642 f_632
    refine Go.iconst (pc' := 44) (v := (0 : Int32)) d7_43 rfl rfl ?_
    refine Go.istoreN (pc' := 45) (Ls' := #[.val (.ref a), .val (.ref o), .val (.int t), .val (.int (0 : Int32)), .unset, .unset, .unset, .unset, .unset, .unset]) d7_44 rfl rfl ?_
    refine Go.iloadN (pc' := 46) d7_45 rfl rfl ?_
    refine Go.aloadN (pc' := 47) d7_46 rfl rfl rfl ?_
    refine Go.getF (pc' := 50) (hw _ (List.mem_of_getElem? (i := 50) rfl)) f_660 d7_47 rfl ?_
    refine Go.alen (pc' := 51) (z := (2 : Int32)) f_649 rfl d7_50 rfl ?_
    refine Go.icmp (pc1 := 84) (pc2 := 54) d7_51 (by decide) (by decide) rfl (fun (c_661 : (2 : Int) ≤ (0 : Int)) => ?_) (fun (c_661 : (0 : Int) < (2 : Int)) => ?_)
    · exact absurd c_661 (by decide)
    refine Go.aloadN (pc' := 55) d7_54 rfl rfl rfl ?_
    refine Go.getF (pc' := 58) (hw _ (List.mem_of_getElem? (i := 50) rfl)) f_660 d7_55 rfl ?_
    refine Go.iloadN (pc' := 59) d7_58 rfl rfl ?_
    refine Go.sipush (pc' := 62) (v := (8192 : Int32)) d7_59 rfl rfl ?_
    refine Go.aloadN (pc' := 63) d7_62 rfl rfl rfl ?_
    refine Go.getF (pc' := 66) (hw _ (List.mem_of_getElem? (i := 45) rfl)) f_659 d7_63 rfl ?_
    refine Go.iloadN (pc' := 67) d7_66 rfl rfl ?_
    refine Go.sipush (pc' := 70) (v := (8192 : Int32)) d7_67 rfl rfl ?_
    refine Go.imul (pc' := 71) d7_70 rfl ?_
    show (Go false l ({ frames := 2, cells := 3, slots := 9235, locals := 27 } : Room) Z (⟨"com/example/nearword/nearword/internal/index/PointBits", "<init>", "(Lcom/example/nearword/nearword/internal/index/IntList;I)V"⟩ : MethodName) prog_49_method_1_code 10 none n0 3 9235 (fun v h => v = none ∧ Keep h0 h [a] ∧ ((∃ (g c0 : Addr) (W0 : List Int64), Exa Z h a "com/example/nearword/nearword/internal/index/PointBits" ∧ Fld Z h a "com/example/nearword/nearword/internal/index/PointBits" "chunks" "[[J" (.ref g) ∧ Ary Z h g (.array .long) [.ref c0] ∧ Ary Z h c0 .long (W0.map Value.long) ∧ W0.length ≤ 8192 ∧ ∀ f : Nat, (own_bt W0 f = true ↔ ((f : Int) = x.toInt ∨ (f : Int) = y.toInt ∨ (f : Int) = z.toInt))) ∨ (∃ (g c0 c1 : Addr) (W0 W1 : List Int64), Exa Z h a "com/example/nearword/nearword/internal/index/PointBits" ∧ Fld Z h a "com/example/nearword/nearword/internal/index/PointBits" "chunks" "[[J" (.ref g) ∧ Ary Z h g (.array .long) [.ref c0, .ref c1] ∧ Ary Z h c0 .long (W0.map Value.long) ∧ Ary Z h c1 .long (W1.map Value.long) ∧ W0.length = 8192 ∧ W1.length ≤ 8192 ∧ ∀ f : Nat, (own_bt (W0 ++ W1) f = true ↔ ((f : Int) = x.toInt ∨ (f : Int) = y.toInt ∨ (f : Int) = z.toInt)))))) h_641 (0 + 0 + 1) (0 + 0 + 2) 71 #[.val (.ref a), .val (.ref o), .val (.int t), .val (.int (0 : Int32)), .unset, .unset, .unset, .unset, .unset, .unset] [(.int (0 : Int32)), (.int d_243), (.int (8192 : Int32)), (.int (0 : Int32)), (.ref a_614)]
    refine Go.isub (pc' := 72) d7_71 rfl ?_
    generalize ev_662 : d_243 - (0 : Int32) = v_662
    have k_663 : v_662.toInt = d_243.toInt - 0 := by
      rw [← ev_662]
      have : (0 : Int32).toInt = 0 := by decide
      have := c_isub d_243 (0 : Int32)
      have := rng32 (d_243 - (0 : Int32))
      have := rng32 d_243
      omega
    refine Go.callS (pc' := 75) (argsL := [(.int (8192 : Int32)), (.int v_662)]) (rest := [(.int (0 : Int32)), (.ref a_614)]) (W := 2) (hw _ (List.mem_of_getElem? (i := 52) rfl)) (hw _ (List.mem_of_getElem? (i := 2) rfl)) (hw _ (List.mem_of_getElem? (i := 3) rfl)) (hw _ (List.mem_of_getElem? (i := 4) rfl)) (by decide) (m_min l Z a0 hw (8192 : Int32) v_662 h_641 n0 z_656) d7_72 rfl pd4 rfl rfl (Nat.le_of_eq rfl) (by decide) (by decide) (by decide) (by decide) rfl ?_
    rintro _ _ ⟨s0, rfl, rfl, hs0⟩
    have z8 : (8192 : Int32).toInt = 8192 := rfl
    show (Go false l ({ frames := 2, cells := 3, slots := 9235, locals := 27 } : Room) Z (⟨"com/example/nearword/nearword/internal/index/PointBits", "<init>", "(Lcom/example/nearword/nearword/internal/index/IntList;I)V"⟩ : MethodName) prog_49_method_1_code 10 none n0 3 9235 (fun v h => v = none ∧ Keep h0 h [a] ∧ ((∃ (g c0 : Addr) (W0 : List Int64), Exa Z h a "com/example/nearword/nearword/internal/index/PointBits" ∧ Fld Z h a "com/example/nearword/nearword/internal/index/PointBits" "chunks" "[[J" (.ref g) ∧ Ary Z h g (.array .long) [.ref c0] ∧ Ary Z h c0 .long (W0.map Value.long) ∧ W0.length ≤ 8192 ∧ ∀ f : Nat, (own_bt W0 f = true ↔ ((f : Int) = x.toInt ∨ (f : Int) = y.toInt ∨ (f : Int) = z.toInt))) ∨ (∃ (g c0 c1 : Addr) (W0 W1 : List Int64), Exa Z h a "com/example/nearword/nearword/internal/index/PointBits" ∧ Fld Z h a "com/example/nearword/nearword/internal/index/PointBits" "chunks" "[[J" (.ref g) ∧ Ary Z h g (.array .long) [.ref c0, .ref c1] ∧ Ary Z h c0 .long (W0.map Value.long) ∧ Ary Z h c1 .long (W1.map Value.long) ∧ W0.length = 8192 ∧ W1.length ≤ 8192 ∧ ∀ f : Nat, (own_bt (W0 ++ W1) f = true ↔ ((f : Int) = x.toInt ∨ (f : Int) = y.toInt ∨ (f : Int) = z.toInt)))))) h_641 (0 + 0 + 1 + 0) (0 + 0 + 2 + 0) 75 #[.val (.ref a), .val (.ref o), .val (.int t), .val (.int (0 : Int32)), .unset, .unset, .unset, .unset, .unset, .unset] [(.int s0), (.int (0 : Int32)), (.ref a_614)]
    have ks0 : s0.toInt = 8192 := by omega
    refine Go.newAE (pc' := 77) (k := s0.toInt.toNat) (ty := .long) (cap := 8192) (hw _ (List.mem_of_getElem? (i := 53) rfl)) rfl (ad := "[J") (by decide) (by omega) (by omega) (by decide) d7_75 (by decide) (by decide) rfl ?_
    intro h_664 a_665 q_666 E_667 A_668 X_669
    have n_670 : a ≠ a_665 := Nat.ne_of_lt (q_666 ▸ t_651)
    have n_671 : o ≠ a_665 := Nat.ne_of_lt (q_666 ▸ t_652)
    have n_672 : g ≠ a_665 := Nat.ne_of_lt (q_666 ▸ t_653)
    have n_673 : r ≠ a_665 := Nat.ne_of_lt (q_666 ▸ t_654)
    have n_674 : a_614 ≠ a_665 := Nat.ne_of_lt (q_666 ▸ t_655)
    have g_675 : n0 ≤ a_665 := q_666 ▸ z_656
    have g_676 : h0.size ≤ a_665 := q_666 ▸ b_657
    have f_677 : Exa Z h_664 a "com/example/nearword/nearword/internal/index/PointBits" := f_643.sm (Sm.ext E_667)
    have f_678 : Exa Z h_664 o "com/example/nearword/nearword/internal/index/IntList" := f_644.sm (Sm.ext E_667)
    have f_679 : Fld Z h_664 o "com/example/nearword/nearword/internal/index/IntList" "pieces" "[[I" (.ref g) := f_645.sm (Sm.ext E_667)
    have f_680 : Fld Z h_664 o "com/example/nearword/nearword/internal/index/IntList" "start" "I" (.int (0 : Int32)) := f_646.sm (Sm.ext E_667)
    have f_681 : Ary Z h_664 g (.array .int) [(.ref r)] := f_647.sm (Sm.ext E_667)
    have f_682 : Ary Z h_664 r .int [(.int (3 : Int32)), (.int x), (.int y), (.int z)] := f_648.sm (Sm.ext E_667)
    have f_683 : Ary Z h_664 a_614 (.array .long) [.null, .null] := f_649.sm (Sm.ext E_667)
    have f_684 : Ova Z h_664 a_614 .long "[J" := f_650.sm (Sm.ext E_667)
    have f_685 : Fld Z h_664 a "com/example/nearword/nearword/internal/index/PointBits" "words" "I" (.int d_243) := f_659.sm (Sm.ext E_667)
    have f_686 : Fld Z h_664 a "com/example/nearword/nearword/internal/index/PointBits" "chunks" "[[J" (.ref a_614) := f_660.sm (Sm.ext E_667)
    have t_687 : a < h_664.size := Nat.lt_of_lt_of_le t_651 E_667.1
    have t_688 : o < h_664.size := Nat.lt_of_lt_of_le t_652 E_667.1
    have t_689 : g < h_664.size := Nat.lt_of_lt_of_le t_653 E_667.1
    have t_690 : r < h_664.size := Nat.lt_of_lt_of_le t_654 E_667.1
    have t_691 : a_614 < h_664.size := Nat.lt_of_lt_of_le t_655 E_667.1
    have z_692 : n0 ≤ h_664.size := Nat.le_trans z_656 E_667.1
    have b_693 : h0.size ≤ h_664.size := Nat.le_trans b_657 E_667.1
    have K_694 : Keep h0 h_664 [a] := K_658.ext E_667
    have t_695 : a_665 < h_664.size := A_668.lt
    have y0 : Ary Z h_664 a_665 .long ((List.replicate (s0.toInt.toNat) (0 : Int64)).map Value.long) := A_668.eq (by simp [defaultValue])
    obtain ⟨X0, hX0⟩ : ∃ W : List Int64, W = List.replicate (s0.toInt.toNat) (0 : Int64) := ⟨_, rfl⟩
    rw [← hX0] at y0
    have lx0 : X0.length = s0.toInt.toNat := by rw [hX0]; simp
    refine Go.stR (pc' := 78) (k := 0) f_683 rfl (Sto.ova f_683 f_684 X_669) rfl (by show 0 < 2; decide) d7_77 g_623 rfl ?_
    intro h_696 W_697 A_698
    have f_699 : Exa Z h_696 a "com/example/nearword/nearword/internal/index/PointBits" := f_677.sm (Sm.wr W_697 n_619)
    have f_700 : Exa Z h_696 o "com/example/nearword/nearword/internal/index/IntList" := f_678.sm (Sm.wr W_697 n_620)
    have f_701 : Fld Z h_696 o "com/example/nearword/nearword/internal/index/IntList" "pieces" "[[I" (.ref g) := f_679.sm (Sm.wr W_697 n_620)
    have f_702 : Fld Z h_696 o "com/example/nearword/nearword/internal/index/IntList" "start" "I" (.int (0 : Int32)) := f_680.sm (Sm.wr W_697 n_620)
    have f_703 : Ary Z h_696 g (.array .int) [(.ref r)] := f_681.sm (Sm.wr W_697 n_621)
    have f_704 : Ary Z h_696 r .int [(.int (3 : Int32)), (.int x), (.int y), (.int z)] := f_682.sm (Sm.wr W_697 n_622)
    have f_705 : Ova Z h_696 a_614 .long "[J" := Ova.wr W_697 f_684
    have f_706 : Fld Z h_696 a "com/example/nearword/nearword/internal/index/PointBits" "words" "I" (.int d_243) := f_685.sm (Sm.wr W_697 n_619)
    have f_707 : Fld Z h_696 a "com/example/nearword/nearword/internal/index/PointBits" "chunks" "[[J" (.ref a_614) := f_686.sm (Sm.wr W_697 n_619)
    have f_708 : Ary Z h_696 a_665 .long (X0.map Value.long) := y0.sm (Sm.wr W_697 n_674.symm)
    have f_709 : Exa Z h_696 a_665 "[J" := X_669.sm (Sm.wr W_697 n_674.symm)
    have t_710 : a < h_696.size := Nat.lt_of_lt_of_le t_687 (Nat.le_of_eq W_697.size.symm)
    have t_711 : o < h_696.size := Nat.lt_of_lt_of_le t_688 (Nat.le_of_eq W_697.size.symm)
    have t_712 : g < h_696.size := Nat.lt_of_lt_of_le t_689 (Nat.le_of_eq W_697.size.symm)
    have t_713 : r < h_696.size := Nat.lt_of_lt_of_le t_690 (Nat.le_of_eq W_697.size.symm)
    have t_714 : a_614 < h_696.size := Nat.lt_of_lt_of_le t_691 (Nat.le_of_eq W_697.size.symm)
    have t_715 : a_665 < h_696.size := Nat.lt_of_lt_of_le t_695 (Nat.le_of_eq W_697.size.symm)
    have z_716 : n0 ≤ h_696.size := Nat.le_trans z_692 (Nat.le_of_eq W_697.size.symm)
    have b_717 : h0.size ≤ h_696.size := Nat.le_trans b_693 (Nat.le_of_eq W_697.size.symm)
    have K_718 : Keep h0 h_696 [a] := K_694.wr W_697 (Or.inr g_624)
    change Ary Z h_696 a_614 (.array .long) [(.ref a_665), .null] at A_698
    refine Go.iinc (pc' := 81) (w := (1 : Int32)) (Ls' := #[.val (.ref a), .val (.ref o), .val (.int t), .val (.int (1 : Int32)), .unset, .unset, .unset, .unset, .unset, .unset]) d7_78 rfl rfl rfl rfl ?_
    refine Go.goto (pc' := 45) d7_81 (by decide) (by decide) ?_
    refine Go.iloadN (pc' := 46) d7_45 rfl rfl ?_
    refine Go.aloadN (pc' := 47) d7_46 rfl rfl rfl ?_
    refine Go.getF (pc' := 50) (hw _ (List.mem_of_getElem? (i := 50) rfl)) f_707 d7_47 rfl ?_
    refine Go.alen (pc' := 51) (z := (2 : Int32)) A_698 rfl d7_50 rfl ?_
    refine Go.icmp (pc1 := 84) (pc2 := 54) d7_51 (by decide) (by decide) rfl (fun (c_719 : (2 : Int) ≤ (1 : Int)) => ?_) (fun (c_719 : (1 : Int) < (2 : Int)) => ?_)
    · exact absurd c_719 (by decide)
    refine Go.aloadN (pc' := 55) d7_54 rfl rfl rfl ?_
    refine Go.getF (pc' := 58) (hw _ (List.mem_of_getElem? (i := 50) rfl)) f_707 d7_55 rfl ?_
    refine Go.iloadN (pc' := 59) d7_58 rfl rfl ?_
    refine Go.sipush (pc' := 62) (v := (8192 : Int32)) d7_59 rfl rfl ?_
    refine Go.aloadN (pc' := 63) d7_62 rfl rfl rfl ?_
    refine Go.getF (pc' := 66) (hw _ (List.mem_of_getElem? (i := 45) rfl)) f_706 d7_63 rfl ?_
    refine Go.iloadN (pc' := 67) d7_66 rfl rfl ?_
    refine Go.sipush (pc' := 70) (v := (8192 : Int32)) d7_67 rfl rfl ?_
    refine Go.imul (pc' := 71) d7_70 rfl ?_
    show (Go false l ({ frames := 2, cells := 3, slots := 9235, locals := 27 } : Room) Z (⟨"com/example/nearword/nearword/internal/index/PointBits", "<init>", "(Lcom/example/nearword/nearword/internal/index/IntList;I)V"⟩ : MethodName) prog_49_method_1_code 10 none n0 3 9235 (fun v h => v = none ∧ Keep h0 h [a] ∧ ((∃ (g c0 : Addr) (W0 : List Int64), Exa Z h a "com/example/nearword/nearword/internal/index/PointBits" ∧ Fld Z h a "com/example/nearword/nearword/internal/index/PointBits" "chunks" "[[J" (.ref g) ∧ Ary Z h g (.array .long) [.ref c0] ∧ Ary Z h c0 .long (W0.map Value.long) ∧ W0.length ≤ 8192 ∧ ∀ f : Nat, (own_bt W0 f = true ↔ ((f : Int) = x.toInt ∨ (f : Int) = y.toInt ∨ (f : Int) = z.toInt))) ∨ (∃ (g c0 c1 : Addr) (W0 W1 : List Int64), Exa Z h a "com/example/nearword/nearword/internal/index/PointBits" ∧ Fld Z h a "com/example/nearword/nearword/internal/index/PointBits" "chunks" "[[J" (.ref g) ∧ Ary Z h g (.array .long) [.ref c0, .ref c1] ∧ Ary Z h c0 .long (W0.map Value.long) ∧ Ary Z h c1 .long (W1.map Value.long) ∧ W0.length = 8192 ∧ W1.length ≤ 8192 ∧ ∀ f : Nat, (own_bt (W0 ++ W1) f = true ↔ ((f : Int) = x.toInt ∨ (f : Int) = y.toInt ∨ (f : Int) = z.toInt)))))) h_696 (0 + 0 + 1 + 0 + 1) (0 + 0 + 2 + 0 + 8192) 71 #[.val (.ref a), .val (.ref o), .val (.int t), .val (.int (1 : Int32)), .unset, .unset, .unset, .unset, .unset, .unset] [(.int (8192 : Int32)), (.int d_243), (.int (8192 : Int32)), (.int (1 : Int32)), (.ref a_614)]
    refine Go.isub (pc' := 72) d7_71 rfl ?_
    generalize ev_720 : d_243 - (8192 : Int32) = v_720
    have k_721 : v_720.toInt = d_243.toInt - 8192 := by
      rw [← ev_720]
      have : (8192 : Int32).toInt = 8192 := by decide
      have := c_isub d_243 (8192 : Int32)
      have := rng32 (d_243 - (8192 : Int32))
      have := rng32 d_243
      omega
    refine Go.callS (pc' := 75) (argsL := [(.int (8192 : Int32)), (.int v_720)]) (rest := [(.int (1 : Int32)), (.ref a_614)]) (W := 2) (hw _ (List.mem_of_getElem? (i := 52) rfl)) (hw _ (List.mem_of_getElem? (i := 2) rfl)) (hw _ (List.mem_of_getElem? (i := 3) rfl)) (hw _ (List.mem_of_getElem? (i := 4) rfl)) (by decide) (m_min l Z a0 hw (8192 : Int32) v_720 h_696 n0 z_716) d7_72 rfl pd4 rfl rfl (Nat.le_of_eq rfl) (by decide) (by decide) (by decide) (by decide) rfl ?_
    rintro _ _ ⟨s1, rfl, rfl, hs1⟩
    have z8 : (8192 : Int32).toInt = 8192 := rfl
    show (Go false l ({ frames := 2, cells := 3, slots := 9235, locals := 27 } : Room) Z (⟨"com/example/nearword/nearword/internal/index/PointBits", "<init>", "(Lcom/example/nearword/nearword/internal/index/IntList;I)V"⟩ : MethodName) prog_49_method_1_code 10 none n0 3 9235 (fun v h => v = none ∧ Keep h0 h [a] ∧ ((∃ (g c0 : Addr) (W0 : List Int64), Exa Z h a "com/example/nearword/nearword/internal/index/PointBits" ∧ Fld Z h a "com/example/nearword/nearword/internal/index/PointBits" "chunks" "[[J" (.ref g) ∧ Ary Z h g (.array .long) [.ref c0] ∧ Ary Z h c0 .long (W0.map Value.long) ∧ W0.length ≤ 8192 ∧ ∀ f : Nat, (own_bt W0 f = true ↔ ((f : Int) = x.toInt ∨ (f : Int) = y.toInt ∨ (f : Int) = z.toInt))) ∨ (∃ (g c0 c1 : Addr) (W0 W1 : List Int64), Exa Z h a "com/example/nearword/nearword/internal/index/PointBits" ∧ Fld Z h a "com/example/nearword/nearword/internal/index/PointBits" "chunks" "[[J" (.ref g) ∧ Ary Z h g (.array .long) [.ref c0, .ref c1] ∧ Ary Z h c0 .long (W0.map Value.long) ∧ Ary Z h c1 .long (W1.map Value.long) ∧ W0.length = 8192 ∧ W1.length ≤ 8192 ∧ ∀ f : Nat, (own_bt (W0 ++ W1) f = true ↔ ((f : Int) = x.toInt ∨ (f : Int) = y.toInt ∨ (f : Int) = z.toInt)))))) h_696 (0 + 0 + 1 + 0 + 1 + 0) (0 + 0 + 2 + 0 + 8192 + 0) 75 #[.val (.ref a), .val (.ref o), .val (.int t), .val (.int (1 : Int32)), .unset, .unset, .unset, .unset, .unset, .unset] [(.int s1), (.int (1 : Int32)), (.ref a_614)]
    have ks1 : s1.toInt = d_243.toInt - 8192 := by omega
    refine Go.newAE (pc' := 77) (k := s1.toInt.toNat) (ty := .long) (cap := 1041) (hw _ (List.mem_of_getElem? (i := 53) rfl)) rfl (ad := "[J") (by decide) (by omega) (by omega) (by decide) d7_75 (by decide) (by decide) rfl ?_
    intro h_722 a_723 q_724 E_725 A_726 X_727
    have n_728 : a ≠ a_723 := Nat.ne_of_lt (q_724 ▸ t_710)
    have n_729 : o ≠ a_723 := Nat.ne_of_lt (q_724 ▸ t_711)
    have n_730 : g ≠ a_723 := Nat.ne_of_lt (q_724 ▸ t_712)
    have n_731 : r ≠ a_723 := Nat.ne_of_lt (q_724 ▸ t_713)
    have n_732 : a_614 ≠ a_723 := Nat.ne_of_lt (q_724 ▸ t_714)
    have n_733 : a_665 ≠ a_723 := Nat.ne_of_lt (q_724 ▸ t_715)
    have g_734 : n0 ≤ a_723 := q_724 ▸ z_716
    have g_735 : h0.size ≤ a_723 := q_724 ▸ b_717
    have f_736 : Exa Z h_722 a "com/example/nearword/nearword/internal/index/PointBits" := f_699.sm (Sm.ext E_725)
    have f_737 : Exa Z h_722 o "com/example/nearword/nearword/internal/index/IntList" := f_700.sm (Sm.ext E_725)
    have f_738 : Fld Z h_722 o "com/example/nearword/nearword/internal/index/IntList" "pieces" "[[I" (.ref g) := f_701.sm (Sm.ext E_725)
    have f_739 : Fld Z h_722 o "com/example/nearword/nearword/internal/index/IntList" "start" "I" (.int (0 : Int32)) := f_702.sm (Sm.ext E_725)
    have f_740 : Ary Z h_722 g (.array .int) [(.ref r)] := f_703.sm (Sm.ext E_725)
    have f_741 : Ary Z h_722 r .int [(.int (3 : Int32)), (.int x), (.int y), (.int z)] := f_704.sm (Sm.ext E_725)
    have f_742 : Ova Z h_722 a_614 .long "[J" := f_705.sm (Sm.ext E_725)
    have f_743 : Fld Z h_722 a "com/example/nearword/nearword/internal/index/PointBits" "words" "I" (.int d_243) := f_706.sm (Sm.ext E_725)
    have f_744 : Fld Z h_722 a "com/example/nearword/nearword/internal/index/PointBits" "chunks" "[[J" (.ref a_614) := f_707.sm (Sm.ext E_725)
    have f_745 : Ary Z h_722 a_665 .long (X0.map Value.long) := f_708.sm (Sm.ext E_725)
    have f_746 : Exa Z h_722 a_665 "[J" := f_709.sm (Sm.ext E_725)
    have f_747 : Ary Z h_722 a_614 (.array .long) [(.ref a_665), .null] := A_698.sm (Sm.ext E_725)
    have t_748 : a < h_722.size := Nat.lt_of_lt_of_le t_710 E_725.1
    have t_749 : o < h_722.size := Nat.lt_of_lt_of_le t_711 E_725.1
    have t_750 : g < h_722.size := Nat.lt_of_lt_of_le t_712 E_725.1
    have t_751 : r < h_722.size := Nat.lt_of_lt_of_le t_713 E_725.1
    have t_752 : a_614 < h_722.size := Nat.lt_of_lt_of_le t_714 E_725.1
    have t_753 : a_665 < h_722.size := Nat.lt_of_lt_of_le t_715 E_725.1
    have z_754 : n0 ≤ h_722.size := Nat.le_trans z_716 E_725.1
    have b_755 : h0.size ≤ h_722.size := Nat.le_trans b_717 E_725.1
    have K_756 : Keep h0 h_722 [a] := K_718.ext E_725
    have t_757 : a_723 < h_722.size := A_726.lt
    have y1 : Ary Z h_722 a_723 .long ((List.replicate (s1.toInt.toNat) (0 : Int64)).map Value.long) := A_726.eq (by simp [defaultValue])
    obtain ⟨X1, hX1⟩ : ∃ W : List Int64, W = List.replicate (s1.toInt.toNat) (0 : Int64) := ⟨_, rfl⟩
    rw [← hX1] at y1
    have lx1 : X1.length = s1.toInt.toNat := by rw [hX1]; simp
    refine Go.stR (pc' := 78) (k := 1) f_747 rfl (Sto.ova f_747 f_742 X_727) rfl (by show 1 < 2; decide) d7_77 g_623 rfl ?_
    intro h_758 W_759 A_760
    have f_761 : Exa Z h_758 a "com/example/nearword/nearword/internal/index/PointBits" := f_736.sm (Sm.wr W_759 n_619)
    have f_762 : Exa Z h_758 o "com/example/nearword/nearword/internal/index/IntList" := f_737.sm (Sm.wr W_759 n_620)
    have f_763 : Fld Z h_758 o "com/example/nearword/nearword/internal/index/IntList" "pieces" "[[I" (.ref g) := f_738.sm (Sm.wr W_759 n_620)
    have f_764 : Fld Z h_758 o "com/example/nearword/nearword/internal/index/IntList" "start" "I" (.int (0 : Int32)) := f_739.sm (Sm.wr W_759 n_620)
    have f_765 : Ary Z h_758 g (.array .int) [(.ref r)] := f_740.sm (Sm.wr W_759 n_621)
    have f_766 : Ary Z h_758 r .int [(.int (3 : Int32)), (.int x), (.int y), (.int z)] := f_741.sm (Sm.wr W_759 n_622)
    have f_767 : Ova Z h_758 a_614 .long "[J" := Ova.wr W_759 f_742
    have f_768 : Fld Z h_758 a "com/example/nearword/nearword/internal/index/PointBits" "words" "I" (.int d_243) := f_743.sm (Sm.wr W_759 n_619)
    have f_769 : Fld Z h_758 a "com/example/nearword/nearword/internal/index/PointBits" "chunks" "[[J" (.ref a_614) := f_744.sm (Sm.wr W_759 n_619)
    have f_770 : Ary Z h_758 a_665 .long (X0.map Value.long) := f_745.sm (Sm.wr W_759 n_674.symm)
    have f_771 : Exa Z h_758 a_665 "[J" := f_746.sm (Sm.wr W_759 n_674.symm)
    have f_772 : Ary Z h_758 a_723 .long (X1.map Value.long) := y1.sm (Sm.wr W_759 n_732.symm)
    have f_773 : Exa Z h_758 a_723 "[J" := X_727.sm (Sm.wr W_759 n_732.symm)
    have t_774 : a < h_758.size := Nat.lt_of_lt_of_le t_748 (Nat.le_of_eq W_759.size.symm)
    have t_775 : o < h_758.size := Nat.lt_of_lt_of_le t_749 (Nat.le_of_eq W_759.size.symm)
    have t_776 : g < h_758.size := Nat.lt_of_lt_of_le t_750 (Nat.le_of_eq W_759.size.symm)
    have t_777 : r < h_758.size := Nat.lt_of_lt_of_le t_751 (Nat.le_of_eq W_759.size.symm)
    have t_778 : a_614 < h_758.size := Nat.lt_of_lt_of_le t_752 (Nat.le_of_eq W_759.size.symm)
    have t_779 : a_665 < h_758.size := Nat.lt_of_lt_of_le t_753 (Nat.le_of_eq W_759.size.symm)
    have t_780 : a_723 < h_758.size := Nat.lt_of_lt_of_le t_757 (Nat.le_of_eq W_759.size.symm)
    have z_781 : n0 ≤ h_758.size := Nat.le_trans z_754 (Nat.le_of_eq W_759.size.symm)
    have b_782 : h0.size ≤ h_758.size := Nat.le_trans b_755 (Nat.le_of_eq W_759.size.symm)
    have K_783 : Keep h0 h_758 [a] := K_756.wr W_759 (Or.inr g_624)
    change Ary Z h_758 a_614 (.array .long) [(.ref a_665), (.ref a_723)] at A_760
    refine Go.iinc (pc' := 81) (w := (2 : Int32)) (Ls' := #[.val (.ref a), .val (.ref o), .val (.int t), .val (.int (2 : Int32)), .unset, .unset, .unset, .unset, .unset, .unset]) d7_78 rfl rfl rfl rfl ?_
    refine Go.goto (pc' := 45) d7_81 (by decide) (by decide) ?_
    refine Go.iloadN (pc' := 46) d7_45 rfl rfl ?_
    refine Go.aloadN (pc' := 47) d7_46 rfl rfl rfl ?_
    refine Go.getF (pc' := 50) (hw _ (List.mem_of_getElem? (i := 50) rfl)) f_769 d7_47 rfl ?_
    refine Go.alen (pc' := 51) (z := (2 : Int32)) A_760 rfl d7_50 rfl ?_
    have b0 : ∀ f : Nat, (own_bt (X0 ++ X1) f = true ↔ ((0 : Int) = 1)) := fun f => by rw [hX0, hX1]; exact ⟨fun q => absurd q (own_zero2 _ _ _), fun q => by omega⟩
    have lw : X0.length = 8192 ∧ X1.length ≤ 8192 ∧ (X0.length : Int) + (X1.length : Int) = d_243.toInt := by omega
    refine Go.icmp (pc1 := 84) (pc2 := 54) d7_51 (by decide) (by decide) rfl (fun (c_784 : (2 : Int) ≤ (2 : Int)) => ?_) (fun (c_784 : (2 : Int) < (2 : Int)) => ?_)
    rotate_left
    · exact absurd c_784 (by decide)
    refine Go.iconst (pc' := 85) (v := (0 : Int32)) d7_84 rfl rfl ?_
    refine Go.istoreN (pc' := 86) (Ls' := #[.val (.ref a), .val (.ref o), .val (.int t), .val (.int (0 : Int32)), .unset, .unset, .unset, .unset, .unset, .unset]) d7_85 rfl rfl ?_
    refine Go.iloadN (pc' := 87) d7_86 rfl rfl ?_
    refine Go.aloadN (pc' := 88) d7_87 rfl rfl rfl ?_
    refine Go.callV (pc' := 91) (argsL := []) (rest := [(.int (0 : Int32))]) (W := 1) (hw _ (List.mem_of_getElem? (i := 55) rfl)) (hw _ (List.mem_of_getElem? (i := 56) rfl)) (hw _ (List.mem_of_getElem? (i := 58) rfl)) (hw _ (List.mem_of_getElem? (i := 57) rfl)) (hw _ (List.mem_of_getElem? (i := 14) rfl)) (hw _ (List.mem_of_getElem? (i := 59) rfl)) (by decide) f_762 (m_ps l Z a0 hw o g r x y z h_758 n0 z_781 f_762 f_763 f_764 f_765 f_766) d7_88 rfl pd2 rfl rfl (Nat.le_of_eq rfl) (by decide) (by decide) (by decide) (by decide) rfl ?_
    rintro _ _ ⟨rfl, rfl⟩
    show (Go false l ({ frames := 2, cells := 3, slots := 9235, locals := 27 } : Room) Z (⟨"com/example/nearword/nearword/internal/index/PointBits", "<init>", "(Lcom/example/nearword/nearword/internal/index/IntList;I)V"⟩ : MethodName) prog_49_method_1_code 10 none n0 3 9235 (fun v h => v = none ∧ Keep h0 h [a] ∧ ((∃ (g c0 : Addr) (W0 : List Int64), Exa Z h a "com/example/nearword/nearword/internal/index/PointBits" ∧ Fld Z h a "com/example/nearword/nearword/internal/index/PointBits" "chunks" "[[J" (.ref g) ∧ Ary Z h g (.array .long) [.ref c0] ∧ Ary Z h c0 .long (W0.map Value.long) ∧ W0.length ≤ 8192 ∧ ∀ f : Nat, (own_bt W0 f = true ↔ ((f : Int) = x.toInt ∨ (f : Int) = y.toInt ∨ (f : Int) = z.toInt))) ∨ (∃ (g c0 c1 : Addr) (W0 W1 : List Int64), Exa Z h a "com/example/nearword/nearword/internal/index/PointBits" ∧ Fld Z h a "com/example/nearword/nearword/internal/index/PointBits" "chunks" "[[J" (.ref g) ∧ Ary Z h g (.array .long) [.ref c0, .ref c1] ∧ Ary Z h c0 .long (W0.map Value.long) ∧ Ary Z h c1 .long (W1.map Value.long) ∧ W0.length = 8192 ∧ W1.length ≤ 8192 ∧ ∀ f : Nat, (own_bt (W0 ++ W1) f = true ↔ ((f : Int) = x.toInt ∨ (f : Int) = y.toInt ∨ (f : Int) = z.toInt)))))) h_758 (0 + 0 + 1 + 0 + 1 + 0 + 1 + 0) (0 + 0 + 2 + 0 + 8192 + 0 + 1041 + 0) 91 #[.val (.ref a), .val (.ref o), .val (.int t), .val (.int (0 : Int32)), .unset, .unset, .unset, .unset, .unset, .unset] [(.int (1 : Int32)), (.int (0 : Int32))]
    refine Go.icmp (pc1 := 189) (pc2 := 94) d7_91 (by decide) (by decide) rfl (fun (c_785 : (1 : Int) ≤ (0 : Int)) => ?_) (fun (c_785 : (0 : Int) < (1 : Int)) => ?_)
    · exact absurd c_785 (by decide)
    refine Go.aloadN (pc' := 95) d7_94 rfl rfl rfl ?_
    refine Go.iloadN (pc' := 96) d7_95 rfl rfl ?_
    refine Go.callV (pc' := 99) (argsL := [(.int (0 : Int32))]) (rest := []) (W := 0) (hw _ (List.mem_of_getElem? (i := 60) rfl)) (hw _ (List.mem_of_getElem? (i := 61) rfl)) (hw _ (List.mem_of_getElem? (i := 63) rfl)) (hw _ (List.mem_of_getElem? (i := 62) rfl)) (hw _ (List.mem_of_getElem? (i := 14) rfl)) (hw _ (List.mem_of_getElem? (i := 64) rfl)) (by decide) f_762 (m_pc l Z a0 hw o g r x y z h_758 n0 z_781 f_762 f_763 f_764 f_765 f_766) d7_96 rfl pd5 rfl rfl (Nat.le_of_eq rfl) (by decide) (by decide) (by decide) (by decide) rfl ?_
    rintro _ _ ⟨rfl, rfl⟩
    show (Go false l ({ frames := 2, cells := 3, slots := 9235, locals := 27 } : Room) Z (⟨"com/example/nearword/nearword/internal/index/PointBits", "<init>", "(Lcom/example/nearword/nearword/internal/index/IntList;I)V"⟩ : MethodName) prog_49_method_1_code 10 none n0 3 9235 (fun v h => v = none ∧ Keep h0 h [a] ∧ ((∃ (g c0 : Addr) (W0 : List Int64), Exa Z h a "com/example/nearword/nearword/internal/index/PointBits" ∧ Fld Z h a "com/example/nearword/nearword/internal/index/PointBits" "chunks" "[[J" (.ref g) ∧ Ary Z h g (.array .long) [.ref c0] ∧ Ary Z h c0 .long (W0.map Value.long) ∧ W0.length ≤ 8192 ∧ ∀ f : Nat, (own_bt W0 f = true ↔ ((f : Int) = x.toInt ∨ (f : Int) = y.toInt ∨ (f : Int) = z.toInt))) ∨ (∃ (g c0 c1 : Addr) (W0 W1 : List Int64), Exa Z h a "com/example/nearword/nearword/internal/index/PointBits" ∧ Fld Z h a "com/example/nearword/nearword/internal/index/PointBits" "chunks" "[[J" (.ref g) ∧ Ary Z h g (.array .long) [.ref c0, .ref c1] ∧ Ary Z h c0 .long (W0.map Value.long) ∧ Ary Z h c1 .long (W1.map Value.long) ∧ W0.length = 8192 ∧ W1.length ≤ 8192 ∧ ∀ f : Nat, (own_bt (W0 ++ W1) f = true ↔ ((f : Int) = x.toInt ∨ (f : Int) = y.toInt ∨ (f : Int) = z.toInt)))))) h_758 (0 + 0 + 1 + 0 + 1 + 0 + 1 + 0 + 0) (0 + 0 + 2 + 0 + 8192 + 0 + 1041 + 0 + 0) 99 #[.val (.ref a), .val (.ref o), .val (.int t), .val (.int (0 : Int32)), .unset, .unset, .unset, .unset, .unset, .unset] [(.ref r)]
    refine Go.astore (pc' := 101) (Ls' := #[.val (.ref a), .val (.ref o), .val (.int t), .val (.int (0 : Int32)), .val (.ref r), .unset, .unset, .unset, .unset, .unset]) d7_99 rfl rfl rfl ?_
    refine Go.aloadN (pc' := 102) d7_101 rfl rfl rfl ?_
    refine Go.iloadN (pc' := 103) d7_102 rfl rfl ?_
    refine Go.callV (pc' := 106) (argsL := [(.int (0 : Int32))]) (rest := []) (W := 0) (hw _ (List.mem_of_getElem? (i := 65) rfl)) (hw _ (List.mem_of_getElem? (i := 66) rfl)) (hw _ (List.mem_of_getElem? (i := 68) rfl)) (hw _ (List.mem_of_getElem? (i := 67) rfl)) (hw _ (List.mem_of_getElem? (i := 14) rfl)) (hw _ (List.mem_of_getElem? (i := 69) rfl)) (by decide) f_762 (m_to l Z a0 hw o g r x y z h_758 n0 z_781 f_762 f_763 f_764 f_765 f_766) d7_103 rfl pd3 rfl rfl (Nat.le_of_eq rfl) (by decide) (by decide) (by decide) (by decide) rfl ?_
    rintro _ _ ⟨rfl, rfl⟩
    show (Go false l ({ frames := 2, cells := 3, slots := 9235, locals := 27 } : Room) Z (⟨"com/example/nearword/nearword/internal/index/PointBits", "<init>", "(Lcom/example/nearword/nearword/internal/index/IntList;I)V"⟩ : MethodName) prog_49_method_1_code 10 none n0 3 9235 (fun v h => v = none ∧ Keep h0 h [a] ∧ ((∃ (g c0 : Addr) (W0 : List Int64), Exa Z h a "com/example/nearword/nearword/internal/index/PointBits" ∧ Fld Z h a "com/example/nearword/nearword/internal/index/PointBits" "chunks" "[[J" (.ref g) ∧ Ary Z h g (.array .long) [.ref c0] ∧ Ary Z h c0 .long (W0.map Value.long) ∧ W0.length ≤ 8192 ∧ ∀ f : Nat, (own_bt W0 f = true ↔ ((f : Int) = x.toInt ∨ (f : Int) = y.toInt ∨ (f : Int) = z.toInt))) ∨ (∃ (g c0 c1 : Addr) (W0 W1 : List Int64), Exa Z h a "com/example/nearword/nearword/internal/index/PointBits" ∧ Fld Z h a "com/example/nearword/nearword/internal/index/PointBits" "chunks" "[[J" (.ref g) ∧ Ary Z h g (.array .long) [.ref c0, .ref c1] ∧ Ary Z h c0 .long (W0.map Value.long) ∧ Ary Z h c1 .long (W1.map Value.long) ∧ W0.length = 8192 ∧ W1.length ≤ 8192 ∧ ∀ f : Nat, (own_bt (W0 ++ W1) f = true ↔ ((f : Int) = x.toInt ∨ (f : Int) = y.toInt ∨ (f : Int) = z.toInt)))))) h_758 (0 + 0 + 1 + 0 + 1 + 0 + 1 + 0 + 0 + 0) (0 + 0 + 2 + 0 + 8192 + 0 + 1041 + 0 + 0 + 0) 106 #[.val (.ref a), .val (.ref o), .val (.int t), .val (.int (0 : Int32)), .val (.ref r), .unset, .unset, .unset, .unset, .unset] [(.int (4 : Int32))]
    refine Go.istore (pc' := 108) (Ls' := #[.val (.ref a), .val (.ref o), .val (.int t), .val (.int (0 : Int32)), .val (.ref r), .val (.int (4 : Int32)), .unset, .unset, .unset, .unset]) d7_106 rfl rfl ?_
    refine Go.aloadN (pc' := 109) d7_108 rfl rfl rfl ?_
    refine Go.callV (pc' := 112) (argsL := []) (rest := []) (W := 0) (hw _ (List.mem_of_getElem? (i := 79) rfl)) (hw _ (List.mem_of_getElem? (i := 71) rfl)) (hw _ (List.mem_of_getElem? (i := 73) rfl)) (hw _ (List.mem_of_getElem? (i := 72) rfl)) (hw _ (List.mem_of_getElem? (i := 14) rfl)) (hw _ (List.mem_of_getElem? (i := 74) rfl)) (by decide) f_762 (m_fr l Z a0 hw o g r x y z h_758 n0 z_781 f_762 f_763 f_764 f_765 f_766) d7_109 rfl pd2 rfl rfl (Nat.le_of_eq rfl) (by decide) (by decide) (by decide) (by decide) rfl ?_
    rintro _ _ ⟨rfl, rfl⟩
    show (Go false l ({ frames := 2, cells := 3, slots := 9235, locals := 27 } : Room) Z (⟨"com/example/nearword/nearword/internal/index/PointBits", "<init>", "(Lcom/example/nearword/nearword/internal/index/IntList;I)V"⟩ : MethodName) prog_49_method_1_code 10 none n0 3 9235 (fun v h => v = none ∧ Keep h0 h [a] ∧ ((∃ (g c0 : Addr) (W0 : List Int64), Exa Z h a "com/example/nearword/nearword/internal/index/PointBits" ∧ Fld Z h a "com/example/nearword/nearword/internal/index/PointBits" "chunks" "[[J" (.ref g) ∧ Ary Z h g (.array .long) [.ref c0] ∧ Ary Z h c0 .long (W0.map Value.long) ∧ W0.length ≤ 8192 ∧ ∀ f : Nat, (own_bt W0 f = true ↔ ((f : Int) = x.toInt ∨ (f : Int) = y.toInt ∨ (f : Int) = z.toInt))) ∨ (∃ (g c0 c1 : Addr) (W0 W1 : List Int64), Exa Z h a "com/example/nearword/nearword/internal/index/PointBits" ∧ Fld Z h a "com/example/nearword/nearword/internal/index/PointBits" "chunks" "[[J" (.ref g) ∧ Ary Z h g (.array .long) [.ref c0, .ref c1] ∧ Ary Z h c0 .long (W0.map Value.long) ∧ Ary Z h c1 .long (W1.map Value.long) ∧ W0.length = 8192 ∧ W1.length ≤ 8192 ∧ ∀ f : Nat, (own_bt (W0 ++ W1) f = true ↔ ((f : Int) = x.toInt ∨ (f : Int) = y.toInt ∨ (f : Int) = z.toInt)))))) h_758 (0 + 0 + 1 + 0 + 1 + 0 + 1 + 0 + 0 + 0 + 0) (0 + 0 + 2 + 0 + 8192 + 0 + 1041 + 0 + 0 + 0 + 0) 112 #[.val (.ref a), .val (.ref o), .val (.int t), .val (.int (0 : Int32)), .val (.ref r), .val (.int (4 : Int32)), .unset, .unset, .unset, .unset] [(.int (1 : Int32))]
    refine Go.istore (pc' := 114) (Ls' := #[.val (.ref a), .val (.ref o), .val (.int t), .val (.int (0 : Int32)), .val (.ref r), .val (.int (4 : Int32)), .val (.int (1 : Int32)), .unset, .unset, .unset]) d7_112 rfl rfl ?_
    refine Go.iload (pc' := 116) d7_114 rfl rfl ?_
    refine Go.iload (pc' := 118) d7_116 rfl rfl ?_
    refine Go.icmp (pc1 := 183) (pc2 := 121) d7_118 (by decide) (by decide) rfl (fun (c_786 : (4 : Int) ≤ (1 : Int)) => ?_) (fun (c_786 : (1 : Int) < (4 : Int)) => ?_)
    · exact absurd c_786 (by decide)
    refine Go.aload (pc' := 123) d7_121 rfl rfl rfl ?_
    refine Go.iload (pc' := 125) d7_123 rfl rfl ?_
    refine Go.ldI (pc' := 126) (k := 1) (v := (.int x)) f_766 rfl rfl d7_125 rfl ?_
    refine Go.bipush (pc' := 128) (v := (6 : Int32)) d7_126 rfl rfl ?_
    refine Go.iushr (pc' := 129) d7_128 rfl ?_
    generalize ew_787 : (x.toUInt32 >>> ((6 : Int32) &&& 31).toUInt32).toInt32 = w_787
    have k_788 : w_787.toInt = x.toInt / 64 := by
      rw [← ew_787]
      have : (6 : Int32).toInt = 6 := by decide
      have := c_iushr x (6 : Int32) 6 (by decide) (by decide)
      have := rng32 ((x.toUInt32 >>> ((6 : Int32) &&& 31).toUInt32).toInt32)
      have := rng32 x
      omega
    refine Go.istore (pc' := 131) (Ls' := #[.val (.ref a), .val (.ref o), .val (.int t), .val (.int (0 : Int32)), .val (.ref r), .val (.int (4 : Int32)), .val (.int (1 : Int32)), .val (.int w_787), .unset, .unset]) d7_129 rfl rfl ?_
    refine Go.lconst (pc' := 132) (v := (0 : Int64)) d7_131 rfl rfl ?_
    refine Go.lstore (pc' := 134) (Ls' := #[.val (.ref a), .val (.ref o), .val (.int t), .val (.int (0 : Int32)), .val (.ref r), .val (.int (4 : Int32)), .val (.int (1 : Int32)), .val (.int w_787), .val (.long (0 : Int64)), .second]) d7_132 rfl rfl ?_
    refine Go.iload (pc' := 136) d7_134 rfl rfl ?_
    refine Go.iload (pc' := 138) d7_136 rfl rfl ?_
    refine Go.icmp (pc1 := 172) (pc2 := 141) d7_138 (by decide) (by decide) rfl (fun (c_789 : (4 : Int) ≤ (1 : Int)) => ?_) (fun (c_789 : (1 : Int) < (4 : Int)) => ?_)
    · exact absurd c_789 (by decide)
    refine Go.aload (pc' := 143) d7_141 rfl rfl rfl ?_
    refine Go.iload (pc' := 145) d7_143 rfl rfl ?_
    refine Go.ldI (pc' := 146) (k := 1) (v := (.int x)) f_766 rfl rfl d7_145 rfl ?_
    refine Go.bipush (pc' := 148) (v := (6 : Int32)) d7_146 rfl rfl ?_
    refine Go.iushr (pc' := 149) d7_148 rfl ?_
    generalize eu_790 : (x.toUInt32 >>> ((6 : Int32) &&& 31).toUInt32).toInt32 = u_790
    have k_791 : u_790.toInt = x.toInt / 64 := by
      rw [← eu_790]
      have : (6 : Int32).toInt = 6 := by decide
      have := c_iushr x (6 : Int32) 6 (by decide) (by decide)
      have := rng32 ((x.toUInt32 >>> ((6 : Int32) &&& 31).toUInt32).toInt32)
      have := rng32 x
      omega
    refine Go.iload (pc' := 151) d7_149 rfl rfl ?_
    refine Go.icmp (pc1 := 172) (pc2 := 154) d7_151 (by decide) (by decide) rfl (fun (c_792 : u_790.toInt ≠ w_787.toInt) => ?_) (fun (c_792 : u_790.toInt = w_787.toInt) => ?_)
    · exfalso; omega
    refine Go.lload (pc' := 156) d7_154 rfl rfl ?_
    refine Go.lconst (pc' := 157) (v := (1 : Int64)) d7_156 rfl rfl ?_
    refine Go.aload (pc' := 159) d7_157 rfl rfl rfl ?_
    refine Go.iload (pc' := 161) d7_159 rfl rfl ?_
    refine Go.ldI (pc' := 162) (k := 1) (v := (.int x)) f_766 rfl rfl d7_161 rfl ?_
    refine Go.lshl (pc' := 163) d7_162 rfl ?_
    refine Go.lor (pc' := 164) d7_163 rfl ?_
    generalize eb_793 : (0 : Int64) ||| ((1 : Int64) <<< (x &&& 0x3f).toInt64) = b_793
    have hb_b_793 : ∀ j : Nat, j < 64 → (b_793.toBitVec.getLsbD j = true ↔ (j = x.toInt.toNat % 64)) := fun j hj => by
      rw [← eb_793]
      exact (own_orb _ x (by omega) j hj _ (own_z0 j)).trans (iff_of_eq (false_or _))
    refine Go.lstore (pc' := 166) (Ls' := #[.val (.ref a), .val (.ref o), .val (.int t), .val (.int (0 : Int32)), .val (.ref r), .val (.int (4 : Int32)), .val (.int (1 : Int32)), .val (.int w_787), .val (.long b_793), .second]) d7_164 rfl rfl ?_
    refine Go.iinc (pc' := 169) (w := (2 : Int32)) (Ls' := #[.val (.ref a), .val (.ref o), .val (.int t), .val (.int (0 : Int32)), .val (.ref r), .val (.int (4 : Int32)), .val (.int (2 : Int32)), .val (.int w_787), .val (.long b_793), .second]) d7_166 rfl rfl rfl rfl ?_
    refine Go.goto (pc' := 134) d7_169 (by decide) (by decide) ?_
    refine Go.iload (pc' := 136) d7_134 rfl rfl ?_
    refine Go.iload (pc' := 138) d7_136 rfl rfl ?_
    refine Go.icmp (pc1 := 172) (pc2 := 141) d7_138 (by decide) (by decide) rfl (fun (c_794 : (4 : Int) ≤ (2 : Int)) => ?_) (fun (c_794 : (2 : Int) < (4 : Int)) => ?_)
    · exact absurd c_794 (by decide)
    refine Go.aload (pc' := 143) d7_141 rfl rfl rfl ?_
    refine Go.iload (pc' := 145) d7_143 rfl rfl ?_
    refine Go.ldI (pc' := 146) (k := 2) (v := (.int y)) f_766 rfl rfl d7_145 rfl ?_
    refine Go.bipush (pc' := 148) (v := (6 : Int32)) d7_146 rfl rfl ?_
    refine Go.iushr (pc' := 149) d7_148 rfl ?_
    generalize eu_795 : (y.toUInt32 >>> ((6 : Int32) &&& 31).toUInt32).toInt32 = u_795
    have k_796 : u_795.toInt = y.toInt / 64 := by
      rw [← eu_795]
      have : (6 : Int32).toInt = 6 := by decide
      have := c_iushr y (6 : Int32) 6 (by decide) (by decide)
      have := rng32 ((y.toUInt32 >>> ((6 : Int32) &&& 31).toUInt32).toInt32)
      have := rng32 y
      omega
    refine Go.iload (pc' := 151) d7_149 rfl rfl ?_
    refine Go.icmp (pc1 := 172) (pc2 := 154) d7_151 (by decide) (by decide) rfl (fun (c_797 : u_795.toInt ≠ w_787.toInt) => ?_) (fun (c_797 : u_795.toInt = w_787.toInt) => ?_)
    · refine Go.aloadN (pc' := 173) d7_172 rfl rfl rfl ?_
      refine Go.iload (pc' := 175) d7_173 rfl rfl ?_
      refine Go.lload (pc' := 177) d7_175 rfl rfl ?_
      refine Go.callP (pc' := 180) (argsL := [(.int w_787), (.long b_793)]) (rest := []) (W := 0) (hw _ (List.mem_of_getElem? (i := 80) rfl)) (hw _ (List.mem_of_getElem? (i := 81) rfl)) (hw _ (List.mem_of_getElem? (i := 82) rfl)) (hw _ (List.mem_of_getElem? (i := 10) rfl)) (hw _ (List.mem_of_getElem? (i := 83) rfl)) (hw _ (List.mem_of_getElem? (i := 87) rfl)) rfl (by decide) f_761 (m_ab2 l Z a0 hw a a_614 a_665 a_723 X0 X1 w_787 b_793 h_758 n0 z_781 f_761 f_769 A_760 f_770 f_772 (by omega) (by omega) (by omega) (by omega) g_675 n_670 n_674 g_734 n_728 n_732 n_733) d7_177 rfl pd6 rfl rfl (Nat.le_of_eq rfl) (by decide) (by decide) (by decide) (by decide) rfl ?_
      rintro _ h_798 ⟨rfl, V_800, V_801, K_799, A_802, A_803, l_804, l_805, hbt0⟩
      have f_806 : Exa Z h_798 a "com/example/nearword/nearword/internal/index/PointBits" := f_761.sm (Sm.keep K_799 (ninS n_670 (ninS n_728 nin0)))
      have f_807 : Exa Z h_798 o "com/example/nearword/nearword/internal/index/IntList" := f_762.sm (Sm.keep K_799 (ninS n_671 (ninS n_729 nin0)))
      have f_808 : Fld Z h_798 o "com/example/nearword/nearword/internal/index/IntList" "pieces" "[[I" (.ref g) := f_763.sm (Sm.keep K_799 (ninS n_671 (ninS n_729 nin0)))
      have f_809 : Fld Z h_798 o "com/example/nearword/nearword/internal/index/IntList" "start" "I" (.int (0 : Int32)) := f_764.sm (Sm.keep K_799 (ninS n_671 (ninS n_729 nin0)))
      have f_810 : Ary Z h_798 g (.array .int) [(.ref r)] := f_765.sm (Sm.keep K_799 (ninS n_672 (ninS n_730 nin0)))
      have f_811 : Ary Z h_798 r .int [(.int (3 : Int32)), (.int x), (.int y), (.int z)] := f_766.sm (Sm.keep K_799 (ninS n_673 (ninS n_731 nin0)))
      have f_812 : Ova Z h_798 a_614 .long "[J" := f_767.sm (Sm.keep K_799 (ninS n_674 (ninS n_732 nin0)))
      have f_813 : Fld Z h_798 a "com/example/nearword/nearword/internal/index/PointBits" "words" "I" (.int d_243) := f_768.sm (Sm.keep K_799 (ninS n_670 (ninS n_728 nin0)))
      have f_814 : Fld Z h_798 a "com/example/nearword/nearword/internal/index/PointBits" "chunks" "[[J" (.ref a_614) := f_769.sm (Sm.keep K_799 (ninS n_670 (ninS n_728 nin0)))
      have f_816 : Exa Z h_798 a_665 "[J" := f_771.keep K_799
      have f_818 : Exa Z h_798 a_723 "[J" := f_773.keep K_799
      have f_819 : Ary Z h_798 a_614 (.array .long) [(.ref a_665), (.ref a_723)] := A_760.sm (Sm.keep K_799 (ninS n_674 (ninS n_732 nin0)))
      have t_820 : a < h_798.size := Nat.lt_of_lt_of_le t_774 K_799.1
      have t_821 : o < h_798.size := Nat.lt_of_lt_of_le t_775 K_799.1
      have t_822 : g < h_798.size := Nat.lt_of_lt_of_le t_776 K_799.1
      have t_823 : r < h_798.size := Nat.lt_of_lt_of_le t_777 K_799.1
      have t_824 : a_614 < h_798.size := Nat.lt_of_lt_of_le t_778 K_799.1
      have t_825 : a_665 < h_798.size := Nat.lt_of_lt_of_le t_779 K_799.1
      have t_826 : a_723 < h_798.size := Nat.lt_of_lt_of_le t_780 K_799.1
      have z_827 : n0 ≤ h_798.size := Nat.le_trans z_781 K_799.1
      have b_828 : h0.size ≤ h_798.size := Nat.le_trans b_782 K_799.1
      have K_829 : Keep h0 h_798 [a] := K_783.trans K_799 (allS (Or.inr g_676) (allS (Or.inr g_735) all0))
      have bb1 : ∀ f : Nat, (own_bt (V_800 ++ V_801) f = true ↔ ((f : Int) = x.toInt)) := fun f => by
        rw [hbt0 f, b0 f, hb_b_793 (f % 64) (Nat.mod_lt _ (by decide))]
        omega
      show (Go false l ({ frames := 2, cells := 3, slots := 9235, locals := 27 } : Room) Z (⟨"com/example/nearword/nearword/internal/index/PointBits", "<init>", "(Lcom/example/nearword/nearword/internal/index/IntList;I)V"⟩ : MethodName) prog_49_method_1_code 10 none n0 3 9235 (fun v h => v = none ∧ Keep h0 h [a] ∧ ((∃ (g c0 : Addr) (W0 : List Int64), Exa Z h a "com/example/nearword/nearword/internal/index/PointBits" ∧ Fld Z h a "com/example/nearword/nearword/internal/index/PointBits" "chunks" "[[J" (.ref g) ∧ Ary Z h g (.array .long) [.ref c0] ∧ Ary Z h c0 .long (W0.map Value.long) ∧ W0.length ≤ 8192 ∧ ∀ f : Nat, (own_bt W0 f = true ↔ ((f : Int) = x.toInt ∨ (f : Int) = y.toInt ∨ (f : Int) = z.toInt))) ∨ (∃ (g c0 c1 : Addr) (W0 W1 : List Int64), Exa Z h a "com/example/nearword/nearword/internal/index/PointBits" ∧ Fld Z h a "com/example/nearword/nearword/internal/index/PointBits" "chunks" "[[J" (.ref g) ∧ Ary Z h g (.array .long) [.ref c0, .ref c1] ∧ Ary Z h c0 .long (W0.map Value.long) ∧ Ary Z h c1 .long (W1.map Value.long) ∧ W0.length = 8192 ∧ W1.length ≤ 8192 ∧ ∀ f : Nat, (own_bt (W0 ++ W1) f = true ↔ ((f : Int) = x.toInt ∨ (f : Int) = y.toInt ∨ (f : Int) = z.toInt)))))) h_798 (0 + 0 + 1 + 0 + 1 + 0 + 1 + 0 + 0 + 0 + 0 + 0) (0 + 0 + 2 + 0 + 8192 + 0 + 1041 + 0 + 0 + 0 + 0 + 0) 180 #[.val (.ref a), .val (.ref o), .val (.int t), .val (.int (0 : Int32)), .val (.ref r), .val (.int (4 : Int32)), .val (.int (2 : Int32)), .val (.int w_787), .val (.long b_793), .second] []
      refine Go.goto (pc' := 114) d7_180 (by decide) (by decide) ?_
      refine Go.iload (pc' := 116) d7_114 rfl rfl ?_
      refine Go.iload (pc' := 118) d7_116 rfl rfl ?_
      refine Go.icmp (pc1 := 183) (pc2 := 121) d7_118 (by decide) (by decide) rfl (fun (c_830 : (4 : Int) ≤ (2 : Int)) => ?_) (fun (c_830 : (2 : Int) < (4 : Int)) => ?_)
      · exact absurd c_830 (by decide)
      refine Go.aload (pc' := 123) d7_121 rfl rfl rfl ?_
      refine Go.iload (pc' := 125) d7_123 rfl rfl ?_
      refine Go.ldI (pc' := 126) (k := 2) (v := (.int y)) f_811 rfl rfl d7_125 rfl ?_
      refine Go.bipush (pc' := 128) (v := (6 : Int32)) d7_126 rfl rfl ?_
      refine Go.iushr (pc' := 129) d7_128 rfl ?_
      generalize ew_831 : (y.toUInt32 >>> ((6 : Int32) &&& 31).toUInt32).toInt32 = w_831
      have k_832 : w_831.toInt = y.toInt / 64 := by
        rw [← ew_831]
        have : (6 : Int32).toInt = 6 := by decide
        have := c_iushr y (6 : Int32) 6 (by decide) (by decide)
        have := rng32 ((y.toUInt32 >>> ((6 : Int32) &&& 31).toUInt32).toInt32)
        have := rng32 y
        omega
      refine Go.istore (pc' := 131) (Ls' := #[.val (.ref a), .val (.ref o), .val (.int t), .val (.int (0 : Int32)), .val (.ref r), .val (.int (4 : Int32)), .val (.int (2 : Int32)), .val (.int w_831), .val (.long b_793), .second]) d7_129 rfl rfl ?_
      refine Go.lconst (pc' := 132) (v := (0 : Int64)) d7_131 rfl rfl ?_
      refine Go.lstore (pc' := 134) (Ls' := #[.val (.ref a), .val (.ref o), .val (.int t), .val (.int (0 : Int32)), .val (.ref r), .val (.int (4 : Int32)), .val (.int (2 : Int32)), .val (.int w_831), .val (.long (0 : Int64)), .second]) d7_132 rfl rfl ?_
      refine Go.iload (pc' := 136) d7_134 rfl rfl ?_
      refine Go.iload (pc' := 138) d7_136 rfl rfl ?_
      refine Go.icmp (pc1 := 172) (pc2 := 141) d7_138 (by decide) (by decide) rfl (fun (c_833 : (4 : Int) ≤ (2 : Int)) => ?_) (fun (c_833 : (2 : Int) < (4 : Int)) => ?_)
      · exact absurd c_833 (by decide)
      refine Go.aload (pc' := 143) d7_141 rfl rfl rfl ?_
      refine Go.iload (pc' := 145) d7_143 rfl rfl ?_
      refine Go.ldI (pc' := 146) (k := 2) (v := (.int y)) f_811 rfl rfl d7_145 rfl ?_
      refine Go.bipush (pc' := 148) (v := (6 : Int32)) d7_146 rfl rfl ?_
      refine Go.iushr (pc' := 149) d7_148 rfl ?_
      generalize eu_834 : (y.toUInt32 >>> ((6 : Int32) &&& 31).toUInt32).toInt32 = u_834
      have k_835 : u_834.toInt = y.toInt / 64 := by
        rw [← eu_834]
        have : (6 : Int32).toInt = 6 := by decide
        have := c_iushr y (6 : Int32) 6 (by decide) (by decide)
        have := rng32 ((y.toUInt32 >>> ((6 : Int32) &&& 31).toUInt32).toInt32)
        have := rng32 y
        omega
      refine Go.iload (pc' := 151) d7_149 rfl rfl ?_
      refine Go.icmp (pc1 := 172) (pc2 := 154) d7_151 (by decide) (by decide) rfl (fun (c_836 : u_834.toInt ≠ w_831.toInt) => ?_) (fun (c_836 : u_834.toInt = w_831.toInt) => ?_)
      · exfalso; omega
      refine Go.lload (pc' := 156) d7_154 rfl rfl ?_
      refine Go.lconst (pc' := 157) (v := (1 : Int64)) d7_156 rfl rfl ?_
      refine Go.aload (pc' := 159) d7_157 rfl rfl rfl ?_
      refine Go.iload (pc' := 161) d7_159 rfl rfl ?_
      refine Go.ldI (pc' := 162) (k := 2) (v := (.int y)) f_811 rfl rfl d7_161 rfl ?_
      refine Go.lshl (pc' := 163) d7_162 rfl ?_
      refine Go.lor (pc' := 164) d7_163 rfl ?_
      generalize eb_837 : (0 : Int64) ||| ((1 : Int64) <<< (y &&& 0x3f).toInt64) = b_837
      have hb_b_837 : ∀ j : Nat, j < 64 → (b_837.toBitVec.getLsbD j = true ↔ (j = y.toInt.toNat % 64)) := fun j hj => by
        rw [← eb_837]
        exact (own_orb _ y (by omega) j hj _ (own_z0 j)).trans (iff_of_eq (false_or _))
      refine Go.lstore (pc' := 166) (Ls' := #[.val (.ref a), .val (.ref o), .val (.int t), .val (.int (0 : Int32)), .val (.ref r), .val (.int (4 : Int32)), .val (.int (2 : Int32)), .val (.int w_831), .val (.long b_837), .second]) d7_164 rfl rfl ?_
      refine Go.iinc (pc' := 169) (w := (3 : Int32)) (Ls' := #[.val (.ref a), .val (.ref o), .val (.int t), .val (.int (0 : Int32)), .val (.ref r), .val (.int (4 : Int32)), .val (.int (3 : Int32)), .val (.int w_831), .val (.long b_837), .second]) d7_166 rfl rfl rfl rfl ?_
      refine Go.goto (pc' := 134) d7_169 (by decide) (by decide) ?_
      refine Go.iload (pc' := 136) d7_134 rfl rfl ?_
      refine Go.iload (pc' := 138) d7_136 rfl rfl ?_
      refine Go.icmp (pc1 := 172) (pc2 := 141) d7_138 (by decide) (by decide) rfl (fun (c_838 : (4 : Int) ≤ (3 : Int)) => ?_) (fun (c_838 : (3 : Int) < (4 : Int)) => ?_)
      · exact absurd c_838 (by decide)
      refine Go.aload (pc' := 143) d7_141 rfl rfl rfl ?_
      refine Go.iload (pc' := 145) d7_143 rfl rfl ?_
      refine Go.ldI (pc' := 146) (k := 3) (v := (.int z)) f_811 rfl rfl d7_145 rfl ?_
      refine Go.bipush (pc' := 148) (v := (6 : Int32)) d7_146 rfl rfl ?_
      refine Go.iushr (pc' := 149) d7_148 rfl ?_
      generalize eu_839 : (z.toUInt32 >>> ((6 : Int32) &&& 31).toUInt32).toInt32 = u_839
      have k_840 : u_839.toInt = z.toInt / 64 := by
        rw [← eu_839]
        have : (6 : Int32).toInt = 6 := by decide
        have := c_iushr z (6 : Int32) 6 (by decide) (by decide)
        have := rng32 ((z.toUInt32 >>> ((6 : Int32) &&& 31).toUInt32).toInt32)
        have := rng32 z
        omega
      refine Go.iload (pc' := 151) d7_149 rfl rfl ?_
      refine Go.icmp (pc1 := 172) (pc2 := 154) d7_151 (by decide) (by decide) rfl (fun (c_841 : u_839.toInt ≠ w_831.toInt) => ?_) (fun (c_841 : u_839.toInt = w_831.toInt) => ?_)
      · refine Go.aloadN (pc' := 173) d7_172 rfl rfl rfl ?_
        refine Go.iload (pc' := 175) d7_173 rfl rfl ?_
        refine Go.lload (pc' := 177) d7_175 rfl rfl ?_
        refine Go.callP (pc' := 180) (argsL := [(.int w_831), (.long b_837)]) (rest := []) (W := 0) (hw _ (List.mem_of_getElem? (i := 80) rfl)) (hw _ (List.mem_of_getElem? (i := 81) rfl)) (hw _ (List.mem_of_getElem? (i := 82) rfl)) (hw _ (List.mem_of_getElem? (i := 10) rfl)) (hw _ (List.mem_of_getElem? (i := 83) rfl)) (hw _ (List.mem_of_getElem? (i := 87) rfl)) rfl (by decide) f_806 (m_ab2 l Z a0 hw a a_614 a_665 a_723 V_800 V_801 w_831 b_837 h_798 n0 z_827 f_806 f_814 f_819 A_802 A_803 (by omega) (by omega) (by omega) (by omega) g_675 n_670 n_674 g_734 n_728 n_732 n_733) d7_177 rfl pd6 rfl rfl (Nat.le_of_eq rfl) (by decide) (by decide) (by decide) (by decide) rfl ?_
        rintro _ h_842 ⟨rfl, V_844, V_845, K_843, A_846, A_847, l_848, l_849, hbt1⟩
        have f_850 : Exa Z h_842 a "com/example/nearword/nearword/internal/index/PointBits" := f_806.sm (Sm.keep K_843 (ninS n_670 (ninS n_728 nin0)))
        have f_851 : Exa Z h_842 o "com/example/nearword/nearword/internal/index/IntList" := f_807.sm (Sm.keep K_843 (ninS n_671 (ninS n_729 nin0)))
        have f_852 : Fld Z h_842 o "com/example/nearword/nearword/internal/index/IntList" "pieces" "[[I" (.ref g) := f_808.sm (Sm.keep K_843 (ninS n_671 (ninS n_729 nin0)))
        have f_853 : Fld Z h_842 o "com/example/nearword/nearword/internal/index/IntList" "start" "I" (.int (0 : Int32)) := f_809.sm (Sm.keep K_843 (ninS n_671 (ninS n_729 nin0)))
        have f_854 : Ary Z h_842 g (.array .int) [(.ref r)] := f_810.sm (Sm.keep K_843 (ninS n_672 (ninS n_730 nin0)))
        have f_855 : Ary Z h_842 r .int [(.int (3 : Int32)), (.int x), (.int y), (.int z)] := f_811.sm (Sm.keep K_843 (ninS n_673 (ninS n_731 nin0)))
        have f_856 : Ova Z h_842 a_614 .long "[J" := f_812.sm (Sm.keep K_843 (ninS n_674 (ninS n_732 nin0)))
        have f_857 : Fld Z h_842 a "com/example/nearword/nearword/internal/index/PointBits" "words" "I" (.int d_243) := f_813.sm (Sm.keep K_843 (ninS n_670 (ninS n_728 nin0)))
        have f_858 : Fld Z h_842 a "com/example/nearword/nearword/internal/index/PointBits" "chunks" "[[J" (.ref a_614) := f_814.sm (Sm.keep K_843 (ninS n_670 (ninS n_728 nin0)))
        have f_859 : Exa Z h_842 a_665 "[J" := f_816.keep K_843
        have f_860 : Exa Z h_842 a_723 "[J" := f_818.keep K_843
        have f_861 : Ary Z h_842 a_614 (.array .long) [(.ref a_665), (.ref a_723)] := f_819.sm (Sm.keep K_843 (ninS n_674 (ninS n_732 nin0)))
        have t_864 : a < h_842.size := Nat.lt_of_lt_of_le t_820 K_843.1
        have t_865 : o < h_842.size := Nat.lt_of_lt_of_le t_821 K_843.1
        have t_866 : g < h_842.size := Nat.lt_of_lt_of_le t_822 K_843.1
        have t_867 : r < h_842.size := Nat.lt_of_lt_of_le t_823 K_843.1
        have t_868 : a_614 < h_842.size := Nat.lt_of_lt_of_le t_824 K_843.1
        have t_869 : a_665 < h_842.size := Nat.lt_of_lt_of_le t_825 K_843.1
        have t_870 : a_723 < h_842.size := Nat.lt_of_lt_of_le t_826 K_843.1
        have z_871 : n0 ≤ h_842.size := Nat.le_trans z_827 K_843.1
        have b_872 : h0.size ≤ h_842.size := Nat.le_trans b_828 K_843.1
        have K_873 : Keep h0 h_842 [a] := K_829.trans K_843 (allS (Or.inr g_676) (allS (Or.inr g_735) all0))
        have bb2 : ∀ f : Nat, (own_bt (V_844 ++ V_845) f = true ↔ ((f : Int) = x.toInt ∨ (f : Int) = y.toInt)) := fun f => by
          rw [hbt1 f, bb1 f, hb_b_837 (f % 64) (Nat.mod_lt _ (by decide))]
          omega
        show (Go false l ({ frames := 2, cells := 3, slots := 9235, locals := 27 } : Room) Z (⟨"com/example/nearword/nearword/internal/index/PointBits", "<init>", "(Lcom/example/nearword/nearword/internal/index/IntList;I)V"⟩ : MethodName) prog_49_method_1_code 10 none n0 3 9235 (fun v h => v = none ∧ Keep h0 h [a] ∧ ((∃ (g c0 : Addr) (W0 : List Int64), Exa Z h a "com/example/nearword/nearword/internal/index/PointBits" ∧ Fld Z h a "com/example/nearword/nearword/internal/index/PointBits" "chunks" "[[J" (.ref g) ∧ Ary Z h g (.array .long) [.ref c0] ∧ Ary Z h c0 .long (W0.map Value.long) ∧ W0.length ≤ 8192 ∧ ∀ f : Nat, (own_bt W0 f = true ↔ ((f : Int) = x.toInt ∨ (f : Int) = y.toInt ∨ (f : Int) = z.toInt))) ∨ (∃ (g c0 c1 : Addr) (W0 W1 : List Int64), Exa Z h a "com/example/nearword/nearword/internal/index/PointBits" ∧ Fld Z h a "com/example/nearword/nearword/internal/index/PointBits" "chunks" "[[J" (.ref g) ∧ Ary Z h g (.array .long) [.ref c0, .ref c1] ∧ Ary Z h c0 .long (W0.map Value.long) ∧ Ary Z h c1 .long (W1.map Value.long) ∧ W0.length = 8192 ∧ W1.length ≤ 8192 ∧ ∀ f : Nat, (own_bt (W0 ++ W1) f = true ↔ ((f : Int) = x.toInt ∨ (f : Int) = y.toInt ∨ (f : Int) = z.toInt)))))) h_842 (0 + 0 + 1 + 0 + 1 + 0 + 1 + 0 + 0 + 0 + 0 + 0 + 0) (0 + 0 + 2 + 0 + 8192 + 0 + 1041 + 0 + 0 + 0 + 0 + 0 + 0) 180 #[.val (.ref a), .val (.ref o), .val (.int t), .val (.int (0 : Int32)), .val (.ref r), .val (.int (4 : Int32)), .val (.int (3 : Int32)), .val (.int w_831), .val (.long b_837), .second] []
        refine Go.goto (pc' := 114) d7_180 (by decide) (by decide) ?_
        refine Go.iload (pc' := 116) d7_114 rfl rfl ?_
        refine Go.iload (pc' := 118) d7_116 rfl rfl ?_
        refine Go.icmp (pc1 := 183) (pc2 := 121) d7_118 (by decide) (by decide) rfl (fun (c_874 : (4 : Int) ≤ (3 : Int)) => ?_) (fun (c_874 : (3 : Int) < (4 : Int)) => ?_)
        · exact absurd c_874 (by decide)
        refine Go.aload (pc' := 123) d7_121 rfl rfl rfl ?_
        refine Go.iload (pc' := 125) d7_123 rfl rfl ?_
        refine Go.ldI (pc' := 126) (k := 3) (v := (.int z)) f_855 rfl rfl d7_125 rfl ?_
        refine Go.bipush (pc' := 128) (v := (6 : Int32)) d7_126 rfl rfl ?_
        refine Go.iushr (pc' := 129) d7_128 rfl ?_
        generalize ew_875 : (z.toUInt32 >>> ((6 : Int32) &&& 31).toUInt32).toInt32 = w_875
        have k_876 : w_875.toInt = z.toInt / 64 := by
          rw [← ew_875]
          have : (6 : Int32).toInt = 6 := by decide
          have := c_iushr z (6 : Int32) 6 (by decide) (by decide)
          have := rng32 ((z.toUInt32 >>> ((6 : Int32) &&& 31).toUInt32).toInt32)
          have := rng32 z
          omega
        refine Go.istore (pc' := 131) (Ls' := #[.val (.ref a), .val (.ref o), .val (.int t), .val (.int (0 : Int32)), .val (.ref r), .val (.int (4 : Int32)), .val (.int (3 : Int32)), .val (.int w_875), .val (.long b_837), .second]) d7_129 rfl rfl ?_
        refine Go.lconst (pc' := 132) (v := (0 : Int64)) d7_131 rfl rfl ?_
        refine Go.lstore (pc' := 134) (Ls' := #[.val (.ref a), .val (.ref o), .val (.int t), .val (.int (0 : Int32)), .val (.ref r), .val (.int (4 : Int32)), .val (.int (3 : Int32)), .val (.int w_875), .val (.long (0 : Int64)), .second]) d7_132 rfl rfl ?_
        refine Go.iload (pc' := 136) d7_134 rfl rfl ?_
        refine Go.iload (pc' := 138) d7_136 rfl rfl ?_
        refine Go.icmp (pc1 := 172) (pc2 := 141) d7_138 (by decide) (by decide) rfl (fun (c_877 : (4 : Int) ≤ (3 : Int)) => ?_) (fun (c_877 : (3 : Int) < (4 : Int)) => ?_)
        · exact absurd c_877 (by decide)
        refine Go.aload (pc' := 143) d7_141 rfl rfl rfl ?_
        refine Go.iload (pc' := 145) d7_143 rfl rfl ?_
        refine Go.ldI (pc' := 146) (k := 3) (v := (.int z)) f_855 rfl rfl d7_145 rfl ?_
        refine Go.bipush (pc' := 148) (v := (6 : Int32)) d7_146 rfl rfl ?_
        refine Go.iushr (pc' := 149) d7_148 rfl ?_
        generalize eu_878 : (z.toUInt32 >>> ((6 : Int32) &&& 31).toUInt32).toInt32 = u_878
        have k_879 : u_878.toInt = z.toInt / 64 := by
          rw [← eu_878]
          have : (6 : Int32).toInt = 6 := by decide
          have := c_iushr z (6 : Int32) 6 (by decide) (by decide)
          have := rng32 ((z.toUInt32 >>> ((6 : Int32) &&& 31).toUInt32).toInt32)
          have := rng32 z
          omega
        refine Go.iload (pc' := 151) d7_149 rfl rfl ?_
        refine Go.icmp (pc1 := 172) (pc2 := 154) d7_151 (by decide) (by decide) rfl (fun (c_880 : u_878.toInt ≠ w_875.toInt) => ?_) (fun (c_880 : u_878.toInt = w_875.toInt) => ?_)
        · exfalso; omega
        refine Go.lload (pc' := 156) d7_154 rfl rfl ?_
        refine Go.lconst (pc' := 157) (v := (1 : Int64)) d7_156 rfl rfl ?_
        refine Go.aload (pc' := 159) d7_157 rfl rfl rfl ?_
        refine Go.iload (pc' := 161) d7_159 rfl rfl ?_
        refine Go.ldI (pc' := 162) (k := 3) (v := (.int z)) f_855 rfl rfl d7_161 rfl ?_
        refine Go.lshl (pc' := 163) d7_162 rfl ?_
        refine Go.lor (pc' := 164) d7_163 rfl ?_
        generalize eb_881 : (0 : Int64) ||| ((1 : Int64) <<< (z &&& 0x3f).toInt64) = b_881
        have hb_b_881 : ∀ j : Nat, j < 64 → (b_881.toBitVec.getLsbD j = true ↔ (j = z.toInt.toNat % 64)) := fun j hj => by
          rw [← eb_881]
          exact (own_orb _ z (by omega) j hj _ (own_z0 j)).trans (iff_of_eq (false_or _))
        refine Go.lstore (pc' := 166) (Ls' := #[.val (.ref a), .val (.ref o), .val (.int t), .val (.int (0 : Int32)), .val (.ref r), .val (.int (4 : Int32)), .val (.int (3 : Int32)), .val (.int w_875), .val (.long b_881), .second]) d7_164 rfl rfl ?_
        refine Go.iinc (pc' := 169) (w := (4 : Int32)) (Ls' := #[.val (.ref a), .val (.ref o), .val (.int t), .val (.int (0 : Int32)), .val (.ref r), .val (.int (4 : Int32)), .val (.int (4 : Int32)), .val (.int w_875), .val (.long b_881), .second]) d7_166 rfl rfl rfl rfl ?_
        refine Go.goto (pc' := 134) d7_169 (by decide) (by decide) ?_
        refine Go.iload (pc' := 136) d7_134 rfl rfl ?_
        refine Go.iload (pc' := 138) d7_136 rfl rfl ?_
        refine Go.icmp (pc1 := 172) (pc2 := 141) d7_138 (by decide) (by decide) rfl (fun (c_882 : (4 : Int) ≤ (4 : Int)) => ?_) (fun (c_882 : (4 : Int) < (4 : Int)) => ?_)
        rotate_left
        · exact absurd c_882 (by decide)
        refine Go.aloadN (pc' := 173) d7_172 rfl rfl rfl ?_
        refine Go.iload (pc' := 175) d7_173 rfl rfl ?_
        refine Go.lload (pc' := 177) d7_175 rfl rfl ?_
        refine Go.callP (pc' := 180) (argsL := [(.int w_875), (.long b_881)]) (rest := []) (W := 0) (hw _ (List.mem_of_getElem? (i := 80) rfl)) (hw _ (List.mem_of_getElem? (i := 81) rfl)) (hw _ (List.mem_of_getElem? (i := 82) rfl)) (hw _ (List.mem_of_getElem? (i := 10) rfl)) (hw _ (List.mem_of_getElem? (i := 83) rfl)) (hw _ (List.mem_of_getElem? (i := 87) rfl)) rfl (by decide) f_850 (m_ab2 l Z a0 hw a a_614 a_665 a_723 V_844 V_845 w_875 b_881 h_842 n0 z_871 f_850 f_858 f_861 A_846 A_847 (by omega) (by omega) (by omega) (by omega) g_675 n_670 n_674 g_734 n_728 n_732 n_733) d7_177 rfl pd6 rfl rfl (Nat.le_of_eq rfl) (by decide) (by decide) (by decide) (by decide) rfl ?_
        rintro _ h_883 ⟨rfl, V_885, V_886, K_884, A_887, A_888, l_889, l_890, hbt2⟩
        have f_891 : Exa Z h_883 a "com/example/nearword/nearword/internal/index/PointBits" := f_850.sm (Sm.keep K_884 (ninS n_670 (ninS n_728 nin0)))
        have f_892 : Exa Z h_883 o "com/example/nearword/nearword/internal/index/IntList" := f_851.sm (Sm.keep K_884 (ninS n_671 (ninS n_729 nin0)))
        have f_893 : Fld Z h_883 o "com/example/nearword/nearword/internal/index/IntList" "pieces" "[[I" (.ref g) := f_852.sm (Sm.keep K_884 (ninS n_671 (ninS n_729 nin0)))
        have f_894 : Fld Z h_883 o "com/example/nearword/nearword/internal/index/IntList" "start" "I" (.int (0 : Int32)) := f_853.sm (Sm.keep K_884 (ninS n_671 (ninS n_729 nin0)))
        have f_895 : Ary Z h_883 g (.array .int) [(.ref r)] := f_854.sm (Sm.keep K_884 (ninS n_672 (ninS n_730 nin0)))
        have f_896 : Ary Z h_883 r .int [(.int (3 : Int32)), (.int x), (.int y), (.int z)] := f_855.sm (Sm.keep K_884 (ninS n_673 (ninS n_731 nin0)))
        have f_897 : Ova Z h_883 a_614 .long "[J" := f_856.sm (Sm.keep K_884 (ninS n_674 (ninS n_732 nin0)))
        have f_898 : Fld Z h_883 a "com/example/nearword/nearword/internal/index/PointBits" "words" "I" (.int d_243) := f_857.sm (Sm.keep K_884 (ninS n_670 (ninS n_728 nin0)))
        have f_899 : Fld Z h_883 a "com/example/nearword/nearword/internal/index/PointBits" "chunks" "[[J" (.ref a_614) := f_858.sm (Sm.keep K_884 (ninS n_670 (ninS n_728 nin0)))
        have f_900 : Exa Z h_883 a_665 "[J" := f_859.keep K_884
        have f_901 : Exa Z h_883 a_723 "[J" := f_860.keep K_884
        have f_902 : Ary Z h_883 a_614 (.array .long) [(.ref a_665), (.ref a_723)] := f_861.sm (Sm.keep K_884 (ninS n_674 (ninS n_732 nin0)))
        have t_905 : a < h_883.size := Nat.lt_of_lt_of_le t_864 K_884.1
        have t_906 : o < h_883.size := Nat.lt_of_lt_of_le t_865 K_884.1
        have t_907 : g < h_883.size := Nat.lt_of_lt_of_le t_866 K_884.1
        have t_908 : r < h_883.size := Nat.lt_of_lt_of_le t_867 K_884.1
        have t_909 : a_614 < h_883.size := Nat.lt_of_lt_of_le t_868 K_884.1
        have t_910 : a_665 < h_883.size := Nat.lt_of_lt_of_le t_869 K_884.1
        have t_911 : a_723 < h_883.size := Nat.lt_of_lt_of_le t_870 K_884.1
        have z_912 : n0 ≤ h_883.size := Nat.le_trans z_871 K_884.1
        have b_913 : h0.size ≤ h_883.size := Nat.le_trans b_872 K_884.1
        have K_914 : Keep h0 h_883 [a] := K_873.trans K_884 (allS (Or.inr g_676) (allS (Or.inr g_735) all0))
        have bb3 : ∀ f : Nat, (own_bt (V_885 ++ V_886) f = true ↔ ((f : Int) = x.toInt ∨ (f : Int) = y.toInt ∨ (f : Int) = z.toInt)) := fun f => by
          rw [hbt2 f, bb2 f, hb_b_881 (f % 64) (Nat.mod_lt _ (by decide))]
          omega
        show (Go false l ({ frames := 2, cells := 3, slots := 9235, locals := 27 } : Room) Z (⟨"com/example/nearword/nearword/internal/index/PointBits", "<init>", "(Lcom/example/nearword/nearword/internal/index/IntList;I)V"⟩ : MethodName) prog_49_method_1_code 10 none n0 3 9235 (fun v h => v = none ∧ Keep h0 h [a] ∧ ((∃ (g c0 : Addr) (W0 : List Int64), Exa Z h a "com/example/nearword/nearword/internal/index/PointBits" ∧ Fld Z h a "com/example/nearword/nearword/internal/index/PointBits" "chunks" "[[J" (.ref g) ∧ Ary Z h g (.array .long) [.ref c0] ∧ Ary Z h c0 .long (W0.map Value.long) ∧ W0.length ≤ 8192 ∧ ∀ f : Nat, (own_bt W0 f = true ↔ ((f : Int) = x.toInt ∨ (f : Int) = y.toInt ∨ (f : Int) = z.toInt))) ∨ (∃ (g c0 c1 : Addr) (W0 W1 : List Int64), Exa Z h a "com/example/nearword/nearword/internal/index/PointBits" ∧ Fld Z h a "com/example/nearword/nearword/internal/index/PointBits" "chunks" "[[J" (.ref g) ∧ Ary Z h g (.array .long) [.ref c0, .ref c1] ∧ Ary Z h c0 .long (W0.map Value.long) ∧ Ary Z h c1 .long (W1.map Value.long) ∧ W0.length = 8192 ∧ W1.length ≤ 8192 ∧ ∀ f : Nat, (own_bt (W0 ++ W1) f = true ↔ ((f : Int) = x.toInt ∨ (f : Int) = y.toInt ∨ (f : Int) = z.toInt)))))) h_883 (0 + 0 + 1 + 0 + 1 + 0 + 1 + 0 + 0 + 0 + 0 + 0 + 0 + 0) (0 + 0 + 2 + 0 + 8192 + 0 + 1041 + 0 + 0 + 0 + 0 + 0 + 0 + 0) 180 #[.val (.ref a), .val (.ref o), .val (.int t), .val (.int (0 : Int32)), .val (.ref r), .val (.int (4 : Int32)), .val (.int (4 : Int32)), .val (.int w_875), .val (.long b_881), .second] []
        refine Go.goto (pc' := 114) d7_180 (by decide) (by decide) ?_
        refine Go.iload (pc' := 116) d7_114 rfl rfl ?_
        refine Go.iload (pc' := 118) d7_116 rfl rfl ?_
        refine Go.icmp (pc1 := 183) (pc2 := 121) d7_118 (by decide) (by decide) rfl (fun (c_915 : (4 : Int) ≤ (4 : Int)) => ?_) (fun (c_915 : (4 : Int) < (4 : Int)) => ?_)
        rotate_left
        · exact absurd c_915 (by decide)
        refine Go.iinc (pc' := 186) (w := (1 : Int32)) (Ls' := #[.val (.ref a), .val (.ref o), .val (.int t), .val (.int (1 : Int32)), .val (.ref r), .val (.int (4 : Int32)), .val (.int (4 : Int32)), .val (.int w_875), .val (.long b_881), .second]) d7_183 rfl rfl rfl rfl ?_
        refine Go.goto (pc' := 86) d7_186 (by decide) (by decide) ?_
        refine Go.iloadN (pc' := 87) d7_86 rfl rfl ?_
        refine Go.aloadN (pc' := 88) d7_87 rfl rfl rfl ?_
        refine Go.callV (pc' := 91) (argsL := []) (rest := [(.int (1 : Int32))]) (W := 1) (hw _ (List.mem_of_getElem? (i := 55) rfl)) (hw _ (List.mem_of_getElem? (i := 56) rfl)) (hw _ (List.mem_of_getElem? (i := 58) rfl)) (hw _ (List.mem_of_getElem? (i := 57) rfl)) (hw _ (List.mem_of_getElem? (i := 14) rfl)) (hw _ (List.mem_of_getElem? (i := 59) rfl)) (by decide) f_892 (m_ps l Z a0 hw o g r x y z h_883 n0 z_912 f_892 f_893 f_894 f_895 f_896) d7_88 rfl pd2 rfl rfl (Nat.le_of_eq rfl) (by decide) (by decide) (by decide) (by decide) rfl ?_
        rintro _ _ ⟨rfl, rfl⟩
        show (Go false l ({ frames := 2, cells := 3, slots := 9235, locals := 27 } : Room) Z (⟨"com/example/nearword/nearword/internal/index/PointBits", "<init>", "(Lcom/example/nearword/nearword/internal/index/IntList;I)V"⟩ : MethodName) prog_49_method_1_code 10 none n0 3 9235 (fun v h => v = none ∧ Keep h0 h [a] ∧ ((∃ (g c0 : Addr) (W0 : List Int64), Exa Z h a "com/example/nearword/nearword/internal/index/PointBits" ∧ Fld Z h a "com/example/nearword/nearword/internal/index/PointBits" "chunks" "[[J" (.ref g) ∧ Ary Z h g (.array .long) [.ref c0] ∧ Ary Z h c0 .long (W0.map Value.long) ∧ W0.length ≤ 8192 ∧ ∀ f : Nat, (own_bt W0 f = true ↔ ((f : Int) = x.toInt ∨ (f : Int) = y.toInt ∨ (f : Int) = z.toInt))) ∨ (∃ (g c0 c1 : Addr) (W0 W1 : List Int64), Exa Z h a "com/example/nearword/nearword/internal/index/PointBits" ∧ Fld Z h a "com/example/nearword/nearword/internal/index/PointBits" "chunks" "[[J" (.ref g) ∧ Ary Z h g (.array .long) [.ref c0, .ref c1] ∧ Ary Z h c0 .long (W0.map Value.long) ∧ Ary Z h c1 .long (W1.map Value.long) ∧ W0.length = 8192 ∧ W1.length ≤ 8192 ∧ ∀ f : Nat, (own_bt (W0 ++ W1) f = true ↔ ((f : Int) = x.toInt ∨ (f : Int) = y.toInt ∨ (f : Int) = z.toInt)))))) h_883 (0 + 0 + 1 + 0 + 1 + 0 + 1 + 0 + 0 + 0 + 0 + 0 + 0 + 0 + 0) (0 + 0 + 2 + 0 + 8192 + 0 + 1041 + 0 + 0 + 0 + 0 + 0 + 0 + 0 + 0) 91 #[.val (.ref a), .val (.ref o), .val (.int t), .val (.int (1 : Int32)), .val (.ref r), .val (.int (4 : Int32)), .val (.int (4 : Int32)), .val (.int w_875), .val (.long b_881), .second] [(.int (1 : Int32)), (.int (1 : Int32))]
        refine Go.icmp (pc1 := 189) (pc2 := 94) d7_91 (by decide) (by decide) rfl (fun (c_916 : (1 : Int) ≤ (1 : Int)) => ?_) (fun (c_916 : (1 : Int) < (1 : Int)) => ?_)
        rotate_left
        · exact absurd c_916 (by decide)
        exact Go.ret0 d7_189 rfl ⟨rfl, K_914, Or.inr ⟨a_614, a_665, a_723, V_885, V_886, f_891, f_899, f_902, A_887, A_888, by omega, by omega, fun f => (bb3 f).trans (by omega)⟩⟩ (by decide) (by decide)
      · refine Go.lload (pc' := 156) d7_154 rfl rfl ?_
        refine Go.lconst (pc' := 157) (v := (1 : Int64)) d7_156 rfl rfl ?_
        refine Go.aload (pc' := 159) d7_157 rfl rfl rfl ?_
        refine Go.iload (pc' := 161) d7_159 rfl rfl ?_
        refine Go.ldI (pc' := 162) (k := 3) (v := (.int z)) f_811 rfl rfl d7_161 rfl ?_
        refine Go.lshl (pc' := 163) d7_162 rfl ?_
        refine Go.lor (pc' := 164) d7_163 rfl ?_
        generalize eb_917 : b_837 ||| ((1 : Int64) <<< (z &&& 0x3f).toInt64) = b_917
        have hb_b_917 : ∀ j : Nat, j < 64 → (b_917.toBitVec.getLsbD j = true ↔ (j = y.toInt.toNat % 64 ∨ j = z.toInt.toNat % 64)) := fun j hj => by
          rw [← eb_917]
          exact (own_orb _ z (by omega) j hj _ (hb_b_837 j hj))
        refine Go.lstore (pc' := 166) (Ls' := #[.val (.ref a), .val (.ref o), .val (.int t), .val (.int (0 : Int32)), .val (.ref r), .val (.int (4 : Int32)), .val (.int (3 : Int32)), .val (.int w_831), .val (.long b_917), .second]) d7_164 rfl rfl ?_
        refine Go.iinc (pc' := 169) (w := (4 : Int32)) (Ls' := #[.val (.ref a), .val (.ref o), .val (.int t), .val (.int (0 : Int32)), .val (.ref r), .val (.int (4 : Int32)), .val (.int (4 : Int32)), .val (.int w_831), .val (.long b_917), .second]) d7_166 rfl rfl rfl rfl ?_
        refine Go.goto (pc' := 134) d7_169 (by decide) (by decide) ?_
        refine Go.iload (pc' := 136) d7_134 rfl rfl ?_
        refine Go.iload (pc' := 138) d7_136 rfl rfl ?_
        refine Go.icmp (pc1 := 172) (pc2 := 141) d7_138 (by decide) (by decide) rfl (fun (c_918 : (4 : Int) ≤ (4 : Int)) => ?_) (fun (c_918 : (4 : Int) < (4 : Int)) => ?_)
        rotate_left
        · exact absurd c_918 (by decide)
        refine Go.aloadN (pc' := 173) d7_172 rfl rfl rfl ?_
        refine Go.iload (pc' := 175) d7_173 rfl rfl ?_
        refine Go.lload (pc' := 177) d7_175 rfl rfl ?_
        refine Go.callP (pc' := 180) (argsL := [(.int w_831), (.long b_917)]) (rest := []) (W := 0) (hw _ (List.mem_of_getElem? (i := 80) rfl)) (hw _ (List.mem_of_getElem? (i := 81) rfl)) (hw _ (List.mem_of_getElem? (i := 82) rfl)) (hw _ (List.mem_of_getElem? (i := 10) rfl)) (hw _ (List.mem_of_getElem? (i := 83) rfl)) (hw _ (List.mem_of_getElem? (i := 87) rfl)) rfl (by decide) f_806 (m_ab2 l Z a0 hw a a_614 a_665 a_723 V_800 V_801 w_831 b_917 h_798 n0 z_827 f_806 f_814 f_819 A_802 A_803 (by omega) (by omega) (by omega) (by omega) g_675 n_670 n_674 g_734 n_728 n_732 n_733) d7_177 rfl pd6 rfl rfl (Nat.le_of_eq rfl) (by decide) (by decide) (by decide) (by decide) rfl ?_
        rintro _ h_919 ⟨rfl, V_921, V_922, K_920, A_923, A_924, l_925, l_926, hbt1⟩
        have f_927 : Exa Z h_919 a "com/example/nearword/nearword/internal/index/PointBits" := f_806.sm (Sm.keep K_920 (ninS n_670 (ninS n_728 nin0)))
        have f_928 : Exa Z h_919 o "com/example/nearword/nearword/internal/index/IntList" := f_807.sm (Sm.keep K_920 (ninS n_671 (ninS n_729 nin0)))
        have f_929 : Fld Z h_919 o "com/example/nearword/nearword/internal/index/IntList" "pieces" "[[I" (.ref g) := f_808.sm (Sm.keep K_920 (ninS n_671 (ninS n_729 nin0)))
        have f_930 : Fld Z h_919 o "com/example/nearword/nearword/internal/index/IntList" "start" "I" (.int (0 : Int32)) := f_809.sm (Sm.keep K_920 (ninS n_671 (ninS n_729 nin0)))
        have f_931 : Ary Z h_919 g (.array .int) [(.ref r)] := f_810.sm (Sm.keep K_920 (ninS n_672 (ninS n_730 nin0)))
        have f_932 : Ary Z h_919 r .int [(.int (3 : Int32)), (.int x), (.int y), (.int z)] := f_811.sm (Sm.keep K_920 (ninS n_673 (ninS n_731 nin0)))
        have f_933 : Ova Z h_919 a_614 .long "[J" := f_812.sm (Sm.keep K_920 (ninS n_674 (ninS n_732 nin0)))
        have f_934 : Fld Z h_919 a "com/example/nearword/nearword/internal/index/PointBits" "words" "I" (.int d_243) := f_813.sm (Sm.keep K_920 (ninS n_670 (ninS n_728 nin0)))
        have f_935 : Fld Z h_919 a "com/example/nearword/nearword/internal/index/PointBits" "chunks" "[[J" (.ref a_614) := f_814.sm (Sm.keep K_920 (ninS n_670 (ninS n_728 nin0)))
        have f_936 : Exa Z h_919 a_665 "[J" := f_816.keep K_920
        have f_937 : Exa Z h_919 a_723 "[J" := f_818.keep K_920
        have f_938 : Ary Z h_919 a_614 (.array .long) [(.ref a_665), (.ref a_723)] := f_819.sm (Sm.keep K_920 (ninS n_674 (ninS n_732 nin0)))
        have t_941 : a < h_919.size := Nat.lt_of_lt_of_le t_820 K_920.1
        have t_942 : o < h_919.size := Nat.lt_of_lt_of_le t_821 K_920.1
        have t_943 : g < h_919.size := Nat.lt_of_lt_of_le t_822 K_920.1
        have t_944 : r < h_919.size := Nat.lt_of_lt_of_le t_823 K_920.1
        have t_945 : a_614 < h_919.size := Nat.lt_of_lt_of_le t_824 K_920.1
        have t_946 : a_665 < h_919.size := Nat.lt_of_lt_of_le t_825 K_920.1
        have t_947 : a_723 < h_919.size := Nat.lt_of_lt_of_le t_826 K_920.1
        have z_948 : n0 ≤ h_919.size := Nat.le_trans z_827 K_920.1
        have b_949 : h0.size ≤ h_919.size := Nat.le_trans b_828 K_920.1
        have K_950 : Keep h0 h_919 [a] := K_829.trans K_920 (allS (Or.inr g_676) (allS (Or.inr g_735) all0))
        have bb2 : ∀ f : Nat, (own_bt (V_921 ++ V_922) f = true ↔ ((f : Int) = x.toInt ∨ (f : Int) = y.toInt ∨ (f : Int) = z.toInt)) := fun f => by
          rw [hbt1 f, bb1 f, hb_b_917 (f % 64) (Nat.mod_lt _ (by decide))]
          omega
        show (Go false l ({ frames := 2, cells := 3, slots := 9235, locals := 27 } : Room) Z (⟨"com/example/nearword/nearword/internal/index/PointBits", "<init>", "(Lcom/example/nearword/nearword/internal/index/IntList;I)V"⟩ : MethodName) prog_49_method_1_code 10 none n0 3 9235 (fun v h => v = none ∧ Keep h0 h [a] ∧ ((∃ (g c0 : Addr) (W0 : List Int64), Exa Z h a "com/example/nearword/nearword/internal/index/PointBits" ∧ Fld Z h a "com/example/nearword/nearword/internal/index/PointBits" "chunks" "[[J" (.ref g) ∧ Ary Z h g (.array .long) [.ref c0] ∧ Ary Z h c0 .long (W0.map Value.long) ∧ W0.length ≤ 8192 ∧ ∀ f : Nat, (own_bt W0 f = true ↔ ((f : Int) = x.toInt ∨ (f : Int) = y.toInt ∨ (f : Int) = z.toInt))) ∨ (∃ (g c0 c1 : Addr) (W0 W1 : List Int64), Exa Z h a "com/example/nearword/nearword/internal/index/PointBits" ∧ Fld Z h a "com/example/nearword/nearword/internal/index/PointBits" "chunks" "[[J" (.ref g) ∧ Ary Z h g (.array .long) [.ref c0, .ref c1] ∧ Ary Z h c0 .long (W0.map Value.long) ∧ Ary Z h c1 .long (W1.map Value.long) ∧ W0.length = 8192 ∧ W1.length ≤ 8192 ∧ ∀ f : Nat, (own_bt (W0 ++ W1) f = true ↔ ((f : Int) = x.toInt ∨ (f : Int) = y.toInt ∨ (f : Int) = z.toInt)))))) h_919 (0 + 0 + 1 + 0 + 1 + 0 + 1 + 0 + 0 + 0 + 0 + 0 + 0) (0 + 0 + 2 + 0 + 8192 + 0 + 1041 + 0 + 0 + 0 + 0 + 0 + 0) 180 #[.val (.ref a), .val (.ref o), .val (.int t), .val (.int (0 : Int32)), .val (.ref r), .val (.int (4 : Int32)), .val (.int (4 : Int32)), .val (.int w_831), .val (.long b_917), .second] []
        refine Go.goto (pc' := 114) d7_180 (by decide) (by decide) ?_
        refine Go.iload (pc' := 116) d7_114 rfl rfl ?_
        refine Go.iload (pc' := 118) d7_116 rfl rfl ?_
        refine Go.icmp (pc1 := 183) (pc2 := 121) d7_118 (by decide) (by decide) rfl (fun (c_951 : (4 : Int) ≤ (4 : Int)) => ?_) (fun (c_951 : (4 : Int) < (4 : Int)) => ?_)
        rotate_left
        · exact absurd c_951 (by decide)
        refine Go.iinc (pc' := 186) (w := (1 : Int32)) (Ls' := #[.val (.ref a), .val (.ref o), .val (.int t), .val (.int (1 : Int32)), .val (.ref r), .val (.int (4 : Int32)), .val (.int (4 : Int32)), .val (.int w_831), .val (.long b_917), .second]) d7_183 rfl rfl rfl rfl ?_
        refine Go.goto (pc' := 86) d7_186 (by decide) (by decide) ?_
        refine Go.iloadN (pc' := 87) d7_86 rfl rfl ?_
        refine Go.aloadN (pc' := 88) d7_87 rfl rfl rfl ?_
        refine Go.callV (pc' := 91) (argsL := []) (rest := [(.int (1 : Int32))]) (W := 1) (hw _ (List.mem_of_getElem? (i := 55) rfl)) (hw _ (List.mem_of_getElem? (i := 56) rfl)) (hw _ (List.mem_of_getElem? (i := 58) rfl)) (hw _ (List.mem_of_getElem? (i := 57) rfl)) (hw _ (List.mem_of_getElem? (i := 14) rfl)) (hw _ (List.mem_of_getElem? (i := 59) rfl)) (by decide) f_928 (m_ps l Z a0 hw o g r x y z h_919 n0 z_948 f_928 f_929 f_930 f_931 f_932) d7_88 rfl pd2 rfl rfl (Nat.le_of_eq rfl) (by decide) (by decide) (by decide) (by decide) rfl ?_
        rintro _ _ ⟨rfl, rfl⟩
        show (Go false l ({ frames := 2, cells := 3, slots := 9235, locals := 27 } : Room) Z (⟨"com/example/nearword/nearword/internal/index/PointBits", "<init>", "(Lcom/example/nearword/nearword/internal/index/IntList;I)V"⟩ : MethodName) prog_49_method_1_code 10 none n0 3 9235 (fun v h => v = none ∧ Keep h0 h [a] ∧ ((∃ (g c0 : Addr) (W0 : List Int64), Exa Z h a "com/example/nearword/nearword/internal/index/PointBits" ∧ Fld Z h a "com/example/nearword/nearword/internal/index/PointBits" "chunks" "[[J" (.ref g) ∧ Ary Z h g (.array .long) [.ref c0] ∧ Ary Z h c0 .long (W0.map Value.long) ∧ W0.length ≤ 8192 ∧ ∀ f : Nat, (own_bt W0 f = true ↔ ((f : Int) = x.toInt ∨ (f : Int) = y.toInt ∨ (f : Int) = z.toInt))) ∨ (∃ (g c0 c1 : Addr) (W0 W1 : List Int64), Exa Z h a "com/example/nearword/nearword/internal/index/PointBits" ∧ Fld Z h a "com/example/nearword/nearword/internal/index/PointBits" "chunks" "[[J" (.ref g) ∧ Ary Z h g (.array .long) [.ref c0, .ref c1] ∧ Ary Z h c0 .long (W0.map Value.long) ∧ Ary Z h c1 .long (W1.map Value.long) ∧ W0.length = 8192 ∧ W1.length ≤ 8192 ∧ ∀ f : Nat, (own_bt (W0 ++ W1) f = true ↔ ((f : Int) = x.toInt ∨ (f : Int) = y.toInt ∨ (f : Int) = z.toInt)))))) h_919 (0 + 0 + 1 + 0 + 1 + 0 + 1 + 0 + 0 + 0 + 0 + 0 + 0 + 0) (0 + 0 + 2 + 0 + 8192 + 0 + 1041 + 0 + 0 + 0 + 0 + 0 + 0 + 0) 91 #[.val (.ref a), .val (.ref o), .val (.int t), .val (.int (1 : Int32)), .val (.ref r), .val (.int (4 : Int32)), .val (.int (4 : Int32)), .val (.int w_831), .val (.long b_917), .second] [(.int (1 : Int32)), (.int (1 : Int32))]
        refine Go.icmp (pc1 := 189) (pc2 := 94) d7_91 (by decide) (by decide) rfl (fun (c_952 : (1 : Int) ≤ (1 : Int)) => ?_) (fun (c_952 : (1 : Int) < (1 : Int)) => ?_)
        rotate_left
        · exact absurd c_952 (by decide)
        exact Go.ret0 d7_189 rfl ⟨rfl, K_950, Or.inr ⟨a_614, a_665, a_723, V_921, V_922, f_927, f_935, f_938, A_923, A_924, by omega, by omega, fun f => (bb2 f).trans (by omega)⟩⟩ (by decide) (by decide)
    · refine Go.lload (pc' := 156) d7_154 rfl rfl ?_
      refine Go.lconst (pc' := 157) (v := (1 : Int64)) d7_156 rfl rfl ?_
      refine Go.aload (pc' := 159) d7_157 rfl rfl rfl ?_
      refine Go.iload (pc' := 161) d7_159 rfl rfl ?_
      refine Go.ldI (pc' := 162) (k := 2) (v := (.int y)) f_766 rfl rfl d7_161 rfl ?_
      refine Go.lshl (pc' := 163) d7_162 rfl ?_
      refine Go.lor (pc' := 164) d7_163 rfl ?_
      generalize eb_953 : b_793 ||| ((1 : Int64) <<< (y &&& 0x3f).toInt64) = b_953
      have hb_b_953 : ∀ j : Nat, j < 64 → (b_953.toBitVec.getLsbD j = true ↔ (j = x.toInt.toNat % 64 ∨ j = y.toInt.toNat % 64)) := fun j hj => by
        rw [← eb_953]
        exact (own_orb _ y (by omega) j hj _ (hb_b_793 j hj))
      refine Go.lstore (pc' := 166) (Ls' := #[.val (.ref a), .val (.ref o), .val (.int t), .val (.int (0 : Int32)), .val (.ref r), .val (.int (4 : Int32)), .val (.int (2 : Int32)), .val (.int w_787), .val (.long b_953), .second]) d7_164 rfl rfl ?_
      refine Go.iinc (pc' := 169) (w := (3 : Int32)) (Ls' := #[.val (.ref a), .val (.ref o), .val (.int t), .val (.int (0 : Int32)), .val (.ref r), .val (.int (4 : Int32)), .val (.int (3 : Int32)), .val (.int w_787), .val (.long b_953), .second]) d7_166 rfl rfl rfl rfl ?_
      refine Go.goto (pc' := 134) d7_169 (by decide) (by decide) ?_
      refine Go.iload (pc' := 136) d7_134 rfl rfl ?_
      refine Go.iload (pc' := 138) d7_136 rfl rfl ?_
      refine Go.icmp (pc1 := 172) (pc2 := 141) d7_138 (by decide) (by decide) rfl (fun (c_954 : (4 : Int) ≤ (3 : Int)) => ?_) (fun (c_954 : (3 : Int) < (4 : Int)) => ?_)
      · exact absurd c_954 (by decide)
      refine Go.aload (pc' := 143) d7_141 rfl rfl rfl ?_
      refine Go.iload (pc' := 145) d7_143 rfl rfl ?_
      refine Go.ldI (pc' := 146) (k := 3) (v := (.int z)) f_766 rfl rfl d7_145 rfl ?_
      refine Go.bipush (pc' := 148) (v := (6 : Int32)) d7_146 rfl rfl ?_
      refine Go.iushr (pc' := 149) d7_148 rfl ?_
      generalize eu_955 : (z.toUInt32 >>> ((6 : Int32) &&& 31).toUInt32).toInt32 = u_955
      have k_956 : u_955.toInt = z.toInt / 64 := by
        rw [← eu_955]
        have : (6 : Int32).toInt = 6 := by decide
        have := c_iushr z (6 : Int32) 6 (by decide) (by decide)
        have := rng32 ((z.toUInt32 >>> ((6 : Int32) &&& 31).toUInt32).toInt32)
        have := rng32 z
        omega
      refine Go.iload (pc' := 151) d7_149 rfl rfl ?_
      refine Go.icmp (pc1 := 172) (pc2 := 154) d7_151 (by decide) (by decide) rfl (fun (c_957 : u_955.toInt ≠ w_787.toInt) => ?_) (fun (c_957 : u_955.toInt = w_787.toInt) => ?_)
      · refine Go.aloadN (pc' := 173) d7_172 rfl rfl rfl ?_
        refine Go.iload (pc' := 175) d7_173 rfl rfl ?_
        refine Go.lload (pc' := 177) d7_175 rfl rfl ?_
        refine Go.callP (pc' := 180) (argsL := [(.int w_787), (.long b_953)]) (rest := []) (W := 0) (hw _ (List.mem_of_getElem? (i := 80) rfl)) (hw _ (List.mem_of_getElem? (i := 81) rfl)) (hw _ (List.mem_of_getElem? (i := 82) rfl)) (hw _ (List.mem_of_getElem? (i := 10) rfl)) (hw _ (List.mem_of_getElem? (i := 83) rfl)) (hw _ (List.mem_of_getElem? (i := 87) rfl)) rfl (by decide) f_761 (m_ab2 l Z a0 hw a a_614 a_665 a_723 X0 X1 w_787 b_953 h_758 n0 z_781 f_761 f_769 A_760 f_770 f_772 (by omega) (by omega) (by omega) (by omega) g_675 n_670 n_674 g_734 n_728 n_732 n_733) d7_177 rfl pd6 rfl rfl (Nat.le_of_eq rfl) (by decide) (by decide) (by decide) (by decide) rfl ?_
        rintro _ h_958 ⟨rfl, V_960, V_961, K_959, A_962, A_963, l_964, l_965, hbt0⟩
        have f_966 : Exa Z h_958 a "com/example/nearword/nearword/internal/index/PointBits" := f_761.sm (Sm.keep K_959 (ninS n_670 (ninS n_728 nin0)))
        have f_967 : Exa Z h_958 o "com/example/nearword/nearword/internal/index/IntList" := f_762.sm (Sm.keep K_959 (ninS n_671 (ninS n_729 nin0)))
        have f_968 : Fld Z h_958 o "com/example/nearword/nearword/internal/index/IntList" "pieces" "[[I" (.ref g) := f_763.sm (Sm.keep K_959 (ninS n_671 (ninS n_729 nin0)))
        have f_969 : Fld Z h_958 o "com/example/nearword/nearword/internal/index/IntList" "start" "I" (.int (0 : Int32)) := f_764.sm (Sm.keep K_959 (ninS n_671 (ninS n_729 nin0)))
        have f_970 : Ary Z h_958 g (.array .int) [(.ref r)] := f_765.sm (Sm.keep K_959 (ninS n_672 (ninS n_730 nin0)))
        have f_971 : Ary Z h_958 r .int [(.int (3 : Int32)), (.int x), (.int y), (.int z)] := f_766.sm (Sm.keep K_959 (ninS n_673 (ninS n_731 nin0)))
        have f_972 : Ova Z h_958 a_614 .long "[J" := f_767.sm (Sm.keep K_959 (ninS n_674 (ninS n_732 nin0)))
        have f_973 : Fld Z h_958 a "com/example/nearword/nearword/internal/index/PointBits" "words" "I" (.int d_243) := f_768.sm (Sm.keep K_959 (ninS n_670 (ninS n_728 nin0)))
        have f_974 : Fld Z h_958 a "com/example/nearword/nearword/internal/index/PointBits" "chunks" "[[J" (.ref a_614) := f_769.sm (Sm.keep K_959 (ninS n_670 (ninS n_728 nin0)))
        have f_976 : Exa Z h_958 a_665 "[J" := f_771.keep K_959
        have f_978 : Exa Z h_958 a_723 "[J" := f_773.keep K_959
        have f_979 : Ary Z h_958 a_614 (.array .long) [(.ref a_665), (.ref a_723)] := A_760.sm (Sm.keep K_959 (ninS n_674 (ninS n_732 nin0)))
        have t_980 : a < h_958.size := Nat.lt_of_lt_of_le t_774 K_959.1
        have t_981 : o < h_958.size := Nat.lt_of_lt_of_le t_775 K_959.1
        have t_982 : g < h_958.size := Nat.lt_of_lt_of_le t_776 K_959.1
        have t_983 : r < h_958.size := Nat.lt_of_lt_of_le t_777 K_959.1
        have t_984 : a_614 < h_958.size := Nat.lt_of_lt_of_le t_778 K_959.1
        have t_985 : a_665 < h_958.size := Nat.lt_of_lt_of_le t_779 K_959.1
        have t_986 : a_723 < h_958.size := Nat.lt_of_lt_of_le t_780 K_959.1
        have z_987 : n0 ≤ h_958.size := Nat.le_trans z_781 K_959.1
        have b_988 : h0.size ≤ h_958.size := Nat.le_trans b_782 K_959.1
        have K_989 : Keep h0 h_958 [a] := K_783.trans K_959 (allS (Or.inr g_676) (allS (Or.inr g_735) all0))
        have bb1 : ∀ f : Nat, (own_bt (V_960 ++ V_961) f = true ↔ ((f : Int) = x.toInt ∨ (f : Int) = y.toInt)) := fun f => by
          rw [hbt0 f, b0 f, hb_b_953 (f % 64) (Nat.mod_lt _ (by decide))]
          omega
        show (Go false l ({ frames := 2, cells := 3, slots := 9235, locals := 27 } : Room) Z (⟨"com/example/nearword/nearword/internal/index/PointBits", "<init>", "(Lcom/example/nearword/nearword/internal/index/IntList;I)V"⟩ : MethodName) prog_49_method_1_code 10 none n0 3 9235 (fun v h => v = none ∧ Keep h0 h [a] ∧ ((∃ (g c0 : Addr) (W0 : List Int64), Exa Z h a "com/example/nearword/nearword/internal/index/PointBits" ∧ Fld Z h a "com/example/nearword/nearword/internal/index/PointBits" "chunks" "[[J" (.ref g) ∧ Ary Z h g (.array .long) [.ref c0] ∧ Ary Z h c0 .long (W0.map Value.long) ∧ W0.length ≤ 8192 ∧ ∀ f : Nat, (own_bt W0 f = true ↔ ((f : Int) = x.toInt ∨ (f : Int) = y.toInt ∨ (f : Int) = z.toInt))) ∨ (∃ (g c0 c1 : Addr) (W0 W1 : List Int64), Exa Z h a "com/example/nearword/nearword/internal/index/PointBits" ∧ Fld Z h a "com/example/nearword/nearword/internal/index/PointBits" "chunks" "[[J" (.ref g) ∧ Ary Z h g (.array .long) [.ref c0, .ref c1] ∧ Ary Z h c0 .long (W0.map Value.long) ∧ Ary Z h c1 .long (W1.map Value.long) ∧ W0.length = 8192 ∧ W1.length ≤ 8192 ∧ ∀ f : Nat, (own_bt (W0 ++ W1) f = true ↔ ((f : Int) = x.toInt ∨ (f : Int) = y.toInt ∨ (f : Int) = z.toInt)))))) h_958 (0 + 0 + 1 + 0 + 1 + 0 + 1 + 0 + 0 + 0 + 0 + 0) (0 + 0 + 2 + 0 + 8192 + 0 + 1041 + 0 + 0 + 0 + 0 + 0) 180 #[.val (.ref a), .val (.ref o), .val (.int t), .val (.int (0 : Int32)), .val (.ref r), .val (.int (4 : Int32)), .val (.int (3 : Int32)), .val (.int w_787), .val (.long b_953), .second] []
        refine Go.goto (pc' := 114) d7_180 (by decide) (by decide) ?_
        refine Go.iload (pc' := 116) d7_114 rfl rfl ?_
        refine Go.iload (pc' := 118) d7_116 rfl rfl ?_
        refine Go.icmp (pc1 := 183) (pc2 := 121) d7_118 (by decide) (by decide) rfl (fun (c_990 : (4 : Int) ≤ (3 : Int)) => ?_) (fun (c_990 : (3 : Int) < (4 : Int)) => ?_)
        · exact absurd c_990 (by decide)
        refine Go.aload (pc' := 123) d7_121 rfl rfl rfl ?_
        refine Go.iload (pc' := 125) d7_123 rfl rfl ?_
        refine Go.ldI (pc' := 126) (k := 3) (v := (.int z)) f_971 rfl rfl d7_125 rfl ?_
        refine Go.bipush (pc' := 128) (v := (6 : Int32)) d7_126 rfl rfl ?_
        refine Go.iushr (pc' := 129) d7_128 rfl ?_
        generalize ew_991 : (z.toUInt32 >>> ((6 : Int32) &&& 31).toUInt32).toInt32 = w_991
        have k_992 : w_991.toInt = z.toInt / 64 := by
          rw [← ew_991]
          have : (6 : Int32).toInt = 6 := by decide
          have := c_iushr z (6 : Int32) 6 (by decide) (by decide)
          have := rng32 ((z.toUInt32 >>> ((6 : Int32) &&& 31).toUInt32).toInt32)
          have := rng32 z
          omega
        refine Go.istore (pc' := 131) (Ls' := #[.val (.ref a), .val (.ref o), .val (.int t), .val (.int (0 : Int32)), .val (.ref r), .val (.int (4 : Int32)), .val (.int (3 : Int32)), .val (.int w_991), .val (.long b_953), .second]) d7_129 rfl rfl ?_
        refine Go.lconst (pc' := 132) (v := (0 : Int64)) d7_131 rfl rfl ?_
        refine Go.lstore (pc' := 134) (Ls' := #[.val (.ref a), .val (.ref o), .val (.int t), .val (.int (0 : Int32)), .val (.ref r), .val (.int (4 : Int32)), .val (.int (3 : Int32)), .val (.int w_991), .val (.long (0 : Int64)), .second]) d7_132 rfl rfl ?_
        refine Go.iload (pc' := 136) d7_134 rfl rfl ?_
        refine Go.iload (pc' := 138) d7_136 rfl rfl ?_
        refine Go.icmp (pc1 := 172) (pc2 := 141) d7_138 (by decide) (by decide) rfl (fun (c_993 : (4 : Int) ≤ (3 : Int)) => ?_) (fun (c_993 : (3 : Int) < (4 : Int)) => ?_)
        · exact absurd c_993 (by decide)
        refine Go.aload (pc' := 143) d7_141 rfl rfl rfl ?_
        refine Go.iload (pc' := 145) d7_143 rfl rfl ?_
        refine Go.ldI (pc' := 146) (k := 3) (v := (.int z)) f_971 rfl rfl d7_145 rfl ?_
        refine Go.bipush (pc' := 148) (v := (6 : Int32)) d7_146 rfl rfl ?_
        refine Go.iushr (pc' := 149) d7_148 rfl ?_
        generalize eu_994 : (z.toUInt32 >>> ((6 : Int32) &&& 31).toUInt32).toInt32 = u_994
        have k_995 : u_994.toInt = z.toInt / 64 := by
          rw [← eu_994]
          have : (6 : Int32).toInt = 6 := by decide
          have := c_iushr z (6 : Int32) 6 (by decide) (by decide)
          have := rng32 ((z.toUInt32 >>> ((6 : Int32) &&& 31).toUInt32).toInt32)
          have := rng32 z
          omega
        refine Go.iload (pc' := 151) d7_149 rfl rfl ?_
        refine Go.icmp (pc1 := 172) (pc2 := 154) d7_151 (by decide) (by decide) rfl (fun (c_996 : u_994.toInt ≠ w_991.toInt) => ?_) (fun (c_996 : u_994.toInt = w_991.toInt) => ?_)
        · exfalso; omega
        refine Go.lload (pc' := 156) d7_154 rfl rfl ?_
        refine Go.lconst (pc' := 157) (v := (1 : Int64)) d7_156 rfl rfl ?_
        refine Go.aload (pc' := 159) d7_157 rfl rfl rfl ?_
        refine Go.iload (pc' := 161) d7_159 rfl rfl ?_
        refine Go.ldI (pc' := 162) (k := 3) (v := (.int z)) f_971 rfl rfl d7_161 rfl ?_
        refine Go.lshl (pc' := 163) d7_162 rfl ?_
        refine Go.lor (pc' := 164) d7_163 rfl ?_
        generalize eb_997 : (0 : Int64) ||| ((1 : Int64) <<< (z &&& 0x3f).toInt64) = b_997
        have hb_b_997 : ∀ j : Nat, j < 64 → (b_997.toBitVec.getLsbD j = true ↔ (j = z.toInt.toNat % 64)) := fun j hj => by
          rw [← eb_997]
          exact (own_orb _ z (by omega) j hj _ (own_z0 j)).trans (iff_of_eq (false_or _))
        refine Go.lstore (pc' := 166) (Ls' := #[.val (.ref a), .val (.ref o), .val (.int t), .val (.int (0 : Int32)), .val (.ref r), .val (.int (4 : Int32)), .val (.int (3 : Int32)), .val (.int w_991), .val (.long b_997), .second]) d7_164 rfl rfl ?_
        refine Go.iinc (pc' := 169) (w := (4 : Int32)) (Ls' := #[.val (.ref a), .val (.ref o), .val (.int t), .val (.int (0 : Int32)), .val (.ref r), .val (.int (4 : Int32)), .val (.int (4 : Int32)), .val (.int w_991), .val (.long b_997), .second]) d7_166 rfl rfl rfl rfl ?_
        refine Go.goto (pc' := 134) d7_169 (by decide) (by decide) ?_
        refine Go.iload (pc' := 136) d7_134 rfl rfl ?_
        refine Go.iload (pc' := 138) d7_136 rfl rfl ?_
        refine Go.icmp (pc1 := 172) (pc2 := 141) d7_138 (by decide) (by decide) rfl (fun (c_998 : (4 : Int) ≤ (4 : Int)) => ?_) (fun (c_998 : (4 : Int) < (4 : Int)) => ?_)
        rotate_left
        · exact absurd c_998 (by decide)
        refine Go.aloadN (pc' := 173) d7_172 rfl rfl rfl ?_
        refine Go.iload (pc' := 175) d7_173 rfl rfl ?_
        refine Go.lload (pc' := 177) d7_175 rfl rfl ?_
        refine Go.callP (pc' := 180) (argsL := [(.int w_991), (.long b_997)]) (rest := []) (W := 0) (hw _ (List.mem_of_getElem? (i := 80) rfl)) (hw _ (List.mem_of_getElem? (i := 81) rfl)) (hw _ (List.mem_of_getElem? (i := 82) rfl)) (hw _ (List.mem_of_getElem? (i := 10) rfl)) (hw _ (List.mem_of_getElem? (i := 83) rfl)) (hw _ (List.mem_of_getElem? (i := 87) rfl)) rfl (by decide) f_966 (m_ab2 l Z a0 hw a a_614 a_665 a_723 V_960 V_961 w_991 b_997 h_958 n0 z_987 f_966 f_974 f_979 A_962 A_963 (by omega) (by omega) (by omega) (by omega) g_675 n_670 n_674 g_734 n_728 n_732 n_733) d7_177 rfl pd6 rfl rfl (Nat.le_of_eq rfl) (by decide) (by decide) (by decide) (by decide) rfl ?_
        rintro _ h_999 ⟨rfl, V_1001, V_1002, K_1000, A_1003, A_1004, l_1005, l_1006, hbt1⟩
        have f_1007 : Exa Z h_999 a "com/example/nearword/nearword/internal/index/PointBits" := f_966.sm (Sm.keep K_1000 (ninS n_670 (ninS n_728 nin0)))
        have f_1008 : Exa Z h_999 o "com/example/nearword/nearword/internal/index/IntList" := f_967.sm (Sm.keep K_1000 (ninS n_671 (ninS n_729 nin0)))
        have f_1009 : Fld Z h_999 o "com/example/nearword/nearword/internal/index/IntList" "pieces" "[[I" (.ref g) := f_968.sm (Sm.keep K_1000 (ninS n_671 (ninS n_729 nin0)))
        have f_1010 : Fld Z h_999 o "com/example/nearword/nearword/internal/index/IntList" "start" "I" (.int (0 : Int32)) := f_969.sm (Sm.keep K_1000 (ninS n_671 (ninS n_729 nin0)))
        have f_1011 : Ary Z h_999 g (.array .int) [(.ref r)] := f_970.sm (Sm.keep K_1000 (ninS n_672 (ninS n_730 nin0)))
        have f_1012 : Ary Z h_999 r .int [(.int (3 : Int32)), (.int x), (.int y), (.int z)] := f_971.sm (Sm.keep K_1000 (ninS n_673 (ninS n_731 nin0)))
        have f_1013 : Ova Z h_999 a_614 .long "[J" := f_972.sm (Sm.keep K_1000 (ninS n_674 (ninS n_732 nin0)))
        have f_1014 : Fld Z h_999 a "com/example/nearword/nearword/internal/index/PointBits" "words" "I" (.int d_243) := f_973.sm (Sm.keep K_1000 (ninS n_670 (ninS n_728 nin0)))
        have f_1015 : Fld Z h_999 a "com/example/nearword/nearword/internal/index/PointBits" "chunks" "[[J" (.ref a_614) := f_974.sm (Sm.keep K_1000 (ninS n_670 (ninS n_728 nin0)))
        have f_1016 : Exa Z h_999 a_665 "[J" := f_976.keep K_1000
        have f_1017 : Exa Z h_999 a_723 "[J" := f_978.keep K_1000
        have f_1018 : Ary Z h_999 a_614 (.array .long) [(.ref a_665), (.ref a_723)] := f_979.sm (Sm.keep K_1000 (ninS n_674 (ninS n_732 nin0)))
        have t_1021 : a < h_999.size := Nat.lt_of_lt_of_le t_980 K_1000.1
        have t_1022 : o < h_999.size := Nat.lt_of_lt_of_le t_981 K_1000.1
        have t_1023 : g < h_999.size := Nat.lt_of_lt_of_le t_982 K_1000.1
        have t_1024 : r < h_999.size := Nat.lt_of_lt_of_le t_983 K_1000.1
        have t_1025 : a_614 < h_999.size := Nat.lt_of_lt_of_le t_984 K_1000.1
        have t_1026 : a_665 < h_999.size := Nat.lt_of_lt_of_le t_985 K_1000.1
        have t_1027 : a_723 < h_999.size := Nat.lt_of_lt_of_le t_986 K_1000.1
        have z_1028 : n0 ≤ h_999.size := Nat.le_trans z_987 K_1000.1
        have b_1029 : h0.size ≤ h_999.size := Nat.le_trans b_988 K_1000.1
        have K_1030 : Keep h0 h_999 [a] := K_989.trans K_1000 (allS (Or.inr g_676) (allS (Or.inr g_735) all0))
        have bb2 : ∀ f : Nat, (own_bt (V_1001 ++ V_1002) f = true ↔ ((f : Int) = x.toInt ∨ (f : Int) = y.toInt ∨ (f : Int) = z.toInt)) := fun f => by
          rw [hbt1 f, bb1 f, hb_b_997 (f % 64) (Nat.mod_lt _ (by decide))]
          omega
        show (Go false l ({ frames := 2, cells := 3, slots := 9235, locals := 27 } : Room) Z (⟨"com/example/nearword/nearword/internal/index/PointBits", "<init>", "(Lcom/example/nearword/nearword/internal/index/IntList;I)V"⟩ : MethodName) prog_49_method_1_code 10 none n0 3 9235 (fun v h => v = none ∧ Keep h0 h [a] ∧ ((∃ (g c0 : Addr) (W0 : List Int64), Exa Z h a "com/example/nearword/nearword/internal/index/PointBits" ∧ Fld Z h a "com/example/nearword/nearword/internal/index/PointBits" "chunks" "[[J" (.ref g) ∧ Ary Z h g (.array .long) [.ref c0] ∧ Ary Z h c0 .long (W0.map Value.long) ∧ W0.length ≤ 8192 ∧ ∀ f : Nat, (own_bt W0 f = true ↔ ((f : Int) = x.toInt ∨ (f : Int) = y.toInt ∨ (f : Int) = z.toInt))) ∨ (∃ (g c0 c1 : Addr) (W0 W1 : List Int64), Exa Z h a "com/example/nearword/nearword/internal/index/PointBits" ∧ Fld Z h a "com/example/nearword/nearword/internal/index/PointBits" "chunks" "[[J" (.ref g) ∧ Ary Z h g (.array .long) [.ref c0, .ref c1] ∧ Ary Z h c0 .long (W0.map Value.long) ∧ Ary Z h c1 .long (W1.map Value.long) ∧ W0.length = 8192 ∧ W1.length ≤ 8192 ∧ ∀ f : Nat, (own_bt (W0 ++ W1) f = true ↔ ((f : Int) = x.toInt ∨ (f : Int) = y.toInt ∨ (f : Int) = z.toInt)))))) h_999 (0 + 0 + 1 + 0 + 1 + 0 + 1 + 0 + 0 + 0 + 0 + 0 + 0) (0 + 0 + 2 + 0 + 8192 + 0 + 1041 + 0 + 0 + 0 + 0 + 0 + 0) 180 #[.val (.ref a), .val (.ref o), .val (.int t), .val (.int (0 : Int32)), .val (.ref r), .val (.int (4 : Int32)), .val (.int (4 : Int32)), .val (.int w_991), .val (.long b_997), .second] []
        refine Go.goto (pc' := 114) d7_180 (by decide) (by decide) ?_
        refine Go.iload (pc' := 116) d7_114 rfl rfl ?_
        refine Go.iload (pc' := 118) d7_116 rfl rfl ?_
        refine Go.icmp (pc1 := 183) (pc2 := 121) d7_118 (by decide) (by decide) rfl (fun (c_1031 : (4 : Int) ≤ (4 : Int)) => ?_) (fun (c_1031 : (4 : Int) < (4 : Int)) => ?_)
        rotate_left
        · exact absurd c_1031 (by decide)
        refine Go.iinc (pc' := 186) (w := (1 : Int32)) (Ls' := #[.val (.ref a), .val (.ref o), .val (.int t), .val (.int (1 : Int32)), .val (.ref r), .val (.int (4 : Int32)), .val (.int (4 : Int32)), .val (.int w_991), .val (.long b_997), .second]) d7_183 rfl rfl rfl rfl ?_
        refine Go.goto (pc' := 86) d7_186 (by decide) (by decide) ?_
        refine Go.iloadN (pc' := 87) d7_86 rfl rfl ?_
        refine Go.aloadN (pc' := 88) d7_87 rfl rfl rfl ?_
        refine Go.callV (pc' := 91) (argsL := []) (rest := [(.int (1 : Int32))]) (W := 1) (hw _ (List.mem_of_getElem? (i := 55) rfl)) (hw _ (List.mem_of_getElem? (i := 56) rfl)) (hw _ (List.mem_of_getElem? (i := 58) rfl)) (hw _ (List.mem_of_getElem? (i := 57) rfl)) (hw _ (List.mem_of_getElem? (i := 14) rfl)) (hw _ (List.mem_of_getElem? (i := 59) rfl)) (by decide) f_1008 (m_ps l Z a0 hw o g r x y z h_999 n0 z_1028 f_1008 f_1009 f_1010 f_1011 f_1012) d7_88 rfl pd2 rfl rfl (Nat.le_of_eq rfl) (by decide) (by decide) (by decide) (by decide) rfl ?_
        rintro _ _ ⟨rfl, rfl⟩
        show (Go false l ({ frames := 2, cells := 3, slots := 9235, locals := 27 } : Room) Z (⟨"com/example/nearword/nearword/internal/index/PointBits", "<init>", "(Lcom/example/nearword/nearword/internal/index/IntList;I)V"⟩ : MethodName) prog_49_method_1_code 10 none n0 3 9235 (fun v h => v = none ∧ Keep h0 h [a] ∧ ((∃ (g c0 : Addr) (W0 : List Int64), Exa Z h a "com/example/nearword/nearword/internal/index/PointBits" ∧ Fld Z h a "com/example/nearword/nearword/internal/index/PointBits" "chunks" "[[J" (.ref g) ∧ Ary Z h g (.array .long) [.ref c0] ∧ Ary Z h c0 .long (W0.map Value.long) ∧ W0.length ≤ 8192 ∧ ∀ f : Nat, (own_bt W0 f = true ↔ ((f : Int) = x.toInt ∨ (f : Int) = y.toInt ∨ (f : Int) = z.toInt))) ∨ (∃ (g c0 c1 : Addr) (W0 W1 : List Int64), Exa Z h a "com/example/nearword/nearword/internal/index/PointBits" ∧ Fld Z h a "com/example/nearword/nearword/internal/index/PointBits" "chunks" "[[J" (.ref g) ∧ Ary Z h g (.array .long) [.ref c0, .ref c1] ∧ Ary Z h c0 .long (W0.map Value.long) ∧ Ary Z h c1 .long (W1.map Value.long) ∧ W0.length = 8192 ∧ W1.length ≤ 8192 ∧ ∀ f : Nat, (own_bt (W0 ++ W1) f = true ↔ ((f : Int) = x.toInt ∨ (f : Int) = y.toInt ∨ (f : Int) = z.toInt)))))) h_999 (0 + 0 + 1 + 0 + 1 + 0 + 1 + 0 + 0 + 0 + 0 + 0 + 0 + 0) (0 + 0 + 2 + 0 + 8192 + 0 + 1041 + 0 + 0 + 0 + 0 + 0 + 0 + 0) 91 #[.val (.ref a), .val (.ref o), .val (.int t), .val (.int (1 : Int32)), .val (.ref r), .val (.int (4 : Int32)), .val (.int (4 : Int32)), .val (.int w_991), .val (.long b_997), .second] [(.int (1 : Int32)), (.int (1 : Int32))]
        refine Go.icmp (pc1 := 189) (pc2 := 94) d7_91 (by decide) (by decide) rfl (fun (c_1032 : (1 : Int) ≤ (1 : Int)) => ?_) (fun (c_1032 : (1 : Int) < (1 : Int)) => ?_)
        rotate_left
        · exact absurd c_1032 (by decide)
        exact Go.ret0 d7_189 rfl ⟨rfl, K_1030, Or.inr ⟨a_614, a_665, a_723, V_1001, V_1002, f_1007, f_1015, f_1018, A_1003, A_1004, by omega, by omega, fun f => (bb2 f).trans (by omega)⟩⟩ (by decide) (by decide)
      · refine Go.lload (pc' := 156) d7_154 rfl rfl ?_
        refine Go.lconst (pc' := 157) (v := (1 : Int64)) d7_156 rfl rfl ?_
        refine Go.aload (pc' := 159) d7_157 rfl rfl rfl ?_
        refine Go.iload (pc' := 161) d7_159 rfl rfl ?_
        refine Go.ldI (pc' := 162) (k := 3) (v := (.int z)) f_766 rfl rfl d7_161 rfl ?_
        refine Go.lshl (pc' := 163) d7_162 rfl ?_
        refine Go.lor (pc' := 164) d7_163 rfl ?_
        generalize eb_1033 : b_953 ||| ((1 : Int64) <<< (z &&& 0x3f).toInt64) = b_1033
        have hb_b_1033 : ∀ j : Nat, j < 64 → (b_1033.toBitVec.getLsbD j = true ↔ (j = x.toInt.toNat % 64 ∨ j = y.toInt.toNat % 64 ∨ j = z.toInt.toNat % 64)) := fun j hj => by
          rw [← eb_1033]
          exact (own_orb _ z (by omega) j hj _ (hb_b_953 j hj)).trans or_assoc
        refine Go.lstore (pc' := 166) (Ls' := #[.val (.ref a), .val (.ref o), .val (.int t), .val (.int (0 : Int32)), .val (.ref r), .val (.int (4 : Int32)), .val (.int (3 : Int32)), .val (.int w_787), .val (.long b_1033), .second]) d7_164 rfl rfl ?_
        refine Go.iinc (pc' := 169) (w := (4 : Int32)) (Ls' := #[.val (.ref a), .val (.ref o), .val (.int t), .val (.int (0 : Int32)), .val (.ref r), .val (.int (4 : Int32)), .val (.int (4 : Int32)), .val (.int w_787), .val (.long b_1033), .second]) d7_166 rfl rfl rfl rfl ?_
        refine Go.goto (pc' := 134) d7_169 (by decide) (by decide) ?_
        refine Go.iload (pc' := 136) d7_134 rfl rfl ?_
        refine Go.iload (pc' := 138) d7_136 rfl rfl ?_
        refine Go.icmp (pc1 := 172) (pc2 := 141) d7_138 (by decide) (by decide) rfl (fun (c_1034 : (4 : Int) ≤ (4 : Int)) => ?_) (fun (c_1034 : (4 : Int) < (4 : Int)) => ?_)
        rotate_left
        · exact absurd c_1034 (by decide)
        refine Go.aloadN (pc' := 173) d7_172 rfl rfl rfl ?_
        refine Go.iload (pc' := 175) d7_173 rfl rfl ?_
        refine Go.lload (pc' := 177) d7_175 rfl rfl ?_
        refine Go.callP (pc' := 180) (argsL := [(.int w_787), (.long b_1033)]) (rest := []) (W := 0) (hw _ (List.mem_of_getElem? (i := 80) rfl)) (hw _ (List.mem_of_getElem? (i := 81) rfl)) (hw _ (List.mem_of_getElem? (i := 82) rfl)) (hw _ (List.mem_of_getElem? (i := 10) rfl)) (hw _ (List.mem_of_getElem? (i := 83) rfl)) (hw _ (List.mem_of_getElem? (i := 87) rfl)) rfl (by decide) f_761 (m_ab2 l Z a0 hw a a_614 a_665 a_723 X0 X1 w_787 b_1033 h_758 n0 z_781 f_761 f_769 A_760 f_770 f_772 (by omega) (by omega) (by omega) (by omega) g_675 n_670 n_674 g_734 n_728 n_732 n_733) d7_177 rfl pd6 rfl rfl (Nat.le_of_eq rfl) (by decide) (by decide) (by decide) (by decide) rfl ?_
        rintro _ h_1035 ⟨rfl, V_1037, V_1038, K_1036, A_1039, A_1040, l_1041, l_1042, hbt0⟩
        have f_1043 : Exa Z h_1035 a "com/example/nearword/nearword/internal/index/PointBits" := f_761.sm (Sm.keep K_1036 (ninS n_670 (ninS n_728 nin0)))
        have f_1044 : Exa Z h_1035 o "com/example/nearword/nearword/internal/index/IntList" := f_762.sm (Sm.keep K_1036 (ninS n_671 (ninS n_729 nin0)))
        have f_1045 : Fld Z h_1035 o "com/example/nearword/nearword/internal/index/IntList" "pieces" "[[I" (.ref g) := f_763.sm (Sm.keep K_1036 (ninS n_671 (ninS n_729 nin0)))
        have f_1046 : Fld Z h_1035 o "com/example/nearword/nearword/internal/index/IntList" "start" "I" (.int (0 : Int32)) := f_764.sm (Sm.keep K_1036 (ninS n_671 (ninS n_729 nin0)))
        have f_1047 : Ary Z h_1035 g (.array .int) [(.ref r)] := f_765.sm (Sm.keep K_1036 (ninS n_672 (ninS n_730 nin0)))
        have f_1048 : Ary Z h_1035 r .int [(.int (3 : Int32)), (.int x), (.int y), (.int z)] := f_766.sm (Sm.keep K_1036 (ninS n_673 (ninS n_731 nin0)))
        have f_1049 : Ova Z h_1035 a_614 .long "[J" := f_767.sm (Sm.keep K_1036 (ninS n_674 (ninS n_732 nin0)))
        have f_1050 : Fld Z h_1035 a "com/example/nearword/nearword/internal/index/PointBits" "words" "I" (.int d_243) := f_768.sm (Sm.keep K_1036 (ninS n_670 (ninS n_728 nin0)))
        have f_1051 : Fld Z h_1035 a "com/example/nearword/nearword/internal/index/PointBits" "chunks" "[[J" (.ref a_614) := f_769.sm (Sm.keep K_1036 (ninS n_670 (ninS n_728 nin0)))
        have f_1053 : Exa Z h_1035 a_665 "[J" := f_771.keep K_1036
        have f_1055 : Exa Z h_1035 a_723 "[J" := f_773.keep K_1036
        have f_1056 : Ary Z h_1035 a_614 (.array .long) [(.ref a_665), (.ref a_723)] := A_760.sm (Sm.keep K_1036 (ninS n_674 (ninS n_732 nin0)))
        have t_1057 : a < h_1035.size := Nat.lt_of_lt_of_le t_774 K_1036.1
        have t_1058 : o < h_1035.size := Nat.lt_of_lt_of_le t_775 K_1036.1
        have t_1059 : g < h_1035.size := Nat.lt_of_lt_of_le t_776 K_1036.1
        have t_1060 : r < h_1035.size := Nat.lt_of_lt_of_le t_777 K_1036.1
        have t_1061 : a_614 < h_1035.size := Nat.lt_of_lt_of_le t_778 K_1036.1
        have t_1062 : a_665 < h_1035.size := Nat.lt_of_lt_of_le t_779 K_1036.1
        have t_1063 : a_723 < h_1035.size := Nat.lt_of_lt_of_le t_780 K_1036.1
        have z_1064 : n0 ≤ h_1035.size := Nat.le_trans z_781 K_1036.1
        have b_1065 : h0.size ≤ h_1035.size := Nat.le_trans b_782 K_1036.1
        have K_1066 : Keep h0 h_1035 [a] := K_783.trans K_1036 (allS (Or.inr g_676) (allS (Or.inr g_735) all0))
        have bb1 : ∀ f : Nat, (own_bt (V_1037 ++ V_1038) f = true ↔ ((f : Int) = x.toInt ∨ (f : Int) = y.toInt ∨ (f : Int) = z.toInt)) := fun f => by
          rw [hbt0 f, b0 f, hb_b_1033 (f % 64) (Nat.mod_lt _ (by decide))]
          omega
        show (Go false l ({ frames := 2, cells := 3, slots := 9235, locals := 27 } : Room) Z (⟨"com/example/nearword/nearword/internal/index/PointBits", "<init>", "(Lcom/example/nearword/nearword/internal/index/IntList;I)V"⟩ : MethodName) prog_49_method_1_code 10 none n0 3 9235 (fun v h => v = none ∧ Keep h0 h [a] ∧ ((∃ (g c0 : Addr) (W0 : List Int64), Exa Z h a "com/example/nearword/nearword/internal/index/PointBits" ∧ Fld Z h a "com/example/nearword/nearword/internal/index/PointBits" "chunks" "[[J" (.ref g) ∧ Ary Z h g (.array .long) [.ref c0] ∧ Ary Z h c0 .long (W0.map Value.long) ∧ W0.length ≤ 8192 ∧ ∀ f : Nat, (own_bt W0 f = true ↔ ((f : Int) = x.toInt ∨ (f : Int) = y.toInt ∨ (f : Int) = z.toInt))) ∨ (∃ (g c0 c1 : Addr) (W0 W1 : List Int64), Exa Z h a "com/example/nearword/nearword/internal/index/PointBits" ∧ Fld Z h a "com/example/nearword/nearword/internal/index/PointBits" "chunks" "[[J" (.ref g) ∧ Ary Z h g (.array .long) [.ref c0, .ref c1] ∧ Ary Z h c0 .long (W0.map Value.long) ∧ Ary Z h c1 .long (W1.map Value.long) ∧ W0.length = 8192 ∧ W1.length ≤ 8192 ∧ ∀ f : Nat, (own_bt (W0 ++ W1) f = true ↔ ((f : Int) = x.toInt ∨ (f : Int) = y.toInt ∨ (f : Int) = z.toInt)))))) h_1035 (0 + 0 + 1 + 0 + 1 + 0 + 1 + 0 + 0 + 0 + 0 + 0) (0 + 0 + 2 + 0 + 8192 + 0 + 1041 + 0 + 0 + 0 + 0 + 0) 180 #[.val (.ref a), .val (.ref o), .val (.int t), .val (.int (0 : Int32)), .val (.ref r), .val (.int (4 : Int32)), .val (.int (4 : Int32)), .val (.int w_787), .val (.long b_1033), .second] []
        refine Go.goto (pc' := 114) d7_180 (by decide) (by decide) ?_
        refine Go.iload (pc' := 116) d7_114 rfl rfl ?_
        refine Go.iload (pc' := 118) d7_116 rfl rfl ?_
        refine Go.icmp (pc1 := 183) (pc2 := 121) d7_118 (by decide) (by decide) rfl (fun (c_1067 : (4 : Int) ≤ (4 : Int)) => ?_) (fun (c_1067 : (4 : Int) < (4 : Int)) => ?_)
        rotate_left
        · exact absurd c_1067 (by decide)
        refine Go.iinc (pc' := 186) (w := (1 : Int32)) (Ls' := #[.val (.ref a), .val (.ref o), .val (.int t), .val (.int (1 : Int32)), .val (.ref r), .val (.int (4 : Int32)), .val (.int (4 : Int32)), .val (.int w_787), .val (.long b_1033), .second]) d7_183 rfl rfl rfl rfl ?_
        refine Go.goto (pc' := 86) d7_186 (by decide) (by decide) ?_
        refine Go.iloadN (pc' := 87) d7_86 rfl rfl ?_
        refine Go.aloadN (pc' := 88) d7_87 rfl rfl rfl ?_
        refine Go.callV (pc' := 91) (argsL := []) (rest := [(.int (1 : Int32))]) (W := 1) (hw _ (List.mem_of_getElem? (i := 55) rfl)) (hw _ (List.mem_of_getElem? (i := 56) rfl)) (hw _ (List.mem_of_getElem? (i := 58) rfl)) (hw _ (List.mem_of_getElem? (i := 57) rfl)) (hw _ (List.mem_of_getElem? (i := 14) rfl)) (hw _ (List.mem_of_getElem? (i := 59) rfl)) (by decide) f_1044 (m_ps l Z a0 hw o g r x y z h_1035 n0 z_1064 f_1044 f_1045 f_1046 f_1047 f_1048) d7_88 rfl pd2 rfl rfl (Nat.le_of_eq rfl) (by decide) (by decide) (by decide) (by decide) rfl ?_
        rintro _ _ ⟨rfl, rfl⟩
        show (Go false l ({ frames := 2, cells := 3, slots := 9235, locals := 27 } : Room) Z (⟨"com/example/nearword/nearword/internal/index/PointBits", "<init>", "(Lcom/example/nearword/nearword/internal/index/IntList;I)V"⟩ : MethodName) prog_49_method_1_code 10 none n0 3 9235 (fun v h => v = none ∧ Keep h0 h [a] ∧ ((∃ (g c0 : Addr) (W0 : List Int64), Exa Z h a "com/example/nearword/nearword/internal/index/PointBits" ∧ Fld Z h a "com/example/nearword/nearword/internal/index/PointBits" "chunks" "[[J" (.ref g) ∧ Ary Z h g (.array .long) [.ref c0] ∧ Ary Z h c0 .long (W0.map Value.long) ∧ W0.length ≤ 8192 ∧ ∀ f : Nat, (own_bt W0 f = true ↔ ((f : Int) = x.toInt ∨ (f : Int) = y.toInt ∨ (f : Int) = z.toInt))) ∨ (∃ (g c0 c1 : Addr) (W0 W1 : List Int64), Exa Z h a "com/example/nearword/nearword/internal/index/PointBits" ∧ Fld Z h a "com/example/nearword/nearword/internal/index/PointBits" "chunks" "[[J" (.ref g) ∧ Ary Z h g (.array .long) [.ref c0, .ref c1] ∧ Ary Z h c0 .long (W0.map Value.long) ∧ Ary Z h c1 .long (W1.map Value.long) ∧ W0.length = 8192 ∧ W1.length ≤ 8192 ∧ ∀ f : Nat, (own_bt (W0 ++ W1) f = true ↔ ((f : Int) = x.toInt ∨ (f : Int) = y.toInt ∨ (f : Int) = z.toInt)))))) h_1035 (0 + 0 + 1 + 0 + 1 + 0 + 1 + 0 + 0 + 0 + 0 + 0 + 0) (0 + 0 + 2 + 0 + 8192 + 0 + 1041 + 0 + 0 + 0 + 0 + 0 + 0) 91 #[.val (.ref a), .val (.ref o), .val (.int t), .val (.int (1 : Int32)), .val (.ref r), .val (.int (4 : Int32)), .val (.int (4 : Int32)), .val (.int w_787), .val (.long b_1033), .second] [(.int (1 : Int32)), (.int (1 : Int32))]
        refine Go.icmp (pc1 := 189) (pc2 := 94) d7_91 (by decide) (by decide) rfl (fun (c_1068 : (1 : Int) ≤ (1 : Int)) => ?_) (fun (c_1068 : (1 : Int) < (1 : Int)) => ?_)
        rotate_left
        · exact absurd c_1068 (by decide)
        exact Go.ret0 d7_189 rfl ⟨rfl, K_1066, Or.inr ⟨a_614, a_665, a_723, V_1037, V_1038, f_1043, f_1051, f_1056, A_1039, A_1040, by omega, by omega, fun f => (bb1 f).trans (by omega)⟩⟩ (by decide) (by decide)
set_option maxRecDepth 65536 in
set_option maxHeartbeats 40000000 in
theorem rm1 (l : Launch) (Z : State) (a0 : Array Value) (hw : ∀ d ∈ tables_1, d.before a0 Z = true) (ws : List Jvm.Cond) (x0 x1 x2 l0 m0 r0 : Int32) (h0 : Heap) (n0 : Nat) (z0 : n0 ≤ h0.size)  : MetFree l x (head1 (Jvm.Cond.code x code maxLocals ret :: ws) room_1) (fun a U => a = #[(.int x0), (.int x1), (.int x2), (.int l0), (.int m0), (.int r0)] ∧ Z.Warmed39 U.vm ∧ U.heap = h0) (fun _ _ _ _ _ => True) (fun _ U o U' => ∃ v L, o = .returned v ∧ (((fun v h => v = some (.int 1)) v U'.heap ∧ h0.size ≤ U'.heap.size) ∧ Fr n0 L) ∧ GoEnd false U o U' L 24 18560) := by
  refine met_go (y := x) (Q := fun v h => v = some (.int 1)) (Ls := #[.val (.int x0), .val (.int x1), .val (.int x2), .val (.int l0), .val (.int m0), .val (.int r0), .unset, .unset, .unset, .unset, .unset, .unset, .unset, .unset, .unset, .unset, .unset]) (plainFor_of_name pn2) (fun m => by first | (simp [entryFrame, mkF, argsToLocals, Value.category, maxLocals]; done) | rfl) ?_
  show (Go false l room_1 Z x code maxLocals ret n0 24 18560 (fun v h => v = some (.int 1))) h0 0 0 0 #[.val (.int x0), .val (.int x1), .val (.int x2), .val (.int l0), .val (.int m0), .val (.int r0), .unset, .unset, .unset, .unset, .unset, .unset, .unset, .unset, .unset, .unset, .unset] []
  refine Go.iloadN (pc' := 1) at_0 rfl rfl ?_
  refine Go.ldcI (pc' := 3) (hw _ (List.mem_of_getElem? (i := 0) rfl)) at_1 rfl ?_
  refine Go.iand (pc' := 4) at_3 rfl ?_
  generalize ep_1069 : x0 &&& (589823 : Int32) = p_1069
  have kp_1069 : 0 ≤ p_1069.toInt ∧ p_1069.toInt ≤ 589823 := by rw [← ep_1069]; exact c_and _ (589823 : Int32) (by decide)
  refine Go.istore (pc' := 6) (Ls' := #[.val (.int x0), .val (.int x1), .val (.int x2), .val (.int l0), .val (.int m0), .val (.int r0), .val (.int p_1069), .unset, .unset, .unset, .unset, .unset, .unset, .unset, .unset, .unset, .unset]) at_4 rfl rfl ?_
  refine Go.iloadN (pc' := 7) at_6 rfl rfl ?_
  refine Go.ldcI (pc' := 9) (hw _ (List.mem_of_getElem? (i := 0) rfl)) at_7 rfl ?_
  refine Go.iand (pc' := 10) at_9 rfl ?_
  generalize ep_1070 : x1 &&& (589823 : Int32) = p_1070
  have kp_1070 : 0 ≤ p_1070.toInt ∧ p_1070.toInt ≤ 589823 := by rw [← ep_1070]; exact c_and _ (589823 : Int32) (by decide)
  refine Go.istore (pc' := 12) (Ls' := #[.val (.int x0), .val (.int x1), .val (.int x2), .val (.int l0), .val (.int m0), .val (.int r0), .val (.int p_1069), .val (.int p_1070), .unset, .unset, .unset, .unset, .unset, .unset, .unset, .unset, .unset]) at_10 rfl rfl ?_
  refine Go.iloadN (pc' := 13) at_12 rfl rfl ?_
  refine Go.ldcI (pc' := 15) (hw _ (List.mem_of_getElem? (i := 0) rfl)) at_13 rfl ?_
  refine Go.iand (pc' := 16) at_15 rfl ?_
  generalize ep_1071 : x2 &&& (589823 : Int32) = p_1071
  have kp_1071 : 0 ≤ p_1071.toInt ∧ p_1071.toInt ≤ 589823 := by rw [← ep_1071]; exact c_and _ (589823 : Int32) (by decide)
  refine Go.istore (pc' := 18) (Ls' := #[.val (.int x0), .val (.int x1), .val (.int x2), .val (.int l0), .val (.int m0), .val (.int r0), .val (.int p_1069), .val (.int p_1070), .val (.int p_1071), .unset, .unset, .unset, .unset, .unset, .unset, .unset, .unset]) at_16 rfl rfl ?_
  refine Go.iload (pc' := 20) at_18 rfl rfl ?_
  refine Go.iload (pc' := 22) at_20 rfl rfl ?_
  refine Go.iload (pc' := 24) at_22 rfl rfl ?_
  refine Go.callS (pc' := 27) (argsL := [(.int p_1070), (.int p_1071)]) (rest := [(.int p_1069)]) (W := 1) (hw _ (List.mem_of_getElem? (i := 1) rfl)) (hw _ (List.mem_of_getElem? (i := 2) rfl)) (hw _ (List.mem_of_getElem? (i := 3) rfl)) (hw _ (List.mem_of_getElem? (i := 4) rfl)) (by decide) (m_min l Z a0 hw p_1070 p_1071 h0 n0 z0) at_24 rfl pd4 rfl rfl (Nat.le_of_eq rfl) (by decide) (by decide) (by decide) (by decide) rfl ?_
  rintro _ _ ⟨i1, rfl, rfl, hi1⟩
  show (Go false l room_1 Z x code maxLocals ret n0 24 18560 (fun v h => v = some (.int 1))) h0 (0 + 0) (0 + 0) 27 #[.val (.int x0), .val (.int x1), .val (.int x2), .val (.int l0), .val (.int m0), .val (.int r0), .val (.int p_1069), .val (.int p_1070), .val (.int p_1071), .unset, .unset, .unset, .unset, .unset, .unset, .unset, .unset] [(.int i1), (.int p_1069)]
  refine Go.callS (pc' := 30) (argsL := [(.int p_1069), (.int i1)]) (rest := []) (W := 0) (hw _ (List.mem_of_getElem? (i := 1) rfl)) (hw _ (List.mem_of_getElem? (i := 2) rfl)) (hw _ (List.mem_of_getElem? (i := 3) rfl)) (hw _ (List.mem_of_getElem? (i := 4) rfl)) (by decide) (m_min l Z a0 hw p_1069 i1 h0 n0 z0) at_27 rfl pd4 rfl rfl (Nat.le_of_eq rfl) (by decide) (by decide) (by decide) (by decide) rfl ?_
  rintro _ _ ⟨xm, rfl, rfl, hxm⟩
  show (Go false l room_1 Z x code maxLocals ret n0 24 18560 (fun v h => v = some (.int 1))) h0 (0 + 0 + 0) (0 + 0 + 0) 30 #[.val (.int x0), .val (.int x1), .val (.int x2), .val (.int l0), .val (.int m0), .val (.int r0), .val (.int p_1069), .val (.int p_1070), .val (.int p_1071), .unset, .unset, .unset, .unset, .unset, .unset, .unset, .unset] [(.int xm)]
  refine Go.istore (pc' := 32) (Ls' := #[.val (.int x0), .val (.int x1), .val (.int x2), .val (.int l0), .val (.int m0), .val (.int r0), .val (.int p_1069), .val (.int p_1070), .val (.int p_1071), .val (.int xm), .unset, .unset, .unset, .unset, .unset, .unset, .unset]) at_30 rfl rfl ?_
  refine Go.iload (pc' := 34) at_32 rfl rfl ?_
  refine Go.iload (pc' := 36) at_34 rfl rfl ?_
  refine Go.iload (pc' := 38) at_36 rfl rfl ?_
  refine Go.callS (pc' := 41) (argsL := [(.int p_1070), (.int p_1071)]) (rest := [(.int p_1069)]) (W := 1) (hw _ (List.mem_of_getElem? (i := 5) rfl)) (hw _ (List.mem_of_getElem? (i := 6) rfl)) (hw _ (List.mem_of_getElem? (i := 3) rfl)) (hw _ (List.mem_of_getElem? (i := 7) rfl)) (by decide) (m_max l Z a0 hw p_1070 p_1071 h0 n0 z0) at_38 rfl pd4 rfl rfl (Nat.le_of_eq rfl) (by decide) (by decide) (by decide) (by decide) rfl ?_
  rintro _ _ ⟨i2, rfl, rfl, hi2⟩
  show (Go false l room_1 Z x code maxLocals ret n0 24 18560 (fun v h => v = some (.int 1))) h0 (0 + 0 + 0 + 0) (0 + 0 + 0 + 0) 41 #[.val (.int x0), .val (.int x1), .val (.int x2), .val (.int l0), .val (.int m0), .val (.int r0), .val (.int p_1069), .val (.int p_1070), .val (.int p_1071), .val (.int xm), .unset, .unset, .unset, .unset, .unset, .unset, .unset] [(.int i2), (.int p_1069)]
  refine Go.callS (pc' := 44) (argsL := [(.int p_1069), (.int i2)]) (rest := []) (W := 0) (hw _ (List.mem_of_getElem? (i := 5) rfl)) (hw _ (List.mem_of_getElem? (i := 6) rfl)) (hw _ (List.mem_of_getElem? (i := 3) rfl)) (hw _ (List.mem_of_getElem? (i := 7) rfl)) (by decide) (m_max l Z a0 hw p_1069 i2 h0 n0 z0) at_41 rfl pd4 rfl rfl (Nat.le_of_eq rfl) (by decide) (by decide) (by decide) (by decide) rfl ?_
  rintro _ _ ⟨zm, rfl, rfl, hzm⟩
  show (Go false l room_1 Z x code maxLocals ret n0 24 18560 (fun v h => v = some (.int 1))) h0 (0 + 0 + 0 + 0 + 0) (0 + 0 + 0 + 0 + 0) 44 #[.val (.int x0), .val (.int x1), .val (.int x2), .val (.int l0), .val (.int m0), .val (.int r0), .val (.int p_1069), .val (.int p_1070), .val (.int p_1071), .val (.int xm), .unset, .unset, .unset, .unset, .unset, .unset, .unset] [(.int zm)]
  refine Go.istore (pc' := 46) (Ls' := #[.val (.int x0), .val (.int x1), .val (.int x2), .val (.int l0), .val (.int m0), .val (.int r0), .val (.int p_1069), .val (.int p_1070), .val (.int p_1071), .val (.int xm), .val (.int zm), .unset, .unset, .unset, .unset, .unset, .unset]) at_44 rfl rfl ?_
  refine Go.iload (pc' := 48) at_46 rfl rfl ?_
  refine Go.iload (pc' := 50) at_48 rfl rfl ?_
  refine Go.iadd (pc' := 51) at_50 rfl ?_
  refine Go.iload (pc' := 53) at_51 rfl rfl ?_
  refine Go.iadd (pc' := 54) at_53 rfl ?_
  refine Go.iload (pc' := 56) at_54 rfl rfl ?_
  refine Go.isub (pc' := 57) at_56 rfl ?_
  refine Go.iload (pc' := 59) at_57 rfl rfl ?_
  refine Go.isub (pc' := 60) at_59 rfl ?_
  generalize ey_1072 : (((p_1069 + p_1070) + p_1071) - xm) - zm = y_1072
  have k_1073 : y_1072.toInt = p_1069.toInt + p_1070.toInt + p_1071.toInt - xm.toInt - zm.toInt := by
    rw [← ey_1072]
    have := c_iadd p_1069 p_1070
    have := rng32 (p_1069 + p_1070)
    have := rng32 p_1069
    have := rng32 p_1070
    have := c_iadd (p_1069 + p_1070) p_1071
    have := rng32 ((p_1069 + p_1070) + p_1071)
    have := rng32 p_1071
    have := c_isub ((p_1069 + p_1070) + p_1071) xm
    have := rng32 (((p_1069 + p_1070) + p_1071) - xm)
    have := rng32 xm
    have := c_isub (((p_1069 + p_1070) + p_1071) - xm) zm
    have := rng32 ((((p_1069 + p_1070) + p_1071) - xm) - zm)
    have := rng32 zm
    omega
  have hs : 0 ≤ xm.toInt ∧ xm.toInt ≤ y_1072.toInt ∧ y_1072.toInt ≤ zm.toInt ∧ zm.toInt ≤ 589823 := by omega
  refine Go.istore (pc' := 62) (Ls' := #[.val (.int x0), .val (.int x1), .val (.int x2), .val (.int l0), .val (.int m0), .val (.int r0), .val (.int p_1069), .val (.int p_1070), .val (.int p_1071), .val (.int xm), .val (.int zm), .val (.int y_1072), .unset, .unset, .unset, .unset, .unset]) at_60 rfl rfl ?_
  refine Go.iload (pc' := 64) at_62 rfl rfl ?_
  refine Go.iconst (pc' := 65) (v := (1 : Int32)) at_64 rfl rfl ?_
  refine Go.iadd (pc' := 66) at_65 rfl ?_
  refine Go.iloadN (pc' := 67) at_66 rfl rfl ?_
  refine Go.sipush (pc' := 70) (v := (1023 : Int32)) at_67 rfl rfl ?_
  refine Go.iand (pc' := 71) at_70 rfl ?_
  refine Go.iadd (pc' := 72) at_71 rfl ?_
  generalize et_1074 : (zm + (1 : Int32)) + (l0 &&& (1023 : Int32)) = t_1074
  have k_1075 : zm.toInt < t_1074.toInt ∧ t_1074.toInt ≤ 590847 := by
    rw [← et_1074]
    have : (1 : Int32).toInt = 1 := by decide
    have := c_iadd zm (1 : Int32)
    have := rng32 (zm + (1 : Int32))
    have := rng32 zm
    have : (1023 : Int32).toInt = 1023 := by decide
    have := c_mask l0 (1023 : Int32) 10 (by decide) (by decide)
    have := rng32 (l0 &&& (1023 : Int32))
    have := rng32 l0
    have := c_iadd (zm + (1 : Int32)) (l0 &&& (1023 : Int32))
    have := rng32 ((zm + (1 : Int32)) + (l0 &&& (1023 : Int32)))
    omega
  refine Go.istore (pc' := 74) (Ls' := #[.val (.int x0), .val (.int x1), .val (.int x2), .val (.int l0), .val (.int m0), .val (.int r0), .val (.int p_1069), .val (.int p_1070), .val (.int p_1071), .val (.int xm), .val (.int zm), .val (.int y_1072), .val (.int t_1074), .unset, .unset, .unset, .unset]) at_72 rfl rfl ?_
  refine Go.newO (pc' := 77) (hw _ (List.mem_of_getElem? (i := 8) rfl)) (hw _ (List.mem_of_getElem? (i := 9) rfl)) (hw _ (List.mem_of_getElem? (i := 10) rfl)) at_74 (by decide) (by decide) rfl ?_
  intro h_1076 a_1077 q_1078 E_1079 A_1080 D_1081
  have g_1082 : n0 ≤ a_1077 := q_1078 ▸ z0
  have z_1083 : n0 ≤ h_1076.size := Nat.le_trans z0 E_1079.1
  have t_1084 : a_1077 < h_1076.size := A_1080.lt
  have f_1085 : Fld Z h_1076 a_1077 "com/example/nearword/nearword/internal/index/PointBits" "words" "I" (.int (0 : Int32)) := D_1081 (Or.inl (hw _ (List.mem_of_getElem? (i := 46) rfl))) (ty := .int) (by decide)
  have f_1086 : Fld Z h_1076 a_1077 "com/example/nearword/nearword/internal/index/PointBits" "chunks" "[[J" .null := D_1081 (Or.inl (hw _ (List.mem_of_getElem? (i := 51) rfl))) (ty := (.array (.array .long))) (by decide)
  refine Go.dup (pc' := 78) at_77 rfl rfl ?_
  refine Go.iconst (pc' := 79) (v := (3 : Int32)) at_78 rfl rfl ?_
  refine Go.newA (pc' := 81) (k := 3) (ty := .int) (cap := 3) (hw _ (List.mem_of_getElem? (i := 11) rfl)) rfl rfl (by decide) (by decide) at_79 (by decide) (by decide) rfl ?_
  intro h_1087 a_1088 q_1089 E_1090 A_1091
  have n_1093 : a_1077 ≠ a_1088 := Nat.ne_of_lt (q_1089 ▸ t_1084)
  have g_1094 : n0 ≤ a_1088 := q_1089 ▸ z_1083
  have f_1095 : Exa Z h_1087 a_1077 "com/example/nearword/nearword/internal/index/PointBits" := A_1080.sm (Sm.ext E_1090)
  have f_1096 : Fld Z h_1087 a_1077 "com/example/nearword/nearword/internal/index/PointBits" "words" "I" (.int (0 : Int32)) := f_1085.sm (Sm.ext E_1090)
  have f_1097 : Fld Z h_1087 a_1077 "com/example/nearword/nearword/internal/index/PointBits" "chunks" "[[J" .null := f_1086.sm (Sm.ext E_1090)
  have t_1098 : a_1077 < h_1087.size := Nat.lt_of_lt_of_le t_1084 E_1090.1
  have z_1099 : n0 ≤ h_1087.size := Nat.le_trans z_1083 E_1090.1
  have t_1100 : a_1088 < h_1087.size := A_1091.lt
  change Ary Z h_1087 a_1088 .int [(.int (0 : Int32)), (.int (0 : Int32)), (.int (0 : Int32))] at A_1091
  refine Go.dup (pc' := 82) at_81 rfl rfl ?_
  refine Go.iconst (pc' := 83) (v := (0 : Int32)) at_82 rfl rfl ?_
  refine Go.iload (pc' := 85) at_83 rfl rfl ?_
  refine Go.stI (pc' := 86) (k := 0) A_1091 rfl (by show 0 < 3; decide) at_85 g_1094 rfl ?_
  intro h_1101 W_1102 A_1103
  have f_1104 : Exa Z h_1101 a_1077 "com/example/nearword/nearword/internal/index/PointBits" := f_1095.sm (Sm.wr W_1102 n_1093)
  have f_1105 : Fld Z h_1101 a_1077 "com/example/nearword/nearword/internal/index/PointBits" "words" "I" (.int (0 : Int32)) := f_1096.sm (Sm.wr W_1102 n_1093)
  have f_1106 : Fld Z h_1101 a_1077 "com/example/nearword/nearword/internal/index/PointBits" "chunks" "[[J" .null := f_1097.sm (Sm.wr W_1102 n_1093)
  have t_1107 : a_1077 < h_1101.size := Nat.lt_of_lt_of_le t_1098 (Nat.le_of_eq W_1102.size.symm)
  have t_1108 : a_1088 < h_1101.size := Nat.lt_of_lt_of_le t_1100 (Nat.le_of_eq W_1102.size.symm)
  have z_1109 : n0 ≤ h_1101.size := Nat.le_trans z_1099 (Nat.le_of_eq W_1102.size.symm)
  change Ary Z h_1101 a_1088 .int [(.int xm), (.int (0 : Int32)), (.int (0 : Int32))] at A_1103
  refine Go.dup (pc' := 87) at_86 rfl rfl ?_
  refine Go.iconst (pc' := 88) (v := (1 : Int32)) at_87 rfl rfl ?_
  refine Go.iload (pc' := 90) at_88 rfl rfl ?_
  refine Go.stI (pc' := 91) (k := 1) A_1103 rfl (by show 1 < 3; decide) at_90 g_1094 rfl ?_
  intro h_1110 W_1111 A_1112
  have f_1113 : Exa Z h_1110 a_1077 "com/example/nearword/nearword/internal/index/PointBits" := f_1104.sm (Sm.wr W_1111 n_1093)
  have f_1114 : Fld Z h_1110 a_1077 "com/example/nearword/nearword/internal/index/PointBits" "words" "I" (.int (0 : Int32)) := f_1105.sm (Sm.wr W_1111 n_1093)
  have f_1115 : Fld Z h_1110 a_1077 "com/example/nearword/nearword/internal/index/PointBits" "chunks" "[[J" .null := f_1106.sm (Sm.wr W_1111 n_1093)
  have t_1116 : a_1077 < h_1110.size := Nat.lt_of_lt_of_le t_1107 (Nat.le_of_eq W_1111.size.symm)
  have t_1117 : a_1088 < h_1110.size := Nat.lt_of_lt_of_le t_1108 (Nat.le_of_eq W_1111.size.symm)
  have z_1118 : n0 ≤ h_1110.size := Nat.le_trans z_1109 (Nat.le_of_eq W_1111.size.symm)
  change Ary Z h_1110 a_1088 .int [(.int xm), (.int y_1072), (.int (0 : Int32))] at A_1112
  refine Go.dup (pc' := 92) at_91 rfl rfl ?_
  refine Go.iconst (pc' := 93) (v := (2 : Int32)) at_92 rfl rfl ?_
  refine Go.iload (pc' := 95) at_93 rfl rfl ?_
  refine Go.stI (pc' := 96) (k := 2) A_1112 rfl (by show 2 < 3; decide) at_95 g_1094 rfl ?_
  intro h_1119 W_1120 A_1121
  have f_1122 : Exa Z h_1119 a_1077 "com/example/nearword/nearword/internal/index/PointBits" := f_1113.sm (Sm.wr W_1120 n_1093)
  have f_1123 : Fld Z h_1119 a_1077 "com/example/nearword/nearword/internal/index/PointBits" "words" "I" (.int (0 : Int32)) := f_1114.sm (Sm.wr W_1120 n_1093)
  have f_1124 : Fld Z h_1119 a_1077 "com/example/nearword/nearword/internal/index/PointBits" "chunks" "[[J" .null := f_1115.sm (Sm.wr W_1120 n_1093)
  have t_1125 : a_1077 < h_1119.size := Nat.lt_of_lt_of_le t_1116 (Nat.le_of_eq W_1120.size.symm)
  have t_1126 : a_1088 < h_1119.size := Nat.lt_of_lt_of_le t_1117 (Nat.le_of_eq W_1120.size.symm)
  have z_1127 : n0 ≤ h_1119.size := Nat.le_trans z_1118 (Nat.le_of_eq W_1120.size.symm)
  change Ary Z h_1119 a_1088 .int [(.int xm), (.int y_1072), (.int zm)] at A_1121
  refine Go.callS (pc' := 99) (argsL := [(.ref a_1088)]) (rest := [(.ref a_1077), (.ref a_1077)]) (W := 2) (hw _ (List.mem_of_getElem? (i := 12) rfl)) (hw _ (List.mem_of_getElem? (i := 13) rfl)) (hw _ (List.mem_of_getElem? (i := 14) rfl)) (hw _ (List.mem_of_getElem? (i := 15) rfl)) (by decide) (m_of l Z a0 hw a_1088 xm y_1072 zm h_1119 n0 z_1127 A_1121) at_96 rfl pd7 rfl rfl (Nat.le_of_eq rfl) (by decide) (by decide) (by decide) (by decide) rfl ?_
  rintro _ h_1128 ⟨io, ig, ir, rfl, K_1129, X_1130, F_1131, F_1132, F_1133, G_1134, A_1135⟩
  have f_1136 : Exa Z h_1128 a_1077 "com/example/nearword/nearword/internal/index/PointBits" := f_1122.sm (Sm.keep K_1129 nin0)
  have f_1137 : Fld Z h_1128 a_1077 "com/example/nearword/nearword/internal/index/PointBits" "words" "I" (.int (0 : Int32)) := f_1123.sm (Sm.keep K_1129 nin0)
  have f_1138 : Fld Z h_1128 a_1077 "com/example/nearword/nearword/internal/index/PointBits" "chunks" "[[J" .null := f_1124.sm (Sm.keep K_1129 nin0)
  have f_1139 : Ary Z h_1128 a_1088 .int [(.int xm), (.int y_1072), (.int zm)] := A_1121.sm (Sm.keep K_1129 nin0)
  have t_1140 : a_1077 < h_1128.size := Nat.lt_of_lt_of_le t_1125 K_1129.1
  have t_1141 : a_1088 < h_1128.size := Nat.lt_of_lt_of_le t_1126 K_1129.1
  have z_1142 : n0 ≤ h_1128.size := Nat.le_trans z_1127 K_1129.1
  have ne1 : a_1077 ≠ io := ne_exa f_1136 X_1130 (by decide)
  have ne2 : a_1077 ≠ ig := by obtain ⟨_, Ag, -⟩ := G_1134; exact ne_arr f_1136 (hw _ (List.mem_of_getElem? (i := 9) rfl)) Ag
  have ne3 : a_1077 ≠ ir := by obtain ⟨_, Ag, -⟩ := A_1135; exact ne_arr f_1136 (hw _ (List.mem_of_getElem? (i := 9) rfl)) Ag
  show (Go false l room_1 Z x code maxLocals ret n0 24 18560 (fun v h => v = some (.int 1))) h_1128 (0 + 0 + 0 + 0 + 0 + 1 + 1 + 3) (0 + 0 + 0 + 0 + 0 + 2 + 3 + 8) 99 #[.val (.int x0), .val (.int x1), .val (.int x2), .val (.int l0), .val (.int m0), .val (.int r0), .val (.int p_1069), .val (.int p_1070), .val (.int p_1071), .val (.int xm), .val (.int zm), .val (.int y_1072), .val (.int t_1074), .unset, .unset, .unset, .unset] [(.ref io), (.ref a_1077), (.ref a_1077)]
  refine Go.iload (pc' := 101) at_99 rfl rfl ?_
  refine Go.callN (pc' := 104) (argsL := [(.ref io), (.int t_1074)]) (rest := [(.ref a_1077)]) (W := 1) rfl (hw _ (List.mem_of_getElem? (i := 40) rfl)) (hw _ (List.mem_of_getElem? (i := 41) rfl)) (hw _ (List.mem_of_getElem? (i := 10) rfl)) (hw _ (List.mem_of_getElem? (i := 42) rfl)) (by decide) (m_pb l Z a0 hw a_1077 io ig ir t_1074 xm y_1072 zm h_1128 n0 z_1142 f_1136 f_1137 f_1138 g_1082 X_1130 F_1131 F_1132 G_1134 A_1135 ne1 ne2 ne3 (by omega) (by omega) (by omega) (by omega) (by omega)) at_101 rfl pd8 rfl rfl (Nat.le_of_eq rfl) (by decide) (by decide) (by decide) (by decide) rfl ?_
  rintro _ h_1143 ⟨rfl, K_1144, hsh⟩
  have f_1145 : Exa Z h_1143 a_1077 "com/example/nearword/nearword/internal/index/PointBits" := f_1136.keep K_1144
  have f_1148 : Ary Z h_1143 a_1088 .int [(.int xm), (.int y_1072), (.int zm)] := f_1139.sm (Sm.keep K_1144 (ninS n_1093.symm nin0))
  have t_1149 : a_1077 < h_1143.size := Nat.lt_of_lt_of_le t_1140 K_1144.1
  have t_1150 : a_1088 < h_1143.size := Nat.lt_of_lt_of_le t_1141 K_1144.1
  have z_1151 : n0 ≤ h_1143.size := Nat.le_trans z_1142 K_1144.1
  show (Go false l room_1 Z x code maxLocals ret n0 24 18560 (fun v h => v = some (.int 1))) h_1143 (0 + 0 + 0 + 0 + 0 + 1 + 1 + 3 + 3) (0 + 0 + 0 + 0 + 0 + 2 + 3 + 8 + 9235) 104 #[.val (.int x0), .val (.int x1), .val (.int x2), .val (.int l0), .val (.int m0), .val (.int r0), .val (.int p_1069), .val (.int p_1070), .val (.int p_1071), .val (.int xm), .val (.int zm), .val (.int y_1072), .val (.int t_1074), .unset, .unset, .unset, .unset] [(.ref a_1077)]
  refine Go.astore (pc' := 106) (Ls' := #[.val (.int x0), .val (.int x1), .val (.int x2), .val (.int l0), .val (.int m0), .val (.int r0), .val (.int p_1069), .val (.int p_1070), .val (.int p_1071), .val (.int xm), .val (.int zm), .val (.int y_1072), .val (.int t_1074), .val (.ref a_1077), .unset, .unset, .unset]) at_104 rfl rfl rfl ?_
  refine Go.iload (pc' := 108) at_106 rfl rfl ?_
  refine Go.iconst (pc' := 109) (v := (3 : Int32)) at_108 rfl rfl ?_
  refine Go.iand (pc' := 110) at_109 rfl ?_
  generalize ev_1152 : m0 &&& (3 : Int32) = v_1152
  refine Go.istore (pc' := 112) (Ls' := #[.val (.int x0), .val (.int x1), .val (.int x2), .val (.int l0), .val (.int m0), .val (.int r0), .val (.int p_1069), .val (.int p_1070), .val (.int p_1071), .val (.int xm), .val (.int zm), .val (.int y_1072), .val (.int t_1074), .val (.ref a_1077), .val (.int v_1152), .unset, .unset]) at_110 rfl rfl ?_
  refine Go.iload (pc' := 114) at_112 rfl rfl ?_
  have J : ∀ (q : Int32) (s16 : Slot), (s16 = .unset ∨ ∃ w : Int32, s16 = .val (.int w)) → (Go false l room_1 Z x code maxLocals ret n0 24 18560 (fun v h => v = some (.int 1))) h_1143 (0 + 0 + 0 + 0 + 0 + 1 + 1 + 3 + 3) (0 + 0 + 0 + 0 + 0 + 2 + 3 + 8 + 9235) 197 #[.val (.int x0), .val (.int x1), .val (.int x2), .val (.int l0), .val (.int m0), .val (.int r0), .val (.int p_1069), .val (.int p_1070), .val (.int p_1071), .val (.int xm), .val (.int zm), .val (.int y_1072), .val (.int t_1074), .val (.ref a_1077), .val (.int v_1152), .val (.int q), s16] [] := by
    intro q s16 hS
    rcases hS with rfl | ⟨w16, rfl⟩
    · refine Go.iload (pc' := 199) at_197 rfl rfl ?_
      refine Go.iload (pc' := 201) at_199 rfl rfl ?_
      refine Go.icmp (pc1 := 218) (pc2 := 204) at_201 (by decide) (by decide) rfl (fun (c_1153 : q.toInt = xm.toInt) => ?_) (fun (c_1153 : q.toInt ≠ xm.toInt) => ?_)
      · refine Go.iconst (pc' := 219) (v := (1 : Int32)) at_218 rfl rfl ?_
        refine Go.goto (pc' := 223) at_219 (by decide) (by decide) ?_
        refine Go.istore (pc' := 225) (Ls' := #[.val (.int x0), .val (.int x1), .val (.int x2), .val (.int l0), .val (.int m0), .val (.int r0), .val (.int p_1069), .val (.int p_1070), .val (.int p_1071), .val (.int xm), .val (.int zm), .val (.int y_1072), .val (.int t_1074), .val (.ref a_1077), .val (.int v_1152), .val (.int q), .val (.int (1 : Int32))]) at_223 rfl rfl ?_
        refine Go.aload (pc' := 227) at_225 rfl rfl rfl ?_
        refine Go.iload (pc' := 229) at_227 rfl rfl ?_
        rcases hsh with ⟨g, c0, W0, e1, e2, e3, e4, e5, e6⟩ | ⟨g, c0, c1, W0, W1, e1, e2, e3, e4, e4b, e5, e5b, e6⟩
        · refine Go.callV (pc' := 232) (argsL := [(.int q)]) (rest := []) (W := 0) (hw _ (List.mem_of_getElem? (i := 84) rfl)) (hw _ (List.mem_of_getElem? (i := 85) rfl)) (hw _ (List.mem_of_getElem? (i := 87) rfl)) (hw _ (List.mem_of_getElem? (i := 86) rfl)) (hw _ (List.mem_of_getElem? (i := 10) rfl)) (hw _ (List.mem_of_getElem? (i := 88) rfl)) (by decide) e1 (m_has1 l Z a0 hw a_1077 g c0 W0 q h_1143 n0 z_1151 e1 e2 e3 e4 e5) at_229 rfl pd9 rfl rfl (Nat.le_of_eq rfl) (by decide) (by decide) (by decide) (by decide) rfl ?_
          rintro _ _ ⟨r, rfl, rfl, hr, hr2⟩
          rw [e6] at hr2
          show (Go false l room_1 Z x code maxLocals ret n0 24 18560 (fun v h => v = some (.int 1))) h_1143 (0 + 0 + 0 + 0 + 0 + 1 + 1 + 3 + 3 + 0) (0 + 0 + 0 + 0 + 0 + 2 + 3 + 8 + 9235 + 0) 232 #[.val (.int x0), .val (.int x1), .val (.int x2), .val (.int l0), .val (.int m0), .val (.int r0), .val (.int p_1069), .val (.int p_1070), .val (.int p_1071), .val (.int xm), .val (.int zm), .val (.int y_1072), .val (.int t_1074), .val (.ref a_1077), .val (.int v_1152), .val (.int q), .val (.int (1 : Int32))] [(.int r)]
          have z0 : (0 : Int32).toInt = 0 := rfl
          have z1 : (1 : Int32).toInt = 1 := rfl
          refine Go.iload (pc' := 234) at_232 rfl rfl ?_
          refine Go.icmp (pc1 := 241) (pc2 := 237) at_234 (by decide) (by decide) rfl (fun (c_1154 : r.toInt ≠ (1 : Int)) => ?_) (fun (c_1154 : r.toInt = (1 : Int)) => ?_)
          · exact absurd (by omega) c_1154
          refine Go.iconst (pc' := 238) (v := (1 : Int32)) at_237 rfl rfl ?_
          refine Go.goto (pc' := 242) at_238 (by decide) (by decide) ?_
          exact Go.retN (t := .boolean) at_242 rfl (by simp) rfl rfl (by decide) (by decide)
        · refine Go.callV (pc' := 232) (argsL := [(.int q)]) (rest := []) (W := 0) (hw _ (List.mem_of_getElem? (i := 84) rfl)) (hw _ (List.mem_of_getElem? (i := 85) rfl)) (hw _ (List.mem_of_getElem? (i := 87) rfl)) (hw _ (List.mem_of_getElem? (i := 86) rfl)) (hw _ (List.mem_of_getElem? (i := 10) rfl)) (hw _ (List.mem_of_getElem? (i := 88) rfl)) (by decide) e1 (m_has2 l Z a0 hw a_1077 g c0 c1 W0 W1 q h_1143 n0 z_1151 e1 e2 e3 e4 e4b e5 e5b) at_229 rfl pd9 rfl rfl (Nat.le_of_eq rfl) (by decide) (by decide) (by decide) (by decide) rfl ?_
          rintro _ _ ⟨r, rfl, rfl, hr, hr2⟩
          rw [e6] at hr2
          show (Go false l room_1 Z x code maxLocals ret n0 24 18560 (fun v h => v = some (.int 1))) h_1143 (0 + 0 + 0 + 0 + 0 + 1 + 1 + 3 + 3 + 0) (0 + 0 + 0 + 0 + 0 + 2 + 3 + 8 + 9235 + 0) 232 #[.val (.int x0), .val (.int x1), .val (.int x2), .val (.int l0), .val (.int m0), .val (.int r0), .val (.int p_1069), .val (.int p_1070), .val (.int p_1071), .val (.int xm), .val (.int zm), .val (.int y_1072), .val (.int t_1074), .val (.ref a_1077), .val (.int v_1152), .val (.int q), .val (.int (1 : Int32))] [(.int r)]
          have z0 : (0 : Int32).toInt = 0 := rfl
          have z1 : (1 : Int32).toInt = 1 := rfl
          refine Go.iload (pc' := 234) at_232 rfl rfl ?_
          refine Go.icmp (pc1 := 241) (pc2 := 237) at_234 (by decide) (by decide) rfl (fun (c_1155 : r.toInt ≠ (1 : Int)) => ?_) (fun (c_1155 : r.toInt = (1 : Int)) => ?_)
          · exact absurd (by omega) c_1155
          refine Go.iconst (pc' := 238) (v := (1 : Int32)) at_237 rfl rfl ?_
          refine Go.goto (pc' := 242) at_238 (by decide) (by decide) ?_
          exact Go.retN (t := .boolean) at_242 rfl (by simp) rfl rfl (by decide) (by decide)
      · refine Go.iload (pc' := 206) at_204 rfl rfl ?_
        refine Go.iload (pc' := 208) at_206 rfl rfl ?_
        refine Go.icmp (pc1 := 218) (pc2 := 211) at_208 (by decide) (by decide) rfl (fun (c_1156 : q.toInt = y_1072.toInt) => ?_) (fun (c_1156 : q.toInt ≠ y_1072.toInt) => ?_)
        · refine Go.iconst (pc' := 219) (v := (1 : Int32)) at_218 rfl rfl ?_
          refine Go.goto (pc' := 223) at_219 (by decide) (by decide) ?_
          refine Go.istore (pc' := 225) (Ls' := #[.val (.int x0), .val (.int x1), .val (.int x2), .val (.int l0), .val (.int m0), .val (.int r0), .val (.int p_1069), .val (.int p_1070), .val (.int p_1071), .val (.int xm), .val (.int zm), .val (.int y_1072), .val (.int t_1074), .val (.ref a_1077), .val (.int v_1152), .val (.int q), .val (.int (1 : Int32))]) at_223 rfl rfl ?_
          refine Go.aload (pc' := 227) at_225 rfl rfl rfl ?_
          refine Go.iload (pc' := 229) at_227 rfl rfl ?_
          rcases hsh with ⟨g, c0, W0, e1, e2, e3, e4, e5, e6⟩ | ⟨g, c0, c1, W0, W1, e1, e2, e3, e4, e4b, e5, e5b, e6⟩
          · refine Go.callV (pc' := 232) (argsL := [(.int q)]) (rest := []) (W := 0) (hw _ (List.mem_of_getElem? (i := 84) rfl)) (hw _ (List.mem_of_getElem? (i := 85) rfl)) (hw _ (List.mem_of_getElem? (i := 87) rfl)) (hw _ (List.mem_of_getElem? (i := 86) rfl)) (hw _ (List.mem_of_getElem? (i := 10) rfl)) (hw _ (List.mem_of_getElem? (i := 88) rfl)) (by decide) e1 (m_has1 l Z a0 hw a_1077 g c0 W0 q h_1143 n0 z_1151 e1 e2 e3 e4 e5) at_229 rfl pd9 rfl rfl (Nat.le_of_eq rfl) (by decide) (by decide) (by decide) (by decide) rfl ?_
            rintro _ _ ⟨r, rfl, rfl, hr, hr2⟩
            rw [e6] at hr2
            show (Go false l room_1 Z x code maxLocals ret n0 24 18560 (fun v h => v = some (.int 1))) h_1143 (0 + 0 + 0 + 0 + 0 + 1 + 1 + 3 + 3 + 0) (0 + 0 + 0 + 0 + 0 + 2 + 3 + 8 + 9235 + 0) 232 #[.val (.int x0), .val (.int x1), .val (.int x2), .val (.int l0), .val (.int m0), .val (.int r0), .val (.int p_1069), .val (.int p_1070), .val (.int p_1071), .val (.int xm), .val (.int zm), .val (.int y_1072), .val (.int t_1074), .val (.ref a_1077), .val (.int v_1152), .val (.int q), .val (.int (1 : Int32))] [(.int r)]
            have z0 : (0 : Int32).toInt = 0 := rfl
            have z1 : (1 : Int32).toInt = 1 := rfl
            refine Go.iload (pc' := 234) at_232 rfl rfl ?_
            refine Go.icmp (pc1 := 241) (pc2 := 237) at_234 (by decide) (by decide) rfl (fun (c_1157 : r.toInt ≠ (1 : Int)) => ?_) (fun (c_1157 : r.toInt = (1 : Int)) => ?_)
            · exact absurd (by omega) c_1157
            refine Go.iconst (pc' := 238) (v := (1 : Int32)) at_237 rfl rfl ?_
            refine Go.goto (pc' := 242) at_238 (by decide) (by decide) ?_
            exact Go.retN (t := .boolean) at_242 rfl (by simp) rfl rfl (by decide) (by decide)
          · refine Go.callV (pc' := 232) (argsL := [(.int q)]) (rest := []) (W := 0) (hw _ (List.mem_of_getElem? (i := 84) rfl)) (hw _ (List.mem_of_getElem? (i := 85) rfl)) (hw _ (List.mem_of_getElem? (i := 87) rfl)) (hw _ (List.mem_of_getElem? (i := 86) rfl)) (hw _ (List.mem_of_getElem? (i := 10) rfl)) (hw _ (List.mem_of_getElem? (i := 88) rfl)) (by decide) e1 (m_has2 l Z a0 hw a_1077 g c0 c1 W0 W1 q h_1143 n0 z_1151 e1 e2 e3 e4 e4b e5 e5b) at_229 rfl pd9 rfl rfl (Nat.le_of_eq rfl) (by decide) (by decide) (by decide) (by decide) rfl ?_
            rintro _ _ ⟨r, rfl, rfl, hr, hr2⟩
            rw [e6] at hr2
            show (Go false l room_1 Z x code maxLocals ret n0 24 18560 (fun v h => v = some (.int 1))) h_1143 (0 + 0 + 0 + 0 + 0 + 1 + 1 + 3 + 3 + 0) (0 + 0 + 0 + 0 + 0 + 2 + 3 + 8 + 9235 + 0) 232 #[.val (.int x0), .val (.int x1), .val (.int x2), .val (.int l0), .val (.int m0), .val (.int r0), .val (.int p_1069), .val (.int p_1070), .val (.int p_1071), .val (.int xm), .val (.int zm), .val (.int y_1072), .val (.int t_1074), .val (.ref a_1077), .val (.int v_1152), .val (.int q), .val (.int (1 : Int32))] [(.int r)]
            have z0 : (0 : Int32).toInt = 0 := rfl
            have z1 : (1 : Int32).toInt = 1 := rfl
            refine Go.iload (pc' := 234) at_232 rfl rfl ?_
            refine Go.icmp (pc1 := 241) (pc2 := 237) at_234 (by decide) (by decide) rfl (fun (c_1158 : r.toInt ≠ (1 : Int)) => ?_) (fun (c_1158 : r.toInt = (1 : Int)) => ?_)
            · exact absurd (by omega) c_1158
            refine Go.iconst (pc' := 238) (v := (1 : Int32)) at_237 rfl rfl ?_
            refine Go.goto (pc' := 242) at_238 (by decide) (by decide) ?_
            exact Go.retN (t := .boolean) at_242 rfl (by simp) rfl rfl (by decide) (by decide)
        · refine Go.iload (pc' := 213) at_211 rfl rfl ?_
          refine Go.iload (pc' := 215) at_213 rfl rfl ?_
          refine Go.icmp (pc1 := 222) (pc2 := 218) at_215 (by decide) (by decide) rfl (fun (c_1159 : q.toInt ≠ zm.toInt) => ?_) (fun (c_1159 : q.toInt = zm.toInt) => ?_)
          · refine Go.iconst (pc' := 223) (v := (0 : Int32)) at_222 rfl rfl ?_
            refine Go.istore (pc' := 225) (Ls' := #[.val (.int x0), .val (.int x1), .val (.int x2), .val (.int l0), .val (.int m0), .val (.int r0), .val (.int p_1069), .val (.int p_1070), .val (.int p_1071), .val (.int xm), .val (.int zm), .val (.int y_1072), .val (.int t_1074), .val (.ref a_1077), .val (.int v_1152), .val (.int q), .val (.int (0 : Int32))]) at_223 rfl rfl ?_
            refine Go.aload (pc' := 227) at_225 rfl rfl rfl ?_
            refine Go.iload (pc' := 229) at_227 rfl rfl ?_
            rcases hsh with ⟨g, c0, W0, e1, e2, e3, e4, e5, e6⟩ | ⟨g, c0, c1, W0, W1, e1, e2, e3, e4, e4b, e5, e5b, e6⟩
            · refine Go.callV (pc' := 232) (argsL := [(.int q)]) (rest := []) (W := 0) (hw _ (List.mem_of_getElem? (i := 84) rfl)) (hw _ (List.mem_of_getElem? (i := 85) rfl)) (hw _ (List.mem_of_getElem? (i := 87) rfl)) (hw _ (List.mem_of_getElem? (i := 86) rfl)) (hw _ (List.mem_of_getElem? (i := 10) rfl)) (hw _ (List.mem_of_getElem? (i := 88) rfl)) (by decide) e1 (m_has1 l Z a0 hw a_1077 g c0 W0 q h_1143 n0 z_1151 e1 e2 e3 e4 e5) at_229 rfl pd9 rfl rfl (Nat.le_of_eq rfl) (by decide) (by decide) (by decide) (by decide) rfl ?_
              rintro _ _ ⟨r, rfl, rfl, hr, hr2⟩
              rw [e6] at hr2
              show (Go false l room_1 Z x code maxLocals ret n0 24 18560 (fun v h => v = some (.int 1))) h_1143 (0 + 0 + 0 + 0 + 0 + 1 + 1 + 3 + 3 + 0) (0 + 0 + 0 + 0 + 0 + 2 + 3 + 8 + 9235 + 0) 232 #[.val (.int x0), .val (.int x1), .val (.int x2), .val (.int l0), .val (.int m0), .val (.int r0), .val (.int p_1069), .val (.int p_1070), .val (.int p_1071), .val (.int xm), .val (.int zm), .val (.int y_1072), .val (.int t_1074), .val (.ref a_1077), .val (.int v_1152), .val (.int q), .val (.int (0 : Int32))] [(.int r)]
              have z0 : (0 : Int32).toInt = 0 := rfl
              have z1 : (1 : Int32).toInt = 1 := rfl
              refine Go.iload (pc' := 234) at_232 rfl rfl ?_
              refine Go.icmp (pc1 := 241) (pc2 := 237) at_234 (by decide) (by decide) rfl (fun (c_1160 : r.toInt ≠ (0 : Int)) => ?_) (fun (c_1160 : r.toInt = (0 : Int)) => ?_)
              · exact absurd (by omega) c_1160
              refine Go.iconst (pc' := 238) (v := (1 : Int32)) at_237 rfl rfl ?_
              refine Go.goto (pc' := 242) at_238 (by decide) (by decide) ?_
              exact Go.retN (t := .boolean) at_242 rfl (by simp) rfl rfl (by decide) (by decide)
            · refine Go.callV (pc' := 232) (argsL := [(.int q)]) (rest := []) (W := 0) (hw _ (List.mem_of_getElem? (i := 84) rfl)) (hw _ (List.mem_of_getElem? (i := 85) rfl)) (hw _ (List.mem_of_getElem? (i := 87) rfl)) (hw _ (List.mem_of_getElem? (i := 86) rfl)) (hw _ (List.mem_of_getElem? (i := 10) rfl)) (hw _ (List.mem_of_getElem? (i := 88) rfl)) (by decide) e1 (m_has2 l Z a0 hw a_1077 g c0 c1 W0 W1 q h_1143 n0 z_1151 e1 e2 e3 e4 e4b e5 e5b) at_229 rfl pd9 rfl rfl (Nat.le_of_eq rfl) (by decide) (by decide) (by decide) (by decide) rfl ?_
              rintro _ _ ⟨r, rfl, rfl, hr, hr2⟩
              rw [e6] at hr2
              show (Go false l room_1 Z x code maxLocals ret n0 24 18560 (fun v h => v = some (.int 1))) h_1143 (0 + 0 + 0 + 0 + 0 + 1 + 1 + 3 + 3 + 0) (0 + 0 + 0 + 0 + 0 + 2 + 3 + 8 + 9235 + 0) 232 #[.val (.int x0), .val (.int x1), .val (.int x2), .val (.int l0), .val (.int m0), .val (.int r0), .val (.int p_1069), .val (.int p_1070), .val (.int p_1071), .val (.int xm), .val (.int zm), .val (.int y_1072), .val (.int t_1074), .val (.ref a_1077), .val (.int v_1152), .val (.int q), .val (.int (0 : Int32))] [(.int r)]
              have z0 : (0 : Int32).toInt = 0 := rfl
              have z1 : (1 : Int32).toInt = 1 := rfl
              refine Go.iload (pc' := 234) at_232 rfl rfl ?_
              refine Go.icmp (pc1 := 241) (pc2 := 237) at_234 (by decide) (by decide) rfl (fun (c_1161 : r.toInt ≠ (0 : Int)) => ?_) (fun (c_1161 : r.toInt = (0 : Int)) => ?_)
              · exact absurd (by omega) c_1161
              refine Go.iconst (pc' := 238) (v := (1 : Int32)) at_237 rfl rfl ?_
              refine Go.goto (pc' := 242) at_238 (by decide) (by decide) ?_
              exact Go.retN (t := .boolean) at_242 rfl (by simp) rfl rfl (by decide) (by decide)
          · refine Go.iconst (pc' := 219) (v := (1 : Int32)) at_218 rfl rfl ?_
            refine Go.goto (pc' := 223) at_219 (by decide) (by decide) ?_
            refine Go.istore (pc' := 225) (Ls' := #[.val (.int x0), .val (.int x1), .val (.int x2), .val (.int l0), .val (.int m0), .val (.int r0), .val (.int p_1069), .val (.int p_1070), .val (.int p_1071), .val (.int xm), .val (.int zm), .val (.int y_1072), .val (.int t_1074), .val (.ref a_1077), .val (.int v_1152), .val (.int q), .val (.int (1 : Int32))]) at_223 rfl rfl ?_
            refine Go.aload (pc' := 227) at_225 rfl rfl rfl ?_
            refine Go.iload (pc' := 229) at_227 rfl rfl ?_
            rcases hsh with ⟨g, c0, W0, e1, e2, e3, e4, e5, e6⟩ | ⟨g, c0, c1, W0, W1, e1, e2, e3, e4, e4b, e5, e5b, e6⟩
            · refine Go.callV (pc' := 232) (argsL := [(.int q)]) (rest := []) (W := 0) (hw _ (List.mem_of_getElem? (i := 84) rfl)) (hw _ (List.mem_of_getElem? (i := 85) rfl)) (hw _ (List.mem_of_getElem? (i := 87) rfl)) (hw _ (List.mem_of_getElem? (i := 86) rfl)) (hw _ (List.mem_of_getElem? (i := 10) rfl)) (hw _ (List.mem_of_getElem? (i := 88) rfl)) (by decide) e1 (m_has1 l Z a0 hw a_1077 g c0 W0 q h_1143 n0 z_1151 e1 e2 e3 e4 e5) at_229 rfl pd9 rfl rfl (Nat.le_of_eq rfl) (by decide) (by decide) (by decide) (by decide) rfl ?_
              rintro _ _ ⟨r, rfl, rfl, hr, hr2⟩
              rw [e6] at hr2
              show (Go false l room_1 Z x code maxLocals ret n0 24 18560 (fun v h => v = some (.int 1))) h_1143 (0 + 0 + 0 + 0 + 0 + 1 + 1 + 3 + 3 + 0) (0 + 0 + 0 + 0 + 0 + 2 + 3 + 8 + 9235 + 0) 232 #[.val (.int x0), .val (.int x1), .val (.int x2), .val (.int l0), .val (.int m0), .val (.int r0), .val (.int p_1069), .val (.int p_1070), .val (.int p_1071), .val (.int xm), .val (.int zm), .val (.int y_1072), .val (.int t_1074), .val (.ref a_1077), .val (.int v_1152), .val (.int q), .val (.int (1 : Int32))] [(.int r)]
              have z0 : (0 : Int32).toInt = 0 := rfl
              have z1 : (1 : Int32).toInt = 1 := rfl
              refine Go.iload (pc' := 234) at_232 rfl rfl ?_
              refine Go.icmp (pc1 := 241) (pc2 := 237) at_234 (by decide) (by decide) rfl (fun (c_1162 : r.toInt ≠ (1 : Int)) => ?_) (fun (c_1162 : r.toInt = (1 : Int)) => ?_)
              · exact absurd (by omega) c_1162
              refine Go.iconst (pc' := 238) (v := (1 : Int32)) at_237 rfl rfl ?_
              refine Go.goto (pc' := 242) at_238 (by decide) (by decide) ?_
              exact Go.retN (t := .boolean) at_242 rfl (by simp) rfl rfl (by decide) (by decide)
            · refine Go.callV (pc' := 232) (argsL := [(.int q)]) (rest := []) (W := 0) (hw _ (List.mem_of_getElem? (i := 84) rfl)) (hw _ (List.mem_of_getElem? (i := 85) rfl)) (hw _ (List.mem_of_getElem? (i := 87) rfl)) (hw _ (List.mem_of_getElem? (i := 86) rfl)) (hw _ (List.mem_of_getElem? (i := 10) rfl)) (hw _ (List.mem_of_getElem? (i := 88) rfl)) (by decide) e1 (m_has2 l Z a0 hw a_1077 g c0 c1 W0 W1 q h_1143 n0 z_1151 e1 e2 e3 e4 e4b e5 e5b) at_229 rfl pd9 rfl rfl (Nat.le_of_eq rfl) (by decide) (by decide) (by decide) (by decide) rfl ?_
              rintro _ _ ⟨r, rfl, rfl, hr, hr2⟩
              rw [e6] at hr2
              show (Go false l room_1 Z x code maxLocals ret n0 24 18560 (fun v h => v = some (.int 1))) h_1143 (0 + 0 + 0 + 0 + 0 + 1 + 1 + 3 + 3 + 0) (0 + 0 + 0 + 0 + 0 + 2 + 3 + 8 + 9235 + 0) 232 #[.val (.int x0), .val (.int x1), .val (.int x2), .val (.int l0), .val (.int m0), .val (.int r0), .val (.int p_1069), .val (.int p_1070), .val (.int p_1071), .val (.int xm), .val (.int zm), .val (.int y_1072), .val (.int t_1074), .val (.ref a_1077), .val (.int v_1152), .val (.int q), .val (.int (1 : Int32))] [(.int r)]
              have z0 : (0 : Int32).toInt = 0 := rfl
              have z1 : (1 : Int32).toInt = 1 := rfl
              refine Go.iload (pc' := 234) at_232 rfl rfl ?_
              refine Go.icmp (pc1 := 241) (pc2 := 237) at_234 (by decide) (by decide) rfl (fun (c_1163 : r.toInt ≠ (1 : Int)) => ?_) (fun (c_1163 : r.toInt = (1 : Int)) => ?_)
              · exact absurd (by omega) c_1163
              refine Go.iconst (pc' := 238) (v := (1 : Int32)) at_237 rfl rfl ?_
              refine Go.goto (pc' := 242) at_238 (by decide) (by decide) ?_
              exact Go.retN (t := .boolean) at_242 rfl (by simp) rfl rfl (by decide) (by decide)
    · refine Go.iload (pc' := 199) at_197 rfl rfl ?_
      refine Go.iload (pc' := 201) at_199 rfl rfl ?_
      refine Go.icmp (pc1 := 218) (pc2 := 204) at_201 (by decide) (by decide) rfl (fun (c_1164 : q.toInt = xm.toInt) => ?_) (fun (c_1164 : q.toInt ≠ xm.toInt) => ?_)
      · refine Go.iconst (pc' := 219) (v := (1 : Int32)) at_218 rfl rfl ?_
        refine Go.goto (pc' := 223) at_219 (by decide) (by decide) ?_
        refine Go.istore (pc' := 225) (Ls' := #[.val (.int x0), .val (.int x1), .val (.int x2), .val (.int l0), .val (.int m0), .val (.int r0), .val (.int p_1069), .val (.int p_1070), .val (.int p_1071), .val (.int xm), .val (.int zm), .val (.int y_1072), .val (.int t_1074), .val (.ref a_1077), .val (.int v_1152), .val (.int q), .val (.int (1 : Int32))]) at_223 rfl rfl ?_
        refine Go.aload (pc' := 227) at_225 rfl rfl rfl ?_
        refine Go.iload (pc' := 229) at_227 rfl rfl ?_
        rcases hsh with ⟨g, c0, W0, e1, e2, e3, e4, e5, e6⟩ | ⟨g, c0, c1, W0, W1, e1, e2, e3, e4, e4b, e5, e5b, e6⟩
        · refine Go.callV (pc' := 232) (argsL := [(.int q)]) (rest := []) (W := 0) (hw _ (List.mem_of_getElem? (i := 84) rfl)) (hw _ (List.mem_of_getElem? (i := 85) rfl)) (hw _ (List.mem_of_getElem? (i := 87) rfl)) (hw _ (List.mem_of_getElem? (i := 86) rfl)) (hw _ (List.mem_of_getElem? (i := 10) rfl)) (hw _ (List.mem_of_getElem? (i := 88) rfl)) (by decide) e1 (m_has1 l Z a0 hw a_1077 g c0 W0 q h_1143 n0 z_1151 e1 e2 e3 e4 e5) at_229 rfl pd9 rfl rfl (Nat.le_of_eq rfl) (by decide) (by decide) (by decide) (by decide) rfl ?_
          rintro _ _ ⟨r, rfl, rfl, hr, hr2⟩
          rw [e6] at hr2
          show (Go false l room_1 Z x code maxLocals ret n0 24 18560 (fun v h => v = some (.int 1))) h_1143 (0 + 0 + 0 + 0 + 0 + 1 + 1 + 3 + 3 + 0) (0 + 0 + 0 + 0 + 0 + 2 + 3 + 8 + 9235 + 0) 232 #[.val (.int x0), .val (.int x1), .val (.int x2), .val (.int l0), .val (.int m0), .val (.int r0), .val (.int p_1069), .val (.int p_1070), .val (.int p_1071), .val (.int xm), .val (.int zm), .val (.int y_1072), .val (.int t_1074), .val (.ref a_1077), .val (.int v_1152), .val (.int q), .val (.int (1 : Int32))] [(.int r)]
          have z0 : (0 : Int32).toInt = 0 := rfl
          have z1 : (1 : Int32).toInt = 1 := rfl
          refine Go.iload (pc' := 234) at_232 rfl rfl ?_
          refine Go.icmp (pc1 := 241) (pc2 := 237) at_234 (by decide) (by decide) rfl (fun (c_1165 : r.toInt ≠ (1 : Int)) => ?_) (fun (c_1165 : r.toInt = (1 : Int)) => ?_)
          · exact absurd (by omega) c_1165
          refine Go.iconst (pc' := 238) (v := (1 : Int32)) at_237 rfl rfl ?_
          refine Go.goto (pc' := 242) at_238 (by decide) (by decide) ?_
          exact Go.retN (t := .boolean) at_242 rfl (by simp) rfl rfl (by decide) (by decide)
        · refine Go.callV (pc' := 232) (argsL := [(.int q)]) (rest := []) (W := 0) (hw _ (List.mem_of_getElem? (i := 84) rfl)) (hw _ (List.mem_of_getElem? (i := 85) rfl)) (hw _ (List.mem_of_getElem? (i := 87) rfl)) (hw _ (List.mem_of_getElem? (i := 86) rfl)) (hw _ (List.mem_of_getElem? (i := 10) rfl)) (hw _ (List.mem_of_getElem? (i := 88) rfl)) (by decide) e1 (m_has2 l Z a0 hw a_1077 g c0 c1 W0 W1 q h_1143 n0 z_1151 e1 e2 e3 e4 e4b e5 e5b) at_229 rfl pd9 rfl rfl (Nat.le_of_eq rfl) (by decide) (by decide) (by decide) (by decide) rfl ?_
          rintro _ _ ⟨r, rfl, rfl, hr, hr2⟩
          rw [e6] at hr2
          show (Go false l room_1 Z x code maxLocals ret n0 24 18560 (fun v h => v = some (.int 1))) h_1143 (0 + 0 + 0 + 0 + 0 + 1 + 1 + 3 + 3 + 0) (0 + 0 + 0 + 0 + 0 + 2 + 3 + 8 + 9235 + 0) 232 #[.val (.int x0), .val (.int x1), .val (.int x2), .val (.int l0), .val (.int m0), .val (.int r0), .val (.int p_1069), .val (.int p_1070), .val (.int p_1071), .val (.int xm), .val (.int zm), .val (.int y_1072), .val (.int t_1074), .val (.ref a_1077), .val (.int v_1152), .val (.int q), .val (.int (1 : Int32))] [(.int r)]
          have z0 : (0 : Int32).toInt = 0 := rfl
          have z1 : (1 : Int32).toInt = 1 := rfl
          refine Go.iload (pc' := 234) at_232 rfl rfl ?_
          refine Go.icmp (pc1 := 241) (pc2 := 237) at_234 (by decide) (by decide) rfl (fun (c_1166 : r.toInt ≠ (1 : Int)) => ?_) (fun (c_1166 : r.toInt = (1 : Int)) => ?_)
          · exact absurd (by omega) c_1166
          refine Go.iconst (pc' := 238) (v := (1 : Int32)) at_237 rfl rfl ?_
          refine Go.goto (pc' := 242) at_238 (by decide) (by decide) ?_
          exact Go.retN (t := .boolean) at_242 rfl (by simp) rfl rfl (by decide) (by decide)
      · refine Go.iload (pc' := 206) at_204 rfl rfl ?_
        refine Go.iload (pc' := 208) at_206 rfl rfl ?_
        refine Go.icmp (pc1 := 218) (pc2 := 211) at_208 (by decide) (by decide) rfl (fun (c_1167 : q.toInt = y_1072.toInt) => ?_) (fun (c_1167 : q.toInt ≠ y_1072.toInt) => ?_)
        · refine Go.iconst (pc' := 219) (v := (1 : Int32)) at_218 rfl rfl ?_
          refine Go.goto (pc' := 223) at_219 (by decide) (by decide) ?_
          refine Go.istore (pc' := 225) (Ls' := #[.val (.int x0), .val (.int x1), .val (.int x2), .val (.int l0), .val (.int m0), .val (.int r0), .val (.int p_1069), .val (.int p_1070), .val (.int p_1071), .val (.int xm), .val (.int zm), .val (.int y_1072), .val (.int t_1074), .val (.ref a_1077), .val (.int v_1152), .val (.int q), .val (.int (1 : Int32))]) at_223 rfl rfl ?_
          refine Go.aload (pc' := 227) at_225 rfl rfl rfl ?_
          refine Go.iload (pc' := 229) at_227 rfl rfl ?_
          rcases hsh with ⟨g, c0, W0, e1, e2, e3, e4, e5, e6⟩ | ⟨g, c0, c1, W0, W1, e1, e2, e3, e4, e4b, e5, e5b, e6⟩
          · refine Go.callV (pc' := 232) (argsL := [(.int q)]) (rest := []) (W := 0) (hw _ (List.mem_of_getElem? (i := 84) rfl)) (hw _ (List.mem_of_getElem? (i := 85) rfl)) (hw _ (List.mem_of_getElem? (i := 87) rfl)) (hw _ (List.mem_of_getElem? (i := 86) rfl)) (hw _ (List.mem_of_getElem? (i := 10) rfl)) (hw _ (List.mem_of_getElem? (i := 88) rfl)) (by decide) e1 (m_has1 l Z a0 hw a_1077 g c0 W0 q h_1143 n0 z_1151 e1 e2 e3 e4 e5) at_229 rfl pd9 rfl rfl (Nat.le_of_eq rfl) (by decide) (by decide) (by decide) (by decide) rfl ?_
            rintro _ _ ⟨r, rfl, rfl, hr, hr2⟩
            rw [e6] at hr2
            show (Go false l room_1 Z x code maxLocals ret n0 24 18560 (fun v h => v = some (.int 1))) h_1143 (0 + 0 + 0 + 0 + 0 + 1 + 1 + 3 + 3 + 0) (0 + 0 + 0 + 0 + 0 + 2 + 3 + 8 + 9235 + 0) 232 #[.val (.int x0), .val (.int x1), .val (.int x2), .val (.int l0), .val (.int m0), .val (.int r0), .val (.int p_1069), .val (.int p_1070), .val (.int p_1071), .val (.int xm), .val (.int zm), .val (.int y_1072), .val (.int t_1074), .val (.ref a_1077), .val (.int v_1152), .val (.int q), .val (.int (1 : Int32))] [(.int r)]
            have z0 : (0 : Int32).toInt = 0 := rfl
            have z1 : (1 : Int32).toInt = 1 := rfl
            refine Go.iload (pc' := 234) at_232 rfl rfl ?_
            refine Go.icmp (pc1 := 241) (pc2 := 237) at_234 (by decide) (by decide) rfl (fun (c_1168 : r.toInt ≠ (1 : Int)) => ?_) (fun (c_1168 : r.toInt = (1 : Int)) => ?_)
            · exact absurd (by omega) c_1168
            refine Go.iconst (pc' := 238) (v := (1 : Int32)) at_237 rfl rfl ?_
            refine Go.goto (pc' := 242) at_238 (by decide) (by decide) ?_
            exact Go.retN (t := .boolean) at_242 rfl (by simp) rfl rfl (by decide) (by decide)
          · refine Go.callV (pc' := 232) (argsL := [(.int q)]) (rest := []) (W := 0) (hw _ (List.mem_of_getElem? (i := 84) rfl)) (hw _ (List.mem_of_getElem? (i := 85) rfl)) (hw _ (List.mem_of_getElem? (i := 87) rfl)) (hw _ (List.mem_of_getElem? (i := 86) rfl)) (hw _ (List.mem_of_getElem? (i := 10) rfl)) (hw _ (List.mem_of_getElem? (i := 88) rfl)) (by decide) e1 (m_has2 l Z a0 hw a_1077 g c0 c1 W0 W1 q h_1143 n0 z_1151 e1 e2 e3 e4 e4b e5 e5b) at_229 rfl pd9 rfl rfl (Nat.le_of_eq rfl) (by decide) (by decide) (by decide) (by decide) rfl ?_
            rintro _ _ ⟨r, rfl, rfl, hr, hr2⟩
            rw [e6] at hr2
            show (Go false l room_1 Z x code maxLocals ret n0 24 18560 (fun v h => v = some (.int 1))) h_1143 (0 + 0 + 0 + 0 + 0 + 1 + 1 + 3 + 3 + 0) (0 + 0 + 0 + 0 + 0 + 2 + 3 + 8 + 9235 + 0) 232 #[.val (.int x0), .val (.int x1), .val (.int x2), .val (.int l0), .val (.int m0), .val (.int r0), .val (.int p_1069), .val (.int p_1070), .val (.int p_1071), .val (.int xm), .val (.int zm), .val (.int y_1072), .val (.int t_1074), .val (.ref a_1077), .val (.int v_1152), .val (.int q), .val (.int (1 : Int32))] [(.int r)]
            have z0 : (0 : Int32).toInt = 0 := rfl
            have z1 : (1 : Int32).toInt = 1 := rfl
            refine Go.iload (pc' := 234) at_232 rfl rfl ?_
            refine Go.icmp (pc1 := 241) (pc2 := 237) at_234 (by decide) (by decide) rfl (fun (c_1169 : r.toInt ≠ (1 : Int)) => ?_) (fun (c_1169 : r.toInt = (1 : Int)) => ?_)
            · exact absurd (by omega) c_1169
            refine Go.iconst (pc' := 238) (v := (1 : Int32)) at_237 rfl rfl ?_
            refine Go.goto (pc' := 242) at_238 (by decide) (by decide) ?_
            exact Go.retN (t := .boolean) at_242 rfl (by simp) rfl rfl (by decide) (by decide)
        · refine Go.iload (pc' := 213) at_211 rfl rfl ?_
          refine Go.iload (pc' := 215) at_213 rfl rfl ?_
          refine Go.icmp (pc1 := 222) (pc2 := 218) at_215 (by decide) (by decide) rfl (fun (c_1170 : q.toInt ≠ zm.toInt) => ?_) (fun (c_1170 : q.toInt = zm.toInt) => ?_)
          · refine Go.iconst (pc' := 223) (v := (0 : Int32)) at_222 rfl rfl ?_
            refine Go.istore (pc' := 225) (Ls' := #[.val (.int x0), .val (.int x1), .val (.int x2), .val (.int l0), .val (.int m0), .val (.int r0), .val (.int p_1069), .val (.int p_1070), .val (.int p_1071), .val (.int xm), .val (.int zm), .val (.int y_1072), .val (.int t_1074), .val (.ref a_1077), .val (.int v_1152), .val (.int q), .val (.int (0 : Int32))]) at_223 rfl rfl ?_
            refine Go.aload (pc' := 227) at_225 rfl rfl rfl ?_
            refine Go.iload (pc' := 229) at_227 rfl rfl ?_
            rcases hsh with ⟨g, c0, W0, e1, e2, e3, e4, e5, e6⟩ | ⟨g, c0, c1, W0, W1, e1, e2, e3, e4, e4b, e5, e5b, e6⟩
            · refine Go.callV (pc' := 232) (argsL := [(.int q)]) (rest := []) (W := 0) (hw _ (List.mem_of_getElem? (i := 84) rfl)) (hw _ (List.mem_of_getElem? (i := 85) rfl)) (hw _ (List.mem_of_getElem? (i := 87) rfl)) (hw _ (List.mem_of_getElem? (i := 86) rfl)) (hw _ (List.mem_of_getElem? (i := 10) rfl)) (hw _ (List.mem_of_getElem? (i := 88) rfl)) (by decide) e1 (m_has1 l Z a0 hw a_1077 g c0 W0 q h_1143 n0 z_1151 e1 e2 e3 e4 e5) at_229 rfl pd9 rfl rfl (Nat.le_of_eq rfl) (by decide) (by decide) (by decide) (by decide) rfl ?_
              rintro _ _ ⟨r, rfl, rfl, hr, hr2⟩
              rw [e6] at hr2
              show (Go false l room_1 Z x code maxLocals ret n0 24 18560 (fun v h => v = some (.int 1))) h_1143 (0 + 0 + 0 + 0 + 0 + 1 + 1 + 3 + 3 + 0) (0 + 0 + 0 + 0 + 0 + 2 + 3 + 8 + 9235 + 0) 232 #[.val (.int x0), .val (.int x1), .val (.int x2), .val (.int l0), .val (.int m0), .val (.int r0), .val (.int p_1069), .val (.int p_1070), .val (.int p_1071), .val (.int xm), .val (.int zm), .val (.int y_1072), .val (.int t_1074), .val (.ref a_1077), .val (.int v_1152), .val (.int q), .val (.int (0 : Int32))] [(.int r)]
              have z0 : (0 : Int32).toInt = 0 := rfl
              have z1 : (1 : Int32).toInt = 1 := rfl
              refine Go.iload (pc' := 234) at_232 rfl rfl ?_
              refine Go.icmp (pc1 := 241) (pc2 := 237) at_234 (by decide) (by decide) rfl (fun (c_1171 : r.toInt ≠ (0 : Int)) => ?_) (fun (c_1171 : r.toInt = (0 : Int)) => ?_)
              · exact absurd (by omega) c_1171
              refine Go.iconst (pc' := 238) (v := (1 : Int32)) at_237 rfl rfl ?_
              refine Go.goto (pc' := 242) at_238 (by decide) (by decide) ?_
              exact Go.retN (t := .boolean) at_242 rfl (by simp) rfl rfl (by decide) (by decide)
            · refine Go.callV (pc' := 232) (argsL := [(.int q)]) (rest := []) (W := 0) (hw _ (List.mem_of_getElem? (i := 84) rfl)) (hw _ (List.mem_of_getElem? (i := 85) rfl)) (hw _ (List.mem_of_getElem? (i := 87) rfl)) (hw _ (List.mem_of_getElem? (i := 86) rfl)) (hw _ (List.mem_of_getElem? (i := 10) rfl)) (hw _ (List.mem_of_getElem? (i := 88) rfl)) (by decide) e1 (m_has2 l Z a0 hw a_1077 g c0 c1 W0 W1 q h_1143 n0 z_1151 e1 e2 e3 e4 e4b e5 e5b) at_229 rfl pd9 rfl rfl (Nat.le_of_eq rfl) (by decide) (by decide) (by decide) (by decide) rfl ?_
              rintro _ _ ⟨r, rfl, rfl, hr, hr2⟩
              rw [e6] at hr2
              show (Go false l room_1 Z x code maxLocals ret n0 24 18560 (fun v h => v = some (.int 1))) h_1143 (0 + 0 + 0 + 0 + 0 + 1 + 1 + 3 + 3 + 0) (0 + 0 + 0 + 0 + 0 + 2 + 3 + 8 + 9235 + 0) 232 #[.val (.int x0), .val (.int x1), .val (.int x2), .val (.int l0), .val (.int m0), .val (.int r0), .val (.int p_1069), .val (.int p_1070), .val (.int p_1071), .val (.int xm), .val (.int zm), .val (.int y_1072), .val (.int t_1074), .val (.ref a_1077), .val (.int v_1152), .val (.int q), .val (.int (0 : Int32))] [(.int r)]
              have z0 : (0 : Int32).toInt = 0 := rfl
              have z1 : (1 : Int32).toInt = 1 := rfl
              refine Go.iload (pc' := 234) at_232 rfl rfl ?_
              refine Go.icmp (pc1 := 241) (pc2 := 237) at_234 (by decide) (by decide) rfl (fun (c_1172 : r.toInt ≠ (0 : Int)) => ?_) (fun (c_1172 : r.toInt = (0 : Int)) => ?_)
              · exact absurd (by omega) c_1172
              refine Go.iconst (pc' := 238) (v := (1 : Int32)) at_237 rfl rfl ?_
              refine Go.goto (pc' := 242) at_238 (by decide) (by decide) ?_
              exact Go.retN (t := .boolean) at_242 rfl (by simp) rfl rfl (by decide) (by decide)
          · refine Go.iconst (pc' := 219) (v := (1 : Int32)) at_218 rfl rfl ?_
            refine Go.goto (pc' := 223) at_219 (by decide) (by decide) ?_
            refine Go.istore (pc' := 225) (Ls' := #[.val (.int x0), .val (.int x1), .val (.int x2), .val (.int l0), .val (.int m0), .val (.int r0), .val (.int p_1069), .val (.int p_1070), .val (.int p_1071), .val (.int xm), .val (.int zm), .val (.int y_1072), .val (.int t_1074), .val (.ref a_1077), .val (.int v_1152), .val (.int q), .val (.int (1 : Int32))]) at_223 rfl rfl ?_
            refine Go.aload (pc' := 227) at_225 rfl rfl rfl ?_
            refine Go.iload (pc' := 229) at_227 rfl rfl ?_
            rcases hsh with ⟨g, c0, W0, e1, e2, e3, e4, e5, e6⟩ | ⟨g, c0, c1, W0, W1, e1, e2, e3, e4, e4b, e5, e5b, e6⟩
            · refine Go.callV (pc' := 232) (argsL := [(.int q)]) (rest := []) (W := 0) (hw _ (List.mem_of_getElem? (i := 84) rfl)) (hw _ (List.mem_of_getElem? (i := 85) rfl)) (hw _ (List.mem_of_getElem? (i := 87) rfl)) (hw _ (List.mem_of_getElem? (i := 86) rfl)) (hw _ (List.mem_of_getElem? (i := 10) rfl)) (hw _ (List.mem_of_getElem? (i := 88) rfl)) (by decide) e1 (m_has1 l Z a0 hw a_1077 g c0 W0 q h_1143 n0 z_1151 e1 e2 e3 e4 e5) at_229 rfl pd9 rfl rfl (Nat.le_of_eq rfl) (by decide) (by decide) (by decide) (by decide) rfl ?_
              rintro _ _ ⟨r, rfl, rfl, hr, hr2⟩
              rw [e6] at hr2
              show (Go false l room_1 Z x code maxLocals ret n0 24 18560 (fun v h => v = some (.int 1))) h_1143 (0 + 0 + 0 + 0 + 0 + 1 + 1 + 3 + 3 + 0) (0 + 0 + 0 + 0 + 0 + 2 + 3 + 8 + 9235 + 0) 232 #[.val (.int x0), .val (.int x1), .val (.int x2), .val (.int l0), .val (.int m0), .val (.int r0), .val (.int p_1069), .val (.int p_1070), .val (.int p_1071), .val (.int xm), .val (.int zm), .val (.int y_1072), .val (.int t_1074), .val (.ref a_1077), .val (.int v_1152), .val (.int q), .val (.int (1 : Int32))] [(.int r)]
              have z0 : (0 : Int32).toInt = 0 := rfl
              have z1 : (1 : Int32).toInt = 1 := rfl
              refine Go.iload (pc' := 234) at_232 rfl rfl ?_
              refine Go.icmp (pc1 := 241) (pc2 := 237) at_234 (by decide) (by decide) rfl (fun (c_1173 : r.toInt ≠ (1 : Int)) => ?_) (fun (c_1173 : r.toInt = (1 : Int)) => ?_)
              · exact absurd (by omega) c_1173
              refine Go.iconst (pc' := 238) (v := (1 : Int32)) at_237 rfl rfl ?_
              refine Go.goto (pc' := 242) at_238 (by decide) (by decide) ?_
              exact Go.retN (t := .boolean) at_242 rfl (by simp) rfl rfl (by decide) (by decide)
            · refine Go.callV (pc' := 232) (argsL := [(.int q)]) (rest := []) (W := 0) (hw _ (List.mem_of_getElem? (i := 84) rfl)) (hw _ (List.mem_of_getElem? (i := 85) rfl)) (hw _ (List.mem_of_getElem? (i := 87) rfl)) (hw _ (List.mem_of_getElem? (i := 86) rfl)) (hw _ (List.mem_of_getElem? (i := 10) rfl)) (hw _ (List.mem_of_getElem? (i := 88) rfl)) (by decide) e1 (m_has2 l Z a0 hw a_1077 g c0 c1 W0 W1 q h_1143 n0 z_1151 e1 e2 e3 e4 e4b e5 e5b) at_229 rfl pd9 rfl rfl (Nat.le_of_eq rfl) (by decide) (by decide) (by decide) (by decide) rfl ?_
              rintro _ _ ⟨r, rfl, rfl, hr, hr2⟩
              rw [e6] at hr2
              show (Go false l room_1 Z x code maxLocals ret n0 24 18560 (fun v h => v = some (.int 1))) h_1143 (0 + 0 + 0 + 0 + 0 + 1 + 1 + 3 + 3 + 0) (0 + 0 + 0 + 0 + 0 + 2 + 3 + 8 + 9235 + 0) 232 #[.val (.int x0), .val (.int x1), .val (.int x2), .val (.int l0), .val (.int m0), .val (.int r0), .val (.int p_1069), .val (.int p_1070), .val (.int p_1071), .val (.int xm), .val (.int zm), .val (.int y_1072), .val (.int t_1074), .val (.ref a_1077), .val (.int v_1152), .val (.int q), .val (.int (1 : Int32))] [(.int r)]
              have z0 : (0 : Int32).toInt = 0 := rfl
              have z1 : (1 : Int32).toInt = 1 := rfl
              refine Go.iload (pc' := 234) at_232 rfl rfl ?_
              refine Go.icmp (pc1 := 241) (pc2 := 237) at_234 (by decide) (by decide) rfl (fun (c_1174 : r.toInt ≠ (1 : Int)) => ?_) (fun (c_1174 : r.toInt = (1 : Int)) => ?_)
              · exact absurd (by omega) c_1174
              refine Go.iconst (pc' := 238) (v := (1 : Int32)) at_237 rfl rfl ?_
              refine Go.goto (pc' := 242) at_238 (by decide) (by decide) ?_
              exact Go.retN (t := .boolean) at_242 rfl (by simp) rfl rfl (by decide) (by decide)
  refine Go.ifc (pc1 := 157) (pc2 := 117) at_114 (by decide) (by decide) rfl (fun (c_1175 : v_1152.toInt ≠ 0) => ?_) (fun (c_1175 : v_1152.toInt = 0) => ?_)
  · refine Go.iload (pc' := 159) at_157 rfl rfl ?_
    refine Go.iconst (pc' := 160) (v := (1 : Int32)) at_159 rfl rfl ?_
    refine Go.icmp (pc1 := 177) (pc2 := 163) at_160 (by decide) (by decide) rfl (fun (c_1176 : v_1152.toInt ≠ (1 : Int)) => ?_) (fun (c_1176 : v_1152.toInt = (1 : Int)) => ?_)
    · refine Go.iload (pc' := 179) at_177 rfl rfl ?_
      refine Go.iconst (pc' := 180) (v := (2 : Int32)) at_179 rfl rfl ?_
      refine Go.icmp (pc1 := 190) (pc2 := 183) at_180 (by decide) (by decide) rfl (fun (c_1177 : v_1152.toInt ≠ (2 : Int)) => ?_) (fun (c_1177 : v_1152.toInt = (2 : Int)) => ?_)
      · refine Go.iload (pc' := 192) at_190 rfl rfl ?_
        refine Go.ldcI (pc' := 194) (hw _ (List.mem_of_getElem? (i := 89) rfl)) at_192 rfl ?_
        refine Go.iand (pc' := 195) at_194 rfl ?_
        generalize ev_1178 : r0 &&& (1048575 : Int32) = v_1178
        refine Go.istore (pc' := 197) (Ls' := #[.val (.int x0), .val (.int x1), .val (.int x2), .val (.int l0), .val (.int m0), .val (.int r0), .val (.int p_1069), .val (.int p_1070), .val (.int p_1071), .val (.int xm), .val (.int zm), .val (.int y_1072), .val (.int t_1074), .val (.ref a_1077), .val (.int v_1152), .val (.int v_1178), .unset]) at_195 rfl rfl ?_
        exact J _ _ (Or.inl rfl)
      · refine Go.iload (pc' := 185) at_183 rfl rfl ?_
        refine Go.istore (pc' := 187) (Ls' := #[.val (.int x0), .val (.int x1), .val (.int x2), .val (.int l0), .val (.int m0), .val (.int r0), .val (.int p_1069), .val (.int p_1070), .val (.int p_1071), .val (.int xm), .val (.int zm), .val (.int y_1072), .val (.int t_1074), .val (.ref a_1077), .val (.int v_1152), .val (.int r0), .unset]) at_185 rfl rfl ?_
        refine Go.goto (pc' := 197) at_187 (by decide) (by decide) ?_
        exact J _ _ (Or.inl rfl)
    · refine Go.iload (pc' := 165) at_163 rfl rfl ?_
      refine Go.iconst (pc' := 166) (v := (1 : Int32)) at_165 rfl rfl ?_
      refine Go.iload (pc' := 168) at_166 rfl rfl ?_
      refine Go.iconst (pc' := 169) (v := (2 : Int32)) at_168 rfl rfl ?_
      refine Go.iushr (pc' := 170) at_169 rfl ?_
      refine Go.ishl (pc' := 171) at_170 rfl ?_
      refine Go.ixor (pc' := 172) at_171 rfl ?_
      generalize ev_1179 : xm ^^^ ((1 : Int32) <<< (((m0.toUInt32 >>> ((2 : Int32) &&& 31).toUInt32).toInt32) &&& 31)) = v_1179
      refine Go.istore (pc' := 174) (Ls' := #[.val (.int x0), .val (.int x1), .val (.int x2), .val (.int l0), .val (.int m0), .val (.int r0), .val (.int p_1069), .val (.int p_1070), .val (.int p_1071), .val (.int xm), .val (.int zm), .val (.int y_1072), .val (.int t_1074), .val (.ref a_1077), .val (.int v_1152), .val (.int v_1179), .unset]) at_172 rfl rfl ?_
      refine Go.goto (pc' := 197) at_174 (by decide) (by decide) ?_
      exact J _ _ (Or.inl rfl)
  · refine Go.iload (pc' := 119) at_117 rfl rfl ?_
    refine Go.iconst (pc' := 120) (v := (2 : Int32)) at_119 rfl rfl ?_
    refine Go.iushr (pc' := 121) at_120 rfl ?_
    refine Go.iconst (pc' := 122) (v := (3 : Int32)) at_121 rfl rfl ?_
    refine Go.iand (pc' := 123) at_122 rfl ?_
    generalize ev_1180 : ((m0.toUInt32 >>> ((2 : Int32) &&& 31).toUInt32).toInt32) &&& (3 : Int32) = v_1180
    refine Go.istore (pc' := 125) (Ls' := #[.val (.int x0), .val (.int x1), .val (.int x2), .val (.int l0), .val (.int m0), .val (.int r0), .val (.int p_1069), .val (.int p_1070), .val (.int p_1071), .val (.int xm), .val (.int zm), .val (.int y_1072), .val (.int t_1074), .val (.ref a_1077), .val (.int v_1152), .unset, .val (.int v_1180)]) at_123 rfl rfl ?_
    refine Go.iload (pc' := 127) at_125 rfl rfl ?_
    refine Go.ifc (pc1 := 137) (pc2 := 130) at_127 (by decide) (by decide) rfl (fun (c_1181 : v_1180.toInt ≠ 0) => ?_) (fun (c_1181 : v_1180.toInt = 0) => ?_)
    · refine Go.iload (pc' := 139) at_137 rfl rfl ?_
      refine Go.iconst (pc' := 140) (v := (1 : Int32)) at_139 rfl rfl ?_
      refine Go.icmp (pc1 := 150) (pc2 := 143) at_140 (by decide) (by decide) rfl (fun (c_1182 : v_1180.toInt ≠ (1 : Int)) => ?_) (fun (c_1182 : v_1180.toInt = (1 : Int)) => ?_)
      · refine Go.iload (pc' := 152) at_150 rfl rfl ?_
        refine Go.istore (pc' := 154) (Ls' := #[.val (.int x0), .val (.int x1), .val (.int x2), .val (.int l0), .val (.int m0), .val (.int r0), .val (.int p_1069), .val (.int p_1070), .val (.int p_1071), .val (.int xm), .val (.int zm), .val (.int y_1072), .val (.int t_1074), .val (.ref a_1077), .val (.int v_1152), .val (.int zm), .val (.int v_1180)]) at_152 rfl rfl ?_
        refine Go.goto (pc' := 197) at_154 (by decide) (by decide) ?_
        exact J _ _ (Or.inr ⟨_, rfl⟩)
      · refine Go.iload (pc' := 145) at_143 rfl rfl ?_
        refine Go.istore (pc' := 147) (Ls' := #[.val (.int x0), .val (.int x1), .val (.int x2), .val (.int l0), .val (.int m0), .val (.int r0), .val (.int p_1069), .val (.int p_1070), .val (.int p_1071), .val (.int xm), .val (.int zm), .val (.int y_1072), .val (.int t_1074), .val (.ref a_1077), .val (.int v_1152), .val (.int y_1072), .val (.int v_1180)]) at_145 rfl rfl ?_
        refine Go.goto (pc' := 154) at_147 (by decide) (by decide) ?_
        refine Go.goto (pc' := 197) at_154 (by decide) (by decide) ?_
        exact J _ _ (Or.inr ⟨_, rfl⟩)
    · refine Go.iload (pc' := 132) at_130 rfl rfl ?_
      refine Go.istore (pc' := 134) (Ls' := #[.val (.int x0), .val (.int x1), .val (.int x2), .val (.int l0), .val (.int m0), .val (.int r0), .val (.int p_1069), .val (.int p_1070), .val (.int p_1071), .val (.int xm), .val (.int zm), .val (.int y_1072), .val (.int t_1074), .val (.ref a_1077), .val (.int v_1152), .val (.int xm), .val (.int v_1180)]) at_132 rfl rfl ?_
      refine Go.goto (pc' := 154) at_134 (by decide) (by decide) ?_
      refine Go.goto (pc' := 197) at_154 (by decide) (by decide) ?_
      exact J _ _ (Or.inr ⟨_, rfl⟩)
set_option maxRecDepth 65536 in
set_option maxHeartbeats 40000000 in
theorem comes_1 {Post : Tables → Env → Array Value → State → Outcome → State → Prop} (hpost : ∀ tb e args s v u, (limb_1_1.after args s (.returned v) u = true ∧ limb_1_2.after args s (.returned v) u = true ∧ True) → FrameEnd s (.returned v) u (Jvm.fieldLocs frame_1_writes args s ++ Jvm.arrayLocs frame_1_arrays args s ++ Jvm.staticLocs frame_1_statics s) 24 18560 → Post tb e args s (.returned v) u) :
    ArmFor flags0 classFile x code maxLocals ret World_1 tables_1 room_1 Calls_1 rest_1 Pre_1 Post := by
  intro l hfl _ _ p e ha hc hk s m args below hf hA hF happ hP
  obtain ⟨hcalls, hrest, hpre⟩ := hP
  obtain ⟨-, -, -, hnamed, -, -, -, hat⟩ := (Spec.applies_iff hf).mp happ
  obtain ⟨hg, hn⟩ := and_e (Cond.before_iff.mp (show (Jvm.Cond.and given_1 narrow_1).before args s = true from hpre))
  obtain ⟨h1, hg1⟩ := and_e hg
  obtain ⟨w0, w1, w2, w3, w4, w5, rfl⟩ : ∃ w0 w1 w2 w3 w4 w5 : Value, args = #[w0, w1, w2, w3, w4, w5] := by
    have hs : args.size = 6 := by simpa [Cond.value, given_1] using h1
    obtain ⟨L⟩ := args
    match L, hs with
    | [w0, w1, w2, w3, w4, w5], _ => exact ⟨w0, w1, w2, w3, w4, w5, rfl⟩
  have hw := fun d (hd : d ∈ tables_1) => atoms_spec (ws := Jvm.Cond.code x code maxLocals ret :: tables_1) hat d (List.mem_cons_of_mem _ hd)
  have hfit : Fit s := fun {y c} hc i hi => by
    obtain ⟨ha, rfl⟩ := Array.getElem?_eq_some_iff.mp hc
    have q := List.all_eq_true.mp ((Array.all_eq_true_iff_forall_mem.mp hF) _ (Array.getElem_mem ha)) i (List.mem_range.mpr hi)
    simpa [Array.getElem?_eq_getElem hi] using q
  obtain ⟨b0, hg2⟩ := and_e hg1
  obtain ⟨i0, e0⟩ := is_v b0
  obtain rfl : w0 = (.int i0) := Option.some.inj e0
  obtain ⟨b1, hg3⟩ := and_e hg2
  obtain ⟨i1, e1⟩ := is_v b1
  obtain rfl : w1 = (.int i1) := Option.some.inj e1
  obtain ⟨b2, hg4⟩ := and_e hg3
  obtain ⟨i2, e2⟩ := is_v b2
  obtain rfl : w2 = (.int i2) := Option.some.inj e2
  obtain ⟨b3, hg5⟩ := and_e hg4
  obtain ⟨i3, e3⟩ := is_v b3
  obtain rfl : w3 = (.int i3) := Option.some.inj e3
  obtain ⟨b4, hg6⟩ := and_e hg5
  obtain ⟨i4, e4⟩ := is_v b4
  obtain rfl : w4 = (.int i4) := Option.some.inj e4
  obtain ⟨i5, e5⟩ := is_v hg6
  obtain rfl : w5 = (.int i5) := Option.some.inj e5
  obtain ⟨n, o, h1, h2, h3, _, L, rfl, ⟨⟨rfl, -⟩, N⟩, hq⟩ := rm1 l s _ hw tables_1 i0 i1 i2 i3 i4 i5 s.heap s.heap.size (Nat.le_refl _)  p e ha hc hk s m _ below hf ((Spec.applies_iff_loose hf).mp happ).1 ⟨rfl, State.Warmed39.refl s, rfl⟩ trivial
  refine ⟨n, _, h1, h2, h3, hpost _ _ _ _ _ _ ⟨Cond.after_iff.mpr rfl, Cond.after_iff.mpr (eq_i res_at (Term.int_eval (1)) rfl), trivial⟩ ⟨hq.1, hq.2.1, (hq.2.2.sift fun y hy => Or.inr (N y hy)).mono (by decide) (by decide)⟩⟩
theorem main_1_1 : Claimed_1_1 := comes_1 fun _ _ _ _ _ _ h hF => ⟨h.1, hF⟩
theorem main_1_2 : Claimed_1_2 := comes_1 fun _ _ _ _ _ _ h hF => ⟨h.2.1, hF⟩
end Jvm.Pilot.@@N@@
namespace Jvm.Pilot.@@N@@
open Jvm Jvm.ClassFile Sem Op Lib Jvm.Free Jvm.Stand Jvm.Pilot.@@N@@.Jvm.D
/-! MADE BY PROGRAM (witnessworld.py) out of the Statement's table words and the real class files: 14 classes; the members and pool entries that the words name. The judged class is class 1, her method 1. -/
namespace start1
open Jvm.ClassFile
def u (s : String) : CpInfo := .utf8 (stringToUtf16 s)
/-- a pool by its gaps: so many unusable entries, then the entry; so many at the end -/
def gap : Nat → List CpInfo → List CpInfo
  | 0, r => r
  | n + 1, r => .unusable :: gap n r
def poolList (es : List (Nat × CpInfo)) (last : Nat) : List CpInfo := es.foldr (fun e r => gap e.1 (e.2 :: r)) (gap last [])
def pool (es : List (Nat × CpInfo)) (last : Nat) : Array CpInfo := ⟨poolList es last⟩
def fileOf (pool : Array CpInfo) (this : Nat) (attrs : Array Attribute := #[]) (ms : Array MethodInfo := #[]) (fl : Nat := 33) (sup : Nat := 0) (ifs : Array Nat := #[]) (fds : Array FieldInfo := #[]) : ClassFile where
  minorVersion := 0
  majorVersion := 65
  constantPool := pool
  accessFlags := fl
  thisClass := this
  superClass := sup
  interfaces := ifs
  fields := fds
  methods := ms
  attributes := attrs
def plain (name : String) (sup : Option ClassId) : Class where
  name := name
  kind := .ordinary
  loader := none
  accessFlags := 33
  super := sup
  interfaces := #[]
  cf := none
  fields := #[]
  methods := #[]
  instanceTypes := #[]
  staticTypes := #[]
  resolved := #[]
  callSites := []
  init := .initialized
  statics := none
  mirror := none

def pool0 : Array CpInfo := pool [(5, u "<init>"), (0, u "()V"), (1, .class_ 10), (1, u "java/lang/Object")] 113

def k0c0 : Code := { maxStack := 0, maxLocals := 1, code := object_method_1_code, exceptionTable := #[], attributes := #[] }
def k0m0 : Method := { name := "<init>", desc := "()V", sig := { parameters := [], returnType := none }, accessFlags := 1, code := some k0c0 }
/-- java/lang/Object -/
def k0 : Class := { plain "java/lang/Object" none with
  accessFlags := 33
  interfaces := #[]
  cf := some (fileOf pool0 8 #[] #[{ accessFlags := 1, nameIndex := 5, descriptorIndex := 6, attributes := #[] }] 33 0 #[] #[])
  fields := #[]
  methods := #[k0m0]
  instanceTypes := #[]
  staticTypes := #[]
  resolved := Array.replicate 124 none
  statics := none }

def pool1 : Array CpInfo := pool [(2, .class_ 4), (1, u "java/lang/Object"), (0, u "<init>"), (0, u "()V"), (0, .integer 589823), (0, .methodref 9 10), (0, .class_ 11), (0, .nameAndType 12 13), (0, u "java/lang/Math"), (0, u "min"), (0, u "(II)I"), (0, .methodref 9 15), (0, .nameAndType 16 13), (0, u "max"), (0, .class_ 18), (0, u "com/example/nearword/nearword/internal/index/PointBits"), (0, .methodref 20 21), (0, .class_ 22), (0, .nameAndType 23 24), (0, u "com/example/nearword/nearword/internal/index/IntList"), (0, u "of"), (0, u "([I)Lcom/example/nearword/nearword/internal/index/IntList;"), (0, .methodref 17 26), (0, .nameAndType 5 27), (0, u "(Lcom/example/nearword/nearword/internal/index/IntList;I)V"), (0, .integer 1048575), (0, .methodref 17 30), (0, .nameAndType 31 32), (0, u "has"), (0, u "(I)Z"), (0, .class_ 34), (0, u "com/example/nearword/nearword/internal/index/PointBitsHasPinLaw"), (2, u "law"), (0, u "(IIIIII)Z")] 3

def k1m0 : Method := { name := "<init>", desc := "()V", sig := { parameters := [], returnType := none }, accessFlags := 2, code := none }
def k1c1 : Code := { maxStack := 6, maxLocals := 17, code := code, exceptionTable := #[], attributes := #[] }
def k1m1 : Method := { name := "law", desc := "(IIIIII)Z", sig := { parameters := [.int, .int, .int, .int, .int, .int], returnType := some .boolean }, accessFlags := 9, code := some k1c1 }
/-- com/example/nearword/nearword/internal/index/PointBitsHasPinLaw -/
def k1 : Class := { plain "com/example/nearword/nearword/internal/index/PointBitsHasPinLaw" (some 0) with
  accessFlags := 49
  interfaces := #[]
  cf := some (fileOf pool1 33 #[] #[{ accessFlags := 2, nameIndex := 5, descriptorIndex := 6, attributes := #[] }, { accessFlags := 9, nameIndex := 37, descriptorIndex := 38, attributes := #[] }] 49 2 #[] #[])
  fields := #[]
  methods := #[k1m0, k1m1]
  instanceTypes := #[]
  staticTypes := #[]
  resolved := Array.replicate 42 none
  statics := none }

def pool2 : Array CpInfo := pool [(1, .class_ 2), (0, u "java/lang/Math"), (1, .class_ 6), (1, u "java/lang/Object"), (0, u "<init>"), (0, u "()V"), (89, .class_ 100), (1, u "java/lang/Math$RandomNumberGeneratorHolder"), (71, u "negativeZeroFloatBits"), (0, u "J"), (2, u "negativeZeroDoubleBits"), (21, u "max"), (2, u "min"), (43, u "$assertionsDisabled"), (0, u "Z"), (88, u "(II)I"), (2, u "twoToTheDoubleScaleDown"), (0, u "D"), (4, u "twoToTheDoubleScaleUp"), (9, u "E"), (3, u "PI"), (2, u "TAU"), (2, u "DEGREES_TO_RADIANS"), (0, u "RADIANS_TO_DEGREES")] 94

def k2m0 : Method := { name := "<init>", desc := "()V", sig := { parameters := [], returnType := none }, accessFlags := 2, code := none }
def k2c1 : Code := { maxStack := 2, maxLocals := 2, code := jdk_29_method_65_code, exceptionTable := #[], attributes := #[] }
def k2m1 : Method := { name := "max", desc := "(II)I", sig := { parameters := [.int, .int], returnType := some .int }, accessFlags := 9, code := some k2c1 }
def k2c2 : Code := { maxStack := 2, maxLocals := 2, code := jdk_29_method_69_code, exceptionTable := #[], attributes := #[] }
def k2m2 : Method := { name := "min", desc := "(II)I", sig := { parameters := [.int, .int], returnType := some .int }, accessFlags := 9, code := some k2c2 }
/-- java/lang/Math -/
def k2 : Class := { plain "java/lang/Math" (some 0) with
  accessFlags := 49
  interfaces := #[]
  cf := some (fileOf pool2 1 #[.nestMembers #[98]] #[{ accessFlags := 2, nameIndex := 7, descriptorIndex := 8, attributes := #[] }, { accessFlags := 9, nameIndex := 198, descriptorIndex := 335, attributes := #[] }, { accessFlags := 9, nameIndex := 201, descriptorIndex := 335, attributes := #[] }] 49 4 #[] #[{ accessFlags := 25, nameIndex := 354, descriptorIndex := 339, attributes := #[] }, { accessFlags := 25, nameIndex := 358, descriptorIndex := 339, attributes := #[] }, { accessFlags := 25, nameIndex := 361, descriptorIndex := 339, attributes := #[] }, { accessFlags := 26, nameIndex := 364, descriptorIndex := 339, attributes := #[] }, { accessFlags := 26, nameIndex := 365, descriptorIndex := 339, attributes := #[] }, { accessFlags := 26, nameIndex := 172, descriptorIndex := 173, attributes := #[] }, { accessFlags := 26, nameIndex := 176, descriptorIndex := 173, attributes := #[] }, { accessFlags := 8, nameIndex := 344, descriptorIndex := 339, attributes := #[] }, { accessFlags := 8, nameIndex := 338, descriptorIndex := 339, attributes := #[] }, { accessFlags := 4120, nameIndex := 245, descriptorIndex := 246, attributes := #[] }])
  fields := #[{ name := "E", type := .double, accessFlags := 25, slot := 0, constantValue := 0 }, { name := "PI", type := .double, accessFlags := 25, slot := 1, constantValue := 0 }, { name := "TAU", type := .double, accessFlags := 25, slot := 2, constantValue := 0 }, { name := "DEGREES_TO_RADIANS", type := .double, accessFlags := 26, slot := 3, constantValue := 0 }, { name := "RADIANS_TO_DEGREES", type := .double, accessFlags := 26, slot := 4, constantValue := 0 }, { name := "negativeZeroFloatBits", type := .long, accessFlags := 26, slot := 5, constantValue := 0 }, { name := "negativeZeroDoubleBits", type := .long, accessFlags := 26, slot := 6, constantValue := 0 }, { name := "twoToTheDoubleScaleUp", type := .double, accessFlags := 8, slot := 7, constantValue := 0 }, { name := "twoToTheDoubleScaleDown", type := .double, accessFlags := 8, slot := 8, constantValue := 0 }, { name := "$assertionsDisabled", type := .boolean, accessFlags := 4120, slot := 9, constantValue := 0 }]
  methods := #[k2m0, k2m1, k2m2]
  instanceTypes := #[]
  staticTypes := #[.double, .double, .double, .double, .double, .long, .long, .double, .double, .boolean]
  resolved := Array.replicate 460 none
  statics := none }

def pool3 : Array CpInfo := pool [(1, .class_ 2), (0, u "com/example/nearword/nearword/internal/index/PointBits"), (0, .methodref 4 5), (0, .class_ 6), (0, .nameAndType 7 8), (0, u "java/lang/Object"), (0, u "<init>"), (0, u "()V"), (0, .long 63), (1, .fieldref 1 12), (0, .nameAndType 13 14), (0, u "words"), (0, u "I"), (0, .methodref 16 17), (0, .class_ 18), (0, .nameAndType 19 20), (0, u "java/lang/Math"), (0, u "max"), (0, u "(II)I"), (0, .class_ 22), (0, u "[J"), (0, .fieldref 1 24), (0, .nameAndType 25 26), (0, u "chunks"), (0, u "[[J"), (0, .methodref 16 28), (0, .nameAndType 29 20), (0, u "min"), (0, .methodref 31 32), (0, .class_ 33), (0, .nameAndType 34 35), (0, u "com/example/nearword/nearword/internal/index/IntList"), (0, u "pieces"), (0, u "()I"), (0, .methodref 31 37), (0, .nameAndType 38 39), (0, u "piece"), (0, u "(I)[I"), (0, .methodref 31 41), (0, .nameAndType 42 43), (0, u "to"), (0, u "(I)I"), (0, .methodref 31 45), (0, .nameAndType 46 35), (0, u "from"), (0, .methodref 1 48), (0, .nameAndType 49 50), (0, u "addBits"), (0, u "(IJ)V"), (4, u "NO_WORDS"), (47, u "CHUNK_BITS"), (2, u "CHUNK"), (1, u "(Lcom/example/nearword/nearword/internal/index/IntList;I)V"), (7, u "has"), (0, u "(I)Z")] 9

def k3c0 : Code := { maxStack := 6, maxLocals := 10, code := prog_49_method_1_code, exceptionTable := #[], attributes := #[] }
def k3m0 : Method := { name := "<init>", desc := "(Lcom/example/nearword/nearword/internal/index/IntList;I)V", sig := { parameters := [(.object "com/example/nearword/nearword/internal/index/IntList"), .int], returnType := none }, accessFlags := 0, code := some k3c0 }
def k3c1 : Code := { maxStack := 5, maxLocals := 4, code := prog_49_method_3_code, exceptionTable := #[], attributes := #[] }
def k3m1 : Method := { name := "has", desc := "(I)Z", sig := { parameters := [.int], returnType := some .boolean }, accessFlags := 0, code := some k3c1 }
def k3c2 : Code := { maxStack := 6, maxLocals := 6, code := prog_49_method_6_code, exceptionTable := #[], attributes := #[] }
def k3m2 : Method := { name := "addBits", desc := "(IJ)V", sig := { parameters := [.int, .long], returnType := none }, accessFlags := 2, code := some k3c2 }
/-- com/example/nearword/nearword/internal/index/PointBits -/
def k3 : Class := { plain "com/example/nearword/nearword/internal/index/PointBits" (some 0) with
  accessFlags := 48
  interfaces := #[]
  cf := some (fileOf pool3 1 #[] #[{ accessFlags := 0, nameIndex := 7, descriptorIndex := 108, attributes := #[] }, { accessFlags := 0, nameIndex := 116, descriptorIndex := 117, attributes := #[] }, { accessFlags := 2, nameIndex := 49, descriptorIndex := 50, attributes := #[] }] 48 4 #[] #[{ accessFlags := 26, nameIndex := 103, descriptorIndex := 14, attributes := #[] }, { accessFlags := 26, nameIndex := 106, descriptorIndex := 14, attributes := #[] }, { accessFlags := 26, nameIndex := 55, descriptorIndex := 22, attributes := #[] }, { accessFlags := 2, nameIndex := 25, descriptorIndex := 26, attributes := #[] }, { accessFlags := 2, nameIndex := 13, descriptorIndex := 14, attributes := #[] }])
  fields := #[{ name := "CHUNK_BITS", type := .int, accessFlags := 26, slot := 0, constantValue := 0 }, { name := "CHUNK", type := .int, accessFlags := 26, slot := 1, constantValue := 0 }, { name := "NO_WORDS", type := (.array .long), accessFlags := 26, slot := 2, constantValue := 0 }, { name := "chunks", type := (.array (.array .long)), accessFlags := 2, slot := 0, constantValue := 0 }, { name := "words", type := .int, accessFlags := 2, slot := 1, constantValue := 0 }]
  methods := #[k3m0, k3m1, k3m2]
  instanceTypes := #[(.array (.array .long)), .int]
  staticTypes := #[.int, .int, (.array .long)]
  resolved := Array.replicate 127 none
  statics := none }

def pool4 : Array CpInfo := pool [(1, .class_ 2), (0, u "[I"), (0, .methodref 4 5), (0, .class_ 6), (0, .nameAndType 7 8), (0, u "com/example/nearword/nearword/internal/index/IntList"), (0, u "<init>"), (0, u "([[III)V"), (0, .methodref 10 11), (0, .class_ 12), (0, .nameAndType 7 13), (0, u "java/lang/Object"), (0, u "()V"), (0, .fieldref 4 15), (0, .nameAndType 16 17), (0, u "pieces"), (0, u "[[I"), (0, .fieldref 4 19), (0, .nameAndType 20 21), (0, u "start"), (0, u "I"), (0, .fieldref 4 23), (0, .nameAndType 24 21), (0, u "size"), (0, .methodref 4 26), (0, .nameAndType 7 27), (0, u "([II)V"), (0, .methodref 29 30), (0, .class_ 31), (0, .nameAndType 32 33), (0, u "java/lang/System"), (0, u "arraycopy"), (0, u "(Ljava/lang/Object;ILjava/lang/Object;II)V"), (6, .methodref 4 41), (0, .nameAndType 42 43), (0, u "length"), (0, u "(I)I"), (0, .methodref 4 45), (0, .nameAndType 46 47), (0, u "from"), (0, u "()I"), (2, u "of"), (0, u "([I)Lcom/example/nearword/nearword/internal/index/IntList;"), (2, u "EMPTY"), (0, u "Lcom/example/nearword/nearword/internal/index/IntList;"), (6, u "piece"), (0, u "(I)[I"), (0, u "to")] 5

def k4c0 : Code := { maxStack := 5, maxLocals := 3, code := prog_41_method_1_code, exceptionTable := #[], attributes := #[] }
def k4m0 : Method := { name := "<init>", desc := "([II)V", sig := { parameters := [(.array .int), .int], returnType := none }, accessFlags := 0, code := some k4c0 }
def k4c1 : Code := { maxStack := 2, maxLocals := 4, code := prog_41_method_2_code, exceptionTable := #[], attributes := #[] }
def k4m1 : Method := { name := "<init>", desc := "([[III)V", sig := { parameters := [(.array (.array .int)), .int, .int], returnType := none }, accessFlags := 0, code := some k4c1 }
def k4c2 : Code := { maxStack := 5, maxLocals := 2, code := prog_41_method_4_code, exceptionTable := #[], attributes := #[] }
def k4m2 : Method := { name := "of", desc := "([I)Lcom/example/nearword/nearword/internal/index/IntList;", sig := { parameters := [(.array .int)], returnType := some (.object "com/example/nearword/nearword/internal/index/IntList") }, accessFlags := 136, code := some k4c2 }
def k4c3 : Code := { maxStack := 1, maxLocals := 1, code := prog_41_method_7_code, exceptionTable := #[], attributes := #[] }
def k4m3 : Method := { name := "pieces", desc := "()I", sig := { parameters := [], returnType := some .int }, accessFlags := 0, code := some k4c3 }
def k4c4 : Code := { maxStack := 2, maxLocals := 2, code := prog_41_method_8_code, exceptionTable := #[], attributes := #[] }
def k4m4 : Method := { name := "piece", desc := "(I)[I", sig := { parameters := [.int], returnType := some (.array .int) }, accessFlags := 0, code := some k4c4 }
def k4c5 : Code := { maxStack := 2, maxLocals := 1, code := prog_41_method_9_code, exceptionTable := #[], attributes := #[] }
def k4m5 : Method := { name := "from", desc := "()I", sig := { parameters := [], returnType := some .int }, accessFlags := 0, code := some k4c5 }
def k4c6 : Code := { maxStack := 3, maxLocals := 2, code := prog_41_method_10_code, exceptionTable := #[], attributes := #[] }
def k4m6 : Method := { name := "to", desc := "(I)I", sig := { parameters := [.int], returnType := some .int }, accessFlags := 0, code := some k4c6 }
def k4c7 : Code := { maxStack := 2, maxLocals := 2, code := prog_41_method_11_code, exceptionTable := #[], attributes := #[] }
def k4m7 : Method := { name := "length", desc := "(I)I", sig := { parameters := [.int], returnType := some .int }, accessFlags := 2, code := some k4c7 }
/-- com/example/nearword/nearword/internal/index/IntList -/
def k4 : Class := { plain "com/example/nearword/nearword/internal/index/IntList" (some 0) with
  accessFlags := 49
  interfaces := #[]
  cf := some (fileOf pool4 4 #[] #[{ accessFlags := 0, nameIndex := 7, descriptorIndex := 27, attributes := #[] }, { accessFlags := 0, nameIndex := 7, descriptorIndex := 8, attributes := #[] }, { accessFlags := 136, nameIndex := 50, descriptorIndex := 51, attributes := #[] }, { accessFlags := 0, nameIndex := 16, descriptorIndex := 47, attributes := #[] }, { accessFlags := 0, nameIndex := 62, descriptorIndex := 63, attributes := #[] }, { accessFlags := 0, nameIndex := 46, descriptorIndex := 47, attributes := #[] }, { accessFlags := 0, nameIndex := 64, descriptorIndex := 43, attributes := #[] }, { accessFlags := 2, nameIndex := 42, descriptorIndex := 43, attributes := #[] }] 49 10 #[] #[{ accessFlags := 24, nameIndex := 54, descriptorIndex := 55, attributes := #[] }, { accessFlags := 18, nameIndex := 16, descriptorIndex := 17, attributes := #[] }, { accessFlags := 18, nameIndex := 20, descriptorIndex := 21, attributes := #[] }, { accessFlags := 18, nameIndex := 24, descriptorIndex := 21, attributes := #[] }])
  fields := #[{ name := "EMPTY", type := (.object "com/example/nearword/nearword/internal/index/IntList"), accessFlags := 24, slot := 0, constantValue := 0 }, { name := "pieces", type := (.array (.array .int)), accessFlags := 18, slot := 0, constantValue := 0 }, { name := "start", type := .int, accessFlags := 18, slot := 1, constantValue := 0 }, { name := "size", type := .int, accessFlags := 18, slot := 2, constantValue := 0 }]
  methods := #[k4m0, k4m1, k4m2, k4m3, k4m4, k4m5, k4m6, k4m7]
  instanceTypes := #[(.array (.array .int)), .int, .int]
  staticTypes := #[(.object "com/example/nearword/nearword/internal/index/IntList")]
  resolved := Array.replicate 70 none
  statics := none }

def pool5 : Array CpInfo := pool [(2, .class_ 4), (1, u "java/lang/Object"), (0, u "<init>"), (0, u "()V"), (1, .class_ 10), (1, u "java/lang/System"), (0, u "allowSecurityManager"), (0, u "I"), (16, u "cons"), (0, u "Ljava/io/Console;"), (77, .class_ 110), (1, u "java/lang/System$CallersHolder"), (43, u "initialErrStream"), (0, u "Ljava/io/PrintStream;"), (19, u "security"), (0, u "Ljava/lang/SecurityManager;"), (31, .class_ 209), (0, u "java/lang/System$1"), (7, u "props"), (0, u "Ljava/util/Properties;"), (2, u "lineSeparator"), (0, u "Ljava/lang/String;"), (96, .class_ 321), (1, u "java/lang/System$LoggerFinder"), (5, .class_ 328), (0, u "java/lang/System$Logger"), (67, u "err"), (2, u "out"), (91, u "notSupportedJnuEncoding"), (15, u "in"), (17, u "initialIn"), (0, u "Ljava/io/InputStream;"), (35, u "bootLayer"), (0, u "Ljava/lang/ModuleLayer;"), (99, .class_ 664), (0, u "java/lang/System$2"), (9, u "NEVER"), (2, u "MAYBE"), (49, u "arraycopy"), (0, u "(Ljava/lang/Object;ILjava/lang/Object;II)V"), (72, .class_ 802), (0, u "java/lang/System$Logger$Level")] 31

def k5m0 : Method := { name := "<init>", desc := "()V", sig := { parameters := [], returnType := none }, accessFlags := 2, code := none }
def k5m1 : Method := { name := "arraycopy", desc := "(Ljava/lang/Object;ILjava/lang/Object;II)V", sig := { parameters := [(.object "java/lang/Object"), .int, (.object "java/lang/Object"), .int, .int], returnType := none }, accessFlags := 265, code := none }
/-- java/lang/System -/
def k5 : Class := { plain "java/lang/System" (some 0) with
  accessFlags := 49
  interfaces := #[]
  cf := some (fileOf pool5 8 #[.nestMembers #[319, 327, 801, 108, 663, 208]] #[{ accessFlags := 2, nameIndex := 5, descriptorIndex := 6, attributes := #[] }, { accessFlags := 265, nameIndex := 727, descriptorIndex := 728, attributes := #[] }] 49 2 #[] #[{ accessFlags := 25, nameIndex := 507, descriptorIndex := 526, attributes := #[] }, { accessFlags := 25, nameIndex := 399, descriptorIndex := 155, attributes := #[] }, { accessFlags := 25, nameIndex := 396, descriptorIndex := 155, attributes := #[] }, { accessFlags := 10, nameIndex := 525, descriptorIndex := 526, attributes := #[] }, { accessFlags := 26, nameIndex := 674, descriptorIndex := 12, attributes := #[] }, { accessFlags := 26, nameIndex := 677, descriptorIndex := 12, attributes := #[] }, { accessFlags := 10, nameIndex := 11, descriptorIndex := 12, attributes := #[] }, { accessFlags := 74, nameIndex := 175, descriptorIndex := 176, attributes := #[] }, { accessFlags := 10, nameIndex := 491, descriptorIndex := 222, attributes := #[] }, { accessFlags := 74, nameIndex := 29, descriptorIndex := 30, attributes := #[] }, { accessFlags := 74, nameIndex := 154, descriptorIndex := 155, attributes := #[] }, { accessFlags := 10, nameIndex := 217, descriptorIndex := 218, attributes := #[] }, { accessFlags := 10, nameIndex := 221, descriptorIndex := 222, attributes := #[] }, { accessFlags := 8, nameIndex := 562, descriptorIndex := 563, attributes := #[] }])
  fields := #[{ name := "in", type := (.object "java/io/InputStream"), accessFlags := 25, slot := 0, constantValue := 0 }, { name := "out", type := (.object "java/io/PrintStream"), accessFlags := 25, slot := 1, constantValue := 0 }, { name := "err", type := (.object "java/io/PrintStream"), accessFlags := 25, slot := 2, constantValue := 0 }, { name := "initialIn", type := (.object "java/io/InputStream"), accessFlags := 10, slot := 3, constantValue := 0 }, { name := "NEVER", type := .int, accessFlags := 26, slot := 4, constantValue := 0 }, { name := "MAYBE", type := .int, accessFlags := 26, slot := 5, constantValue := 0 }, { name := "allowSecurityManager", type := .int, accessFlags := 10, slot := 6, constantValue := 0 }, { name := "security", type := (.object "java/lang/SecurityManager"), accessFlags := 74, slot := 7, constantValue := 0 }, { name := "notSupportedJnuEncoding", type := (.object "java/lang/String"), accessFlags := 10, slot := 8, constantValue := 0 }, { name := "cons", type := (.object "java/io/Console"), accessFlags := 74, slot := 9, constantValue := 0 }, { name := "initialErrStream", type := (.object "java/io/PrintStream"), accessFlags := 74, slot := 10, constantValue := 0 }, { name := "props", type := (.object "java/util/Properties"), accessFlags := 10, slot := 11, constantValue := 0 }, { name := "lineSeparator", type := (.object "java/lang/String"), accessFlags := 10, slot := 12, constantValue := 0 }, { name := "bootLayer", type := (.object "java/lang/ModuleLayer"), accessFlags := 8, slot := 13, constantValue := 0 }]
  methods := #[k5m0, k5m1]
  instanceTypes := #[]
  staticTypes := #[(.object "java/io/InputStream"), (.object "java/io/PrintStream"), (.object "java/io/PrintStream"), (.object "java/io/InputStream"), .int, .int, .int, (.object "java/lang/SecurityManager"), (.object "java/lang/String"), (.object "java/io/Console"), (.object "java/io/PrintStream"), (.object "java/util/Properties"), (.object "java/lang/String"), (.object "java/lang/ModuleLayer")]
  resolved := Array.replicate 834 none
  statics := none }

def pool6 : Array CpInfo := pool [(1, u "java/lang/Cloneable"), (0, .class_ 1), (0, u "java/lang/Object"), (0, .class_ 3)] 3

/-- java/lang/Cloneable -/
def k6 : Class := { plain "java/lang/Cloneable" (some 0) with
  accessFlags := 1537
  interfaces := #[]
  cf := some (fileOf pool6 2 #[] #[] 1537 4 #[] #[])
  fields := #[]
  methods := #[]
  instanceTypes := #[]
  staticTypes := #[]
  resolved := Array.replicate 8 none
  statics := none }

def pool7 : Array CpInfo := pool [(1, u "java/io/Serializable"), (0, .class_ 1), (0, u "java/lang/Object"), (0, .class_ 3)] 3

/-- java/io/Serializable -/
def k7 : Class := { plain "java/io/Serializable" (some 0) with
  accessFlags := 1537
  interfaces := #[]
  cf := some (fileOf pool7 2 #[] #[] 1537 4 #[] #[])
  fields := #[]
  methods := #[]
  instanceTypes := #[]
  staticTypes := #[]
  resolved := Array.replicate 8 none
  statics := none }

/-- the primitive byte -/
def k8 : Class := { plain "byte" none with kind := .primitive 'B', accessFlags := 0x411 }
/-- [B -/
def k9 : Class := { plain "[B" (some 0) with kind := .array 8 .byte, interfaces := #[6, 7], accessFlags := 1041 }

/-- the primitive int -/
def k10 : Class := { plain "int" none with kind := .primitive 'I', accessFlags := 0x411 }
/-- [I -/
def k11 : Class := { plain "[I" (some 0) with kind := .array 10 .int, interfaces := #[6, 7], accessFlags := 1041 }

/-- the primitive long -/
def k12 : Class := { plain "long" none with kind := .primitive 'J', accessFlags := 0x411 }
/-- [J -/
def k13 : Class := { plain "[J" (some 0) with kind := .array 12 .long, interfaces := #[6, 7], accessFlags := 1041 }

def k14 : Class := { plain "[[I" (some 0) with kind := .array 11 (.array .int), interfaces := #[6, 7], accessFlags := 1041 }
def k15 : Class := { plain "[[J" (some 0) with kind := .array 13 (.array .long), interfaces := #[6, 7], accessFlags := 1041 }
def heap : Heap := #[]
def classes : Array Class := #[k0, k1, k2, k3, k4, k5, k6, k7, k8, k9, k10, k11, k12, k13, k14, k15]
def interned : List (Array UInt16 × Addr) := []
def slotsUsed : Nat := 0
def theMethod : MethodId := ⟨1, 1⟩
def args0 : Array Value := #[.int 5, .int 6, .int 7, .int 8, .int 9, .int 10]
def aboutOver (below : List Frame) : State where
  vm := { classes := classes, interned := interned.toArray }
  heap := heap
  slotsUsed := slotsUsed
  threads := #[{ frames := .invoking theMethod args0 :: below }]
def below0 : List Frame := [.native { method := ⟨0, 0⟩, args := #[] }]
def about1 : State := aboutOver below0
def p0 : Program := .bare "" "" ""
def e0 : Env := launch0.env 0 0 0
theorem w_frames : about1.frames = Frame.invoking theMethod args0 :: below0 := rfl
set_option maxRecDepth 65536 in
theorem w_args : argsFit about1.vm theMethod args0 = true := by decide +kernel
set_option maxRecDepth 65536 in
theorem w_heap : heapFits about1 = true := by decide +kernel
set_option maxRecDepth 65536 in
theorem w_runnable : about1.curStatus? = some .runnable := by decide +kernel
set_option maxRecDepth 65536 in
theorem w_alone : about1.alone = true := by decide +kernel
set_option maxRecDepth 65536 in
theorem w_named : about1.methodNamed? x = some theMethod := by decide +kernel
set_option maxRecDepth 65536 in
theorem w_hears : about1.hears theMethod below0 = true := by decide +kernel
set_option maxRecDepth 65536 in
theorem w_ripe : about1.ripe theMethod args0 below0 = true := by decide +kernel
theorem w_running : about1.status = .running := rfl
set_option maxRecDepth 65536 in
theorem w_room : about1.hasRoom e0.platform room_1 = true :=
  launch0.hasRoom_least _ room_1 (by decide +kernel) (by decide +kernel) (by decide +kernel) (by decide +kernel) (by decide +kernel) (by decide +kernel)
theorem allAtoms_all (ts : List Jvm.Cond) (a : Array Jvm.Value) (st : Jvm.State) : (allAtoms ts).before a st = ts.all (fun c => c.before a st) := by
  induction ts with
  | nil => rfl
  | cons c t ih =>
    show (Jvm.Cond.and c (allAtoms t)).before a st = _
    rw [Jvm.Cond.before_and, ih, List.all_cons]
def words1 : List Jvm.Cond := Jvm.Cond.code x code maxLocals ret :: tables_1
/-- a 'code' word, met by the world's own term for the bytes: nothing is compared byte by byte -/
theorem code_word {y : MethodName} {bytes : ByteArray} {mx : Nat} {rt : Option FieldType} {a : Array Value} {s : State} {m : MethodId} {meth : Method} {c : Code} (h1 : s.methodNamed? y = some m) (h2 : s.vm.method? m = some meth) (h3 : meth.code = some c) (h4 : c.code = bytes)
    (h5 : (c.maxLocals == mx && c.exceptionTable.isEmpty && decide (c.maxStack ≤ mostOperands) && decide (meth.sig.returnType = rt) && !meth.locks && decide (parseMethodDescriptor y.desc = some meth.sig)) = true) : (Jvm.Cond.code y bytes mx rt).before a s = true := by
  simp only [Bool.and_eq_true, beq_iff_eq, Bool.not_eq_true', decide_eq_true_eq] at h5
  obtain ⟨⟨⟨⟨⟨g1, g2⟩, g3⟩, g4⟩, g5⟩, g6⟩ := h5
  simp [Cond.before, Cond.holds, Cond.value, h1, h2, h3, h4, g1, g2, g3, g4, g5, g6]
def isCode : Jvm.Cond → Bool
  | .code _ _ _ _ => true
  | .arrayOver _ => true
  | _ => false
theorem all_split {L : List Jvm.Cond} {P : Jvm.Cond → Bool} (h1 : L.all (fun c => isCode c || P c) = true) (h2 : ∀ c ∈ L.filter isCode, P c = true) : L.all P = true := by
  refine List.all_eq_true.mpr fun c hc => ?_
  have h := List.all_eq_true.mp h1 c hc
  rcases Bool.eq_false_or_eq_true (isCode c) with hi | hi
  · exact h2 c (List.mem_filter.mpr ⟨hc, hi⟩)
  · simpa [hi] using h
set_option maxRecDepth 65536 in
theorem w_c0 : (Jvm.Cond.code x code maxLocals ret).before args0 about1 = true := code_word (m := ⟨1, 1⟩) (meth := k1m1) (c := k1c1) (by decide +kernel) rfl rfl rfl (by decide +kernel)
set_option maxRecDepth 65536 in
theorem w_c1 : (Jvm.Cond.code ({ cls := "java/lang/Math", name := "min", desc := "(II)I" } : Jvm.MethodName) jdk_29_method_69_code (2 : Nat) (Option.some Jvm.ClassFile.FieldType.int)).before args0 about1 = true := code_word (m := ⟨2, 2⟩) (meth := k2m2) (c := k2c2) (by decide +kernel) rfl rfl rfl (by decide +kernel)
set_option maxRecDepth 65536 in
theorem w_c2 : (Jvm.Cond.code ({ cls := "java/lang/Math", name := "max", desc := "(II)I" } : Jvm.MethodName) jdk_29_method_65_code (2 : Nat) (Option.some Jvm.ClassFile.FieldType.int)).before args0 about1 = true := code_word (m := ⟨2, 1⟩) (meth := k2m1) (c := k2c1) (by decide +kernel) rfl rfl rfl (by decide +kernel)
set_option maxRecDepth 65536 in
theorem w_c3 : (Jvm.Cond.code ({ cls := "com/example/nearword/nearword/internal/index/IntList", name := "of", desc := "([I)Lcom/example/nearword/nearword/internal/index/IntList;" } : Jvm.MethodName) prog_41_method_4_code (2 : Nat) (Option.some (Jvm.ClassFile.FieldType.object "com/example/nearword/nearword/internal/index/IntList"))).before args0 about1 = true := code_word (m := ⟨4, 2⟩) (meth := k4m2) (c := k4c2) (by decide +kernel) rfl rfl rfl (by decide +kernel)
set_option maxRecDepth 65536 in
theorem w_c4 : (Jvm.Cond.code ({ cls := "com/example/nearword/nearword/internal/index/IntList", name := "<init>", desc := "([II)V" } : Jvm.MethodName) prog_41_method_1_code (3 : Nat) (Option.none : Option Jvm.ClassFile.FieldType)).before args0 about1 = true := code_word (m := ⟨4, 0⟩) (meth := k4m0) (c := k4c0) (by decide +kernel) rfl rfl rfl (by decide +kernel)
set_option maxRecDepth 65536 in
theorem w_c5 : (Jvm.Cond.code ({ cls := "com/example/nearword/nearword/internal/index/IntList", name := "<init>", desc := "([[III)V" } : Jvm.MethodName) prog_41_method_2_code (4 : Nat) (Option.none : Option Jvm.ClassFile.FieldType)).before args0 about1 = true := code_word (m := ⟨4, 1⟩) (meth := k4m1) (c := k4c1) (by decide +kernel) rfl rfl rfl (by decide +kernel)
set_option maxRecDepth 65536 in
theorem w_c6 : (Jvm.Cond.code ({ cls := "java/lang/Object", name := "<init>", desc := "()V" } : Jvm.MethodName) object_method_1_code (1 : Nat) (Option.none : Option Jvm.ClassFile.FieldType)).before args0 about1 = true := code_word (m := ⟨0, 0⟩) (meth := k0m0) (c := k0c0) (by decide +kernel) rfl rfl rfl (by decide +kernel)
set_option maxRecDepth 65536 in
theorem w_c7 : (Jvm.Cond.code ({ cls := "com/example/nearword/nearword/internal/index/PointBits", name := "<init>", desc := "(Lcom/example/nearword/nearword/internal/index/IntList;I)V" } : Jvm.MethodName) prog_49_method_1_code (10 : Nat) (Option.none : Option Jvm.ClassFile.FieldType)).before args0 about1 = true := code_word (m := ⟨3, 0⟩) (meth := k3m0) (c := k3c0) (by decide +kernel) rfl rfl rfl (by decide +kernel)
set_option maxRecDepth 65536 in
theorem w_c8 : (Jvm.Cond.code ({ cls := "com/example/nearword/nearword/internal/index/IntList", name := "pieces", desc := "()I" } : Jvm.MethodName) prog_41_method_7_code (1 : Nat) (Option.some Jvm.ClassFile.FieldType.int)).before args0 about1 = true := code_word (m := ⟨4, 3⟩) (meth := k4m3) (c := k4c3) (by decide +kernel) rfl rfl rfl (by decide +kernel)
set_option maxRecDepth 65536 in
theorem w_c9 : (Jvm.Cond.code ({ cls := "com/example/nearword/nearword/internal/index/IntList", name := "piece", desc := "(I)[I" } : Jvm.MethodName) prog_41_method_8_code (2 : Nat) (Option.some (Jvm.ClassFile.FieldType.array Jvm.ClassFile.FieldType.int))).before args0 about1 = true := code_word (m := ⟨4, 4⟩) (meth := k4m4) (c := k4c4) (by decide +kernel) rfl rfl rfl (by decide +kernel)
set_option maxRecDepth 65536 in
theorem w_c10 : (Jvm.Cond.code ({ cls := "com/example/nearword/nearword/internal/index/IntList", name := "to", desc := "(I)I" } : Jvm.MethodName) prog_41_method_10_code (2 : Nat) (Option.some Jvm.ClassFile.FieldType.int)).before args0 about1 = true := code_word (m := ⟨4, 6⟩) (meth := k4m6) (c := k4c6) (by decide +kernel) rfl rfl rfl (by decide +kernel)
set_option maxRecDepth 65536 in
theorem w_c11 : (Jvm.Cond.code ({ cls := "com/example/nearword/nearword/internal/index/IntList", name := "from", desc := "()I" } : Jvm.MethodName) prog_41_method_9_code (1 : Nat) (Option.some Jvm.ClassFile.FieldType.int)).before args0 about1 = true := code_word (m := ⟨4, 5⟩) (meth := k4m5) (c := k4c5) (by decide +kernel) rfl rfl rfl (by decide +kernel)
set_option maxRecDepth 65536 in
theorem w_c12 : (Jvm.Cond.code ({ cls := "com/example/nearword/nearword/internal/index/IntList", name := "length", desc := "(I)I" } : Jvm.MethodName) prog_41_method_11_code (2 : Nat) (Option.some Jvm.ClassFile.FieldType.int)).before args0 about1 = true := code_word (m := ⟨4, 7⟩) (meth := k4m7) (c := k4c7) (by decide +kernel) rfl rfl rfl (by decide +kernel)
set_option maxRecDepth 65536 in
theorem w_c13 : (Jvm.Cond.code ({ cls := "com/example/nearword/nearword/internal/index/PointBits", name := "addBits", desc := "(IJ)V" } : Jvm.MethodName) prog_49_method_6_code (6 : Nat) (Option.none : Option Jvm.ClassFile.FieldType)).before args0 about1 = true := code_word (m := ⟨3, 2⟩) (meth := k3m2) (c := k3c2) (by decide +kernel) rfl rfl rfl (by decide +kernel)
set_option maxRecDepth 65536 in
theorem w_c14 : (Jvm.Cond.code ({ cls := "com/example/nearword/nearword/internal/index/PointBits", name := "has", desc := "(I)Z" } : Jvm.MethodName) prog_49_method_3_code (4 : Nat) (Option.some Jvm.ClassFile.FieldType.boolean)).before args0 about1 = true := code_word (m := ⟨3, 1⟩) (meth := k3m1) (c := k3c1) (by decide +kernel) rfl rfl rfl (by decide +kernel)
set_option maxRecDepth 65536 in
theorem w_ov0 : (Jvm.Cond.arrayOver (Jvm.ClassFile.FieldType.array Jvm.ClassFile.FieldType.int)).before args0 about1 = true := by
  have e1 : (Jvm.ClassFile.FieldType.array Jvm.ClassFile.FieldType.int).toString = "[I" := by decide +kernel
  have e2 : "[" ++ "[I" = "[[I" := by decide +kernel
  have h1 : about1.vm.findClass "[I" = some 11 := by decide +kernel
  have h2 : (about1.vm.classes.findIdx? fun (x : Class) => match x.kind with | .array component _ => component == 11 | _ => false) = some 14 := by
    show (classes.findIdx? _) = _
    rw [classes, List.findIdx?_toArray]
    decide +kernel
  have h3 : about1.vm.findClass "[[I" = some 14 := by decide +kernel
  have h4 : about1.vm.classes[14]? = some k14 := rfl
  simp only [Cond.before, Cond.holds, Cond.value, e1, h1, Option.bind_some, h2, h4, Option.map_some, e2, h3]
  decide +kernel

set_option maxRecDepth 65536 in
theorem w_ov1 : (Jvm.Cond.arrayOver (Jvm.ClassFile.FieldType.array Jvm.ClassFile.FieldType.long)).before args0 about1 = true := by
  have e1 : (Jvm.ClassFile.FieldType.array Jvm.ClassFile.FieldType.long).toString = "[J" := by decide +kernel
  have e2 : "[" ++ "[J" = "[[J" := by decide +kernel
  have h1 : about1.vm.findClass "[J" = some 13 := by decide +kernel
  have h2 : (about1.vm.classes.findIdx? fun (x : Class) => match x.kind with | .array component _ => component == 13 | _ => false) = some 15 := by
    show (classes.findIdx? _) = _
    rw [classes, List.findIdx?_toArray]
    decide +kernel
  have h3 : about1.vm.findClass "[[J" = some 15 := by decide +kernel
  have h4 : about1.vm.classes[15]? = some k15 := rfl
  simp only [Cond.before, Cond.holds, Cond.value, e1, h1, Option.bind_some, h2, h4, Option.map_some, e2, h3]
  decide +kernel
def codes1 : List Jvm.Cond := [Jvm.Cond.code x code maxLocals ret, Jvm.Cond.code ({ cls := "java/lang/Math", name := "min", desc := "(II)I" } : Jvm.MethodName) jdk_29_method_69_code (2 : Nat) (Option.some Jvm.ClassFile.FieldType.int), Jvm.Cond.code ({ cls := "java/lang/Math", name := "max", desc := "(II)I" } : Jvm.MethodName) jdk_29_method_65_code (2 : Nat) (Option.some Jvm.ClassFile.FieldType.int), Jvm.Cond.code ({ cls := "com/example/nearword/nearword/internal/index/IntList", name := "of", desc := "([I)Lcom/example/nearword/nearword/internal/index/IntList;" } : Jvm.MethodName) prog_41_method_4_code (2 : Nat) (Option.some (Jvm.ClassFile.FieldType.object "com/example/nearword/nearword/internal/index/IntList")), Jvm.Cond.code ({ cls := "com/example/nearword/nearword/internal/index/IntList", name := "<init>", desc := "([II)V" } : Jvm.MethodName) prog_41_method_1_code (3 : Nat) (Option.none : Option Jvm.ClassFile.FieldType), Jvm.Cond.arrayOver (Jvm.ClassFile.FieldType.array Jvm.ClassFile.FieldType.int), Jvm.Cond.code ({ cls := "com/example/nearword/nearword/internal/index/IntList", name := "<init>", desc := "([[III)V" } : Jvm.MethodName) prog_41_method_2_code (4 : Nat) (Option.none : Option Jvm.ClassFile.FieldType), Jvm.Cond.code ({ cls := "java/lang/Object", name := "<init>", desc := "()V" } : Jvm.MethodName) object_method_1_code (1 : Nat) (Option.none : Option Jvm.ClassFile.FieldType), Jvm.Cond.code ({ cls := "com/example/nearword/nearword/internal/index/PointBits", name := "<init>", desc := "(Lcom/example/nearword/nearword/internal/index/IntList;I)V" } : Jvm.MethodName) prog_49_method_1_code (10 : Nat) (Option.none : Option Jvm.ClassFile.FieldType), Jvm.Cond.arrayOver (Jvm.ClassFile.FieldType.array Jvm.ClassFile.FieldType.long), Jvm.Cond.code ({ cls := "com/example/nearword/nearword/internal/index/IntList", name := "pieces", desc := "()I" } : Jvm.MethodName) prog_41_method_7_code (1 : Nat) (Option.some Jvm.ClassFile.FieldType.int), Jvm.Cond.code ({ cls := "com/example/nearword/nearword/internal/index/IntList", name := "piece", desc := "(I)[I" } : Jvm.MethodName) prog_41_method_8_code (2 : Nat) (Option.some (Jvm.ClassFile.FieldType.array Jvm.ClassFile.FieldType.int)), Jvm.Cond.code ({ cls := "com/example/nearword/nearword/internal/index/IntList", name := "to", desc := "(I)I" } : Jvm.MethodName) prog_41_method_10_code (2 : Nat) (Option.some Jvm.ClassFile.FieldType.int), Jvm.Cond.code ({ cls := "com/example/nearword/nearword/internal/index/IntList", name := "from", desc := "()I" } : Jvm.MethodName) prog_41_method_9_code (1 : Nat) (Option.some Jvm.ClassFile.FieldType.int), Jvm.Cond.code ({ cls := "com/example/nearword/nearword/internal/index/IntList", name := "length", desc := "(I)I" } : Jvm.MethodName) prog_41_method_11_code (2 : Nat) (Option.some Jvm.ClassFile.FieldType.int), Jvm.Cond.code ({ cls := "com/example/nearword/nearword/internal/index/PointBits", name := "addBits", desc := "(IJ)V" } : Jvm.MethodName) prog_49_method_6_code (6 : Nat) (Option.none : Option Jvm.ClassFile.FieldType), Jvm.Cond.code ({ cls := "com/example/nearword/nearword/internal/index/PointBits", name := "has", desc := "(I)Z" } : Jvm.MethodName) prog_49_method_3_code (4 : Nat) (Option.some Jvm.ClassFile.FieldType.boolean)]
set_option maxRecDepth 65536 in
theorem codes_eq : words1.filter isCode = codes1 := rfl
theorem w_codes : ∀ c ∈ words1.filter isCode, c.before args0 about1 = true := by
  rw [codes_eq]
  intro c hc
  simp only [codes1, List.mem_cons, List.not_mem_nil, or_false] at hc
  rcases hc with rfl | rfl | rfl | rfl | rfl | rfl | rfl | rfl | rfl | rfl | rfl | rfl | rfl | rfl | rfl | rfl | rfl
  · exact w_c0
  · exact w_c1
  · exact w_c2
  · exact w_c3
  · exact w_c4
  · exact w_ov0
  · exact w_c5
  · exact w_c6
  · exact w_c7
  · exact w_ov1
  · exact w_c8
  · exact w_c9
  · exact w_c10
  · exact w_c11
  · exact w_c12
  · exact w_c13
  · exact w_c14
set_option maxRecDepth 65536 in
theorem w_t1 : (words1.take 24).all (fun c => isCode c || c.before args0 about1) = true := by decide +kernel
set_option maxRecDepth 65536 in
theorem w_t2 : ((words1.drop 24).take 24).all (fun c => isCode c || c.before args0 about1) = true := by decide +kernel
set_option maxRecDepth 65536 in
theorem w_t3 : (((words1.drop 24).drop 24).take 24).all (fun c => isCode c || c.before args0 about1) = true := by decide +kernel
set_option maxRecDepth 65536 in
theorem w_t4 : (((words1.drop 24).drop 24).drop 24).all (fun c => isCode c || c.before args0 about1) = true := by decide +kernel
theorem w_tables : (allAtoms (Jvm.Cond.code x code maxLocals ret :: tables_1)).before args0 about1 = true := by
  rw [allAtoms_all]
  show words1.all (fun c => c.before args0 about1) = true
  refine all_split ?_ w_codes
  rw [← List.take_append_drop 24 words1, List.all_append, w_t1, ← List.take_append_drop 24 (words1.drop 24), List.all_append, w_t2, ← List.take_append_drop 24 ((words1.drop 24).drop 24), List.all_append, w_t3, w_t4]
  rfl
set_option maxRecDepth 65536 in
theorem w_case : (Jvm.Cond.and given_1 narrow_1).before args0 about1 = true := by decide +kernel
theorem w_applies : (headSpec (Jvm.Cond.code x code maxLocals ret :: tables_1) room_1).applies x e0.platform about1 = true :=
  (Spec.applies_iff w_frames).mpr ⟨w_running, w_runnable, w_alone, w_named, w_hears, w_ripe, w_room, w_tables⟩
theorem atStart : AtStart classFile x code maxLocals ret World_1 tables_1 room_1 Calls_1 rest_1 Pre_1 launch0 p0 e0 about1 theMethod args0 below0 :=
  ⟨lists_1, trivial, launch0.admits_env _ _ _, launch0.least_env, fairChoices_fair.cas, fairChoices_fair.clock, w_frames, w_args, w_heap, w_applies, trivial, trivial, w_case⟩
end start1
theorem witness_1 : WitnessClaimed_1 := ⟨start1.p0, start1.e0, start1.about1, start1.theMethod, start1.args0, start1.below0, start1.atStart⟩
end Jvm.Pilot.@@N@@
