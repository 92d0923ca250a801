import JvmDerived
import JvmDerived.Pilot.@@N@@Statement
import JvmDerived.Pilot.@@N@@Code
set_option linter.unusedVariables false
set_option linter.unusedSimpArgs false
namespace Jvm.RoadKit
open Sem ClassFile Op Lib Jvm.Stand Jvm.Free Jvm.LawKit
/-- what a walk knows of the method that it walks -/
def Own (Z : State) (y : MethodName) (bytes : ByteArray) (maxL : Nat) (ret : Option FieldType) (p : Program) (s : State) (m : MethodId) (meth : Method) (c : Code) : Prop :=
  p.tables.exec = Jvm.exec ∧ c.code = bytes ∧ c.maxLocals = maxL ∧ s.vm.findClass y.cls = some m.cls ∧ meth.name = y.name ∧ Z.Warmed39 s.vm ∧ meth.sig.returnType = ret ∧ meth.locks = false
/-- how the start s over which the walk stands belongs to the true start s0 (wd: strings may have been interned since) -/
def GoRel (wd : Bool) (s0 s : State) (k : Nat) : Prop := match wd with
  | false => s0 = s
  | true => ∃ (vm0 : Vm) (k0 : Nat), s = s0.setVm vm0 ∧ s0.Since vm0 k0 ∧ k0 ≤ k
/-- the frame of the end -/
def GoEnd (wd : Bool) (s0 : State) (o : Outcome) (t : State) (L : List Loc) (K N : Nat) : Prop := match wd with
  | false => FrameEnd s0 o t L K N
  | true => ReturnedEndW s0 o t L K N
theorem GoRel.mono {wd : Bool} {s0 s : State} {k k' : Nat} (h : GoRel wd s0 s k) (q : k ≤ k') : GoRel wd s0 s k' := by
  cases wd
  · exact h
  · obtain ⟨vm0, k0, h1, h2, h3⟩ := h; exact ⟨vm0, k0, h1, h2, Nat.le_trans h3 q⟩
theorem GoRel.refl (wd : Bool) (s : State) (k : Nat) : GoRel wd s s k := by
  cases wd
  · rfl
  · exact ⟨s.vm, 0, rfl, (State.WarmedH.refl s).since 0, Nat.zero_le _⟩
theorem GoEnd.grow {wd : Bool} {s0 t : State} {o : Outcome} {L : List Loc} {K N : Nat} (h : GoEnd wd s0 o t L K N) : s0.heap.size ≤ t.heap.size := by
  cases wd
  · exact h.2.2.2.1
  · exact h.2.2.2.2.1
theorem GoRel.ended {wd : Bool} {s0 s : State} {v : Option Value} {U : State} {locs : List Loc} {c k c' k' : Nat} (h : GoRel wd s0 s U.heap.size) (hW : s.WarmedH U.vm) (hs : s.sameButNew ({ U with vm := s.vm } : State) locs c k) (hc : c ≤ c') (hk : k ≤ k') : GoEnd wd s0 (.returned v) U locs c' k' := by
  cases wd
  · obtain rfl : s0 = s := h
    exact ⟨⟨_, rfl⟩, hW, hs.mono hc hk⟩
  · obtain ⟨vm0, k0, rfl, h2, h3⟩ := h
    obtain ⟨q1, q2, q3⟩ := h2.ended hW h3 hs
    exact ⟨⟨_, rfl⟩, q1, q2, q3.mono hc hk⟩
/-- from pc, Ls, st over the heap h (so many cells and slots made so far) the walk comes to its end, and Q holds of what it returns and of the heap there; what it wrote lies at or above n0 -/
def Go (wd : Bool) (l : Launch) (R : Room) (Z : State) (y : MethodName) (bytes : ByteArray) (maxL : Nat) (ret : Option FieldType) (n0 K N : Nat) (Q : Option Value → Heap → Prop) (h : Heap) (cells slots pc : Nat) (Ls : Array Slot) (st : List Value) : Prop :=
  ∀ (p : Program) (e : Env) (s0 s : State) (m : MethodId) (args : Array Value) (below : List Frame) (meth : Method) (c : Code) (T : State) (locs : List Loc),
    GoRel wd s0 s h.size → Own Z y bytes maxL ret p s m meth c → Stand p l e R s m args below meth c T locs cells slots → T.heap = h → Fr n0 locs →
    ∃ s₂ o, Steps p.tables e below (T.setTop (mkF m pc Ls st)) s₂ ∧ s₂.status = .running ∧ Ended s₂ below o ∧ ∃ v L, o = .returned v ∧ (Q v s₂.heap ∧ Fr n0 L) ∧ GoEnd wd s0 o s₂ L K N
section GoLaws
variable {wd : Bool} {l : Launch} {R : Room} {Z : State} {y : MethodName} {bytes : ByteArray} {maxL : Nat} {ret : Option FieldType} {n0 K N : Nat} {Q : Option Value → Heap → Prop} {h : Heap} {cells slots pc pc' : Nat} {Ls Ls' : Array Slot} {st st' : List Value} {a0 : Array Value}
theorem Go.of (k : Go wd l R Z y bytes maxL ret n0 K N Q h cells slots pc' Ls' st')
    (q : ∀ (p : Program) (e : Env) (s : State) (m : MethodId) (args : Array Value) (below : List Frame) (meth : Method) (c : Code) (T : State) (locs : List Loc), Own Z y bytes maxL ret p s m meth c → Stand p l e R s m args below meth c T locs cells slots → T.heap = h →
      ∀ target, Steps p.tables e below (T.setTop (mkF m pc' Ls' st')) target → Steps p.tables e below (T.setTop (mkF m pc Ls st)) target) : Go wd l R Z y bytes maxL ret n0 K N Q h cells slots pc Ls st := by
  intro p e s0 s m args below meth c T locs hR O X eT F
  obtain ⟨s₂, o, h1, r⟩ := k p e s0 s m args below meth c T locs hR O X eT F
  exact ⟨s₂, o, q p e s m args below meth c T locs O X eT _ h1, r⟩
theorem Go.weaken {Q' : Option Value → Heap → Prop} (hQ : ∀ v h, Q' v h → Q v h) (k : Go wd l R Z y bytes maxL ret n0 K N Q' h cells slots pc Ls st) : Go wd l R Z y bytes maxL ret n0 K N Q h cells slots pc Ls st := by
  intro p e s0 s m args below meth c T locs hR O X eT F
  obtain ⟨s₂, o, h1, h2, h3, v, L, h4, h5, h6⟩ := k p e s0 s m args below meth c T locs hR O X eT F
  exact ⟨s₂, o, h1, h2, h3, v, L, h4, ⟨hQ _ _ h5.1, h5.2⟩, h6⟩
/-! plain steps -/
theorem Go.iload {k : Nat} {v : Int32} (hd : decode bytes pc = .ok (.iload k, 2)) (hl : Ls[k]? = some (.val (.int v))) (hp : pc + 2 = pc') (q : Go wd l R Z y bytes maxL ret n0 K N Q h cells slots pc' Ls (.int v :: st)) : Go wd l R Z y bytes maxL ret n0 K N Q h cells slots pc Ls st := by
  subst hp; exact Go.of q fun p e s m args below meth c T locs O X eT t hr => XS.iload X.here O.1 rfl (hb O.2.1 hd) hl hr
theorem Go.iloadN {k : Fin 4} {v : Int32} (hd : decode bytes pc = .ok (.iload_n k, 1)) (hl : Ls[k.val]? = some (.val (.int v))) (hp : pc + 1 = pc') (q : Go wd l R Z y bytes maxL ret n0 K N Q h cells slots pc' Ls (.int v :: st)) : Go wd l R Z y bytes maxL ret n0 K N Q h cells slots pc Ls st := by
  subst hp; exact Go.of q fun p e s m args below meth c T locs O X eT t hr => XS.iloadN X.here O.1 rfl (hb O.2.1 hd) hl hr
theorem Go.lload {k : Nat} {v : Int64} (hd : decode bytes pc = .ok (.lload k, 2)) (hl : Ls[k]? = some (.val (.long v))) (hp : pc + 2 = pc') (q : Go wd l R Z y bytes maxL ret n0 K N Q h cells slots pc' Ls (.long v :: st)) : Go wd l R Z y bytes maxL ret n0 K N Q h cells slots pc Ls st := by
  subst hp; exact Go.of q fun p e s m args below meth c T locs O X eT t hr => XS.lload X.here O.1 rfl (hb O.2.1 hd) hl hr
theorem Go.lloadN {k : Fin 4} {v : Int64} (hd : decode bytes pc = .ok (.lload_n k, 1)) (hl : Ls[k.val]? = some (.val (.long v))) (hp : pc + 1 = pc') (q : Go wd l R Z y bytes maxL ret n0 K N Q h cells slots pc' Ls (.long v :: st)) : Go wd l R Z y bytes maxL ret n0 K N Q h cells slots pc Ls st := by
  subst hp; exact Go.of q fun p e s m args below meth c T locs O X eT t hr => XS.lloadN X.here O.1 rfl (hb O.2.1 hd) hl hr
theorem Go.aload {k : Nat} {v : Value} (hd : decode bytes pc = .ok (.aload k, 2)) (hl : Ls[k]? = some (.val v)) (hv : v.isRef = true) (hp : pc + 2 = pc') (q : Go wd l R Z y bytes maxL ret n0 K N Q h cells slots pc' Ls (v :: st)) : Go wd l R Z y bytes maxL ret n0 K N Q h cells slots pc Ls st := by
  subst hp; exact Go.of q fun p e s m args below meth c T locs O X eT t hr => XS.aload X.here O.1 rfl (hb O.2.1 hd) hl hv hr
theorem Go.aloadN {k : Fin 4} {v : Value} (hd : decode bytes pc = .ok (.aload_n k, 1)) (hl : Ls[k.val]? = some (.val v)) (hv : v.isRef = true) (hp : pc + 1 = pc') (q : Go wd l R Z y bytes maxL ret n0 K N Q h cells slots pc' Ls (v :: st)) : Go wd l R Z y bytes maxL ret n0 K N Q h cells slots pc Ls st := by
  subst hp; exact Go.of q fun p e s m args below meth c T locs O X eT t hr => XS.aloadN X.here O.1 rfl (hb O.2.1 hd) hl hv hr
theorem Go.istore {k : Nat} {v : Int32} (hd : decode bytes pc = .ok (.istore k, 2)) (hl : storeLocals Ls k (.int v) = some Ls') (hp : pc + 2 = pc') (q : Go wd l R Z y bytes maxL ret n0 K N Q h cells slots pc' Ls' st) : Go wd l R Z y bytes maxL ret n0 K N Q h cells slots pc Ls (.int v :: st) := by
  subst hp; exact Go.of q fun p e s m args below meth c T locs O X eT t hr => XS.istore X.here O.1 rfl (hb O.2.1 hd) rfl hl hr
theorem Go.istoreN {k : Fin 4} {v : Int32} (hd : decode bytes pc = .ok (.istore_n k, 1)) (hl : storeLocals Ls k.val (.int v) = some Ls') (hp : pc + 1 = pc') (q : Go wd l R Z y bytes maxL ret n0 K N Q h cells slots pc' Ls' st) : Go wd l R Z y bytes maxL ret n0 K N Q h cells slots pc Ls (.int v :: st) := by
  subst hp; exact Go.of q fun p e s m args below meth c T locs O X eT t hr => XS.istoreN X.here O.1 rfl (hb O.2.1 hd) rfl hl hr
theorem Go.lstore {k : Nat} {v : Int64} (hd : decode bytes pc = .ok (.lstore k, 2)) (hl : storeLocals Ls k (.long v) = some Ls') (hp : pc + 2 = pc') (q : Go wd l R Z y bytes maxL ret n0 K N Q h cells slots pc' Ls' st) : Go wd l R Z y bytes maxL ret n0 K N Q h cells slots pc Ls (.long v :: st) := by
  subst hp; exact Go.of q fun p e s m args below meth c T locs O X eT t hr => XS.lstore X.here O.1 rfl (hb O.2.1 hd) rfl hl hr
theorem Go.lstoreN {k : Fin 4} {v : Int64} (hd : decode bytes pc = .ok (.lstore_n k, 1)) (hl : storeLocals Ls k.val (.long v) = some Ls') (hp : pc + 1 = pc') (q : Go wd l R Z y bytes maxL ret n0 K N Q h cells slots pc' Ls' st) : Go wd l R Z y bytes maxL ret n0 K N Q h cells slots pc Ls (.long v :: st) := by
  subst hp; exact Go.of q fun p e s m args below meth c T locs O X eT t hr => XS.lstoreN X.here O.1 rfl (hb O.2.1 hd) rfl hl hr
theorem Go.astore {k : Nat} {v : Value} (hd : decode bytes pc = .ok (.astore k, 2)) (hv : v.isRef = true) (hl : storeLocals Ls k v = some Ls') (hp : pc + 2 = pc') (q : Go wd l R Z y bytes maxL ret n0 K N Q h cells slots pc' Ls' st) : Go wd l R Z y bytes maxL ret n0 K N Q h cells slots pc Ls (v :: st) := by
  subst hp; exact Go.of q fun p e s m args below meth c T locs O X eT t hr => XS.astore X.here O.1 rfl (hb O.2.1 hd) rfl hv hl hr
theorem Go.astoreN {k : Fin 4} {v : Value} (hd : decode bytes pc = .ok (.astore_n k, 1)) (hv : v.isRef = true) (hl : storeLocals Ls k.val v = some Ls') (hp : pc + 1 = pc') (q : Go wd l R Z y bytes maxL ret n0 K N Q h cells slots pc' Ls' st) : Go wd l R Z y bytes maxL ret n0 K N Q h cells slots pc Ls (v :: st) := by
  subst hp; exact Go.of q fun p e s m args below meth c T locs O X eT t hr => XS.astoreN X.here O.1 rfl (hb O.2.1 hd) rfl hv hl hr
theorem Go.iinc {k : Nat} {cst : Int} {v w : Int32} (hd : decode bytes pc = .ok (.iinc k cst, 3)) (hl : Ls[k]? = some (.val (.int v))) (hw : v + Int32.ofInt cst = w) (hl' : storeLocals Ls k (.int w) = some Ls') (hp : pc + 3 = pc') (q : Go wd l R Z y bytes maxL ret n0 K N Q h cells slots pc' Ls' st) : Go wd l R Z y bytes maxL ret n0 K N Q h cells slots pc Ls st := by
  subst hp hw; exact Go.of q fun p e s m args below meth c T locs O X eT t hr => XS.iinc X.here O.1 rfl (hb O.2.1 hd) hl hl' hr
theorem Go.iconst {i : Int} {v : Int32} (hd : decode bytes pc = .ok (.iconst i, 1)) (hv : Int32.ofInt i = v) (hp : pc + 1 = pc') (q : Go wd l R Z y bytes maxL ret n0 K N Q h cells slots pc' Ls (.int v :: st)) : Go wd l R Z y bytes maxL ret n0 K N Q h cells slots pc Ls st := by
  subst hp hv; exact Go.of q fun p e s m args below meth c T locs O X eT t hr => XS.iconst X.here O.1 rfl (hb O.2.1 hd) hr
theorem Go.bipush {i : Int} {v : Int32} (hd : decode bytes pc = .ok (.bipush i, 2)) (hv : (Int8.ofInt i).toInt32 = v) (hp : pc + 2 = pc') (q : Go wd l R Z y bytes maxL ret n0 K N Q h cells slots pc' Ls (.int v :: st)) : Go wd l R Z y bytes maxL ret n0 K N Q h cells slots pc Ls st := by
  subst hp hv; exact Go.of q fun p e s m args below meth c T locs O X eT t hr => XS.bipush X.here O.1 rfl (hb O.2.1 hd) hr
theorem Go.sipush {i : Int} {v : Int32} (hd : decode bytes pc = .ok (.sipush i, 3)) (hv : (Int16.ofInt i).toInt32 = v) (hp : pc + 3 = pc') (q : Go wd l R Z y bytes maxL ret n0 K N Q h cells slots pc' Ls (.int v :: st)) : Go wd l R Z y bytes maxL ret n0 K N Q h cells slots pc Ls st := by
  subst hp hv; exact Go.of q fun p e s m args below meth c T locs O X eT t hr => XS.sipush X.here O.1 rfl (hb O.2.1 hd) hr
theorem Go.lconst {k : Fin 2} {v : Int64} (hd : decode bytes pc = .ok (.lconst k, 1)) (hv : Int64.ofNat k = v) (hp : pc + 1 = pc') (q : Go wd l R Z y bytes maxL ret n0 K N Q h cells slots pc' Ls (.long v :: st)) : Go wd l R Z y bytes maxL ret n0 K N Q h cells slots pc Ls st := by
  subst hp hv; exact Go.of q fun p e s m args below meth c T locs O X eT t hr => XS.lconst X.here O.1 rfl (hb O.2.1 hd) hr
theorem Go.aconstNull (hd : decode bytes pc = .ok (.aconst_null, 1)) (hp : pc + 1 = pc') (q : Go wd l R Z y bytes maxL ret n0 K N Q h cells slots pc' Ls (.null :: st)) : Go wd l R Z y bytes maxL ret n0 K N Q h cells slots pc Ls st := by
  subst hp; exact Go.of q fun p e s m args below meth c T locs O X eT t hr => XS.aconstNull X.here O.1 rfl (hb O.2.1 hd) hr
theorem Go.dup {v : Value} (hd : decode bytes pc = .ok (.dup, 1)) (hv : v.category = 1) (hp : pc + 1 = pc') (q : Go wd l R Z y bytes maxL ret n0 K N Q h cells slots pc' Ls (v :: v :: st)) : Go wd l R Z y bytes maxL ret n0 K N Q h cells slots pc Ls (v :: st) := by
  subst hp; exact Go.of q fun p e s m args below meth c T locs O X eT t hr => XS.dup X.here O.1 rfl (hb O.2.1 hd) rfl hv hr
theorem Go.dupX1 {v w : Value} (hd : decode bytes pc = .ok (.dup_x1, 1)) (hv : v.category = 1) (hw : w.category = 1) (hp : pc + 1 = pc') (q : Go wd l R Z y bytes maxL ret n0 K N Q h cells slots pc' Ls (v :: w :: v :: st)) : Go wd l R Z y bytes maxL ret n0 K N Q h cells slots pc Ls (v :: w :: st) := by
  subst hp; exact Go.of q fun p e s m args below meth c T locs O X eT t hr => XS.dupX1 X.here O.1 rfl (hb O.2.1 hd) rfl hv hw hr
theorem Go.dup2 {v w : Value} (hd : decode bytes pc = .ok (.dup2, 1)) (hv : v.category = 1) (hw : w.category = 1) (hp : pc + 1 = pc') (q : Go wd l R Z y bytes maxL ret n0 K N Q h cells slots pc' Ls (v :: w :: v :: w :: st)) : Go wd l R Z y bytes maxL ret n0 K N Q h cells slots pc Ls (v :: w :: st) := by
  subst hp; exact Go.of q fun p e s m args below meth c T locs O X eT t hr => XT.dup2 X.here O.1 rfl (hb O.2.1 hd) rfl hv hw hr
theorem Go.pop {v : Value} (hd : decode bytes pc = .ok (.pop, 1)) (hv : v.category = 1) (hp : pc + 1 = pc') (q : Go wd l R Z y bytes maxL ret n0 K N Q h cells slots pc' Ls st) : Go wd l R Z y bytes maxL ret n0 K N Q h cells slots pc Ls (v :: st) := by
  subst hp; exact Go.of q fun p e s m args below meth c T locs O X eT t hr => XS.pop X.here O.1 rfl (hb O.2.1 hd) rfl hv hr
theorem Go.goto {o : Int} (hd : decode bytes pc = .ok (.goto o, 3)) (ho : 0 ≤ (pc : Int) + o) (hp : ((pc : Int) + o).toNat = pc') (q : Go wd l R Z y bytes maxL ret n0 K N Q h cells slots pc' Ls st) : Go wd l R Z y bytes maxL ret n0 K N Q h cells slots pc Ls st :=
  Go.of q fun p e s m args below meth c T locs O X eT t hr => XS.goto X.here O.1 rfl (pc0 := pc) rfl (hb O.2.1 hd) ho hp hr
theorem Go.iadd {a : Int32} {b : Int32} (hd : decode bytes pc = .ok (.iadd, 1)) (hp : pc + 1 = pc') (q : Go wd l R Z y bytes maxL ret n0 K N Q h cells slots pc' Ls (.int (a + b) :: st)) : Go wd l R Z y bytes maxL ret n0 K N Q h cells slots pc Ls (.int b :: .int a :: st) := by
  subst hp; exact Go.of q fun p e s m args below meth c T locs O X eT t hr => XS.iadd X.here O.1 rfl (hb O.2.1 hd) rfl hr
theorem Go.isub {a : Int32} {b : Int32} (hd : decode bytes pc = .ok (.isub, 1)) (hp : pc + 1 = pc') (q : Go wd l R Z y bytes maxL ret n0 K N Q h cells slots pc' Ls (.int (a - b) :: st)) : Go wd l R Z y bytes maxL ret n0 K N Q h cells slots pc Ls (.int b :: .int a :: st) := by
  subst hp; exact Go.of q fun p e s m args below meth c T locs O X eT t hr => XS.isub X.here O.1 rfl (hb O.2.1 hd) rfl hr
theorem Go.imul {a : Int32} {b : Int32} (hd : decode bytes pc = .ok (.imul, 1)) (hp : pc + 1 = pc') (q : Go wd l R Z y bytes maxL ret n0 K N Q h cells slots pc' Ls (.int (a * b) :: st)) : Go wd l R Z y bytes maxL ret n0 K N Q h cells slots pc Ls (.int b :: .int a :: st) := by
  subst hp; exact Go.of q fun p e s m args below meth c T locs O X eT t hr => XS.imul X.here O.1 rfl (hb O.2.1 hd) rfl hr
theorem Go.iand {a : Int32} {b : Int32} (hd : decode bytes pc = .ok (.iand, 1)) (hp : pc + 1 = pc') (q : Go wd l R Z y bytes maxL ret n0 K N Q h cells slots pc' Ls (.int (a &&& b) :: st)) : Go wd l R Z y bytes maxL ret n0 K N Q h cells slots pc Ls (.int b :: .int a :: st) := by
  subst hp; exact Go.of q fun p e s m args below meth c T locs O X eT t hr => XS.iand X.here O.1 rfl (hb O.2.1 hd) rfl hr
theorem Go.ior {a : Int32} {b : Int32} (hd : decode bytes pc = .ok (.ior, 1)) (hp : pc + 1 = pc') (q : Go wd l R Z y bytes maxL ret n0 K N Q h cells slots pc' Ls (.int (a ||| b) :: st)) : Go wd l R Z y bytes maxL ret n0 K N Q h cells slots pc Ls (.int b :: .int a :: st) := by
  subst hp; exact Go.of q fun p e s m args below meth c T locs O X eT t hr => XS.ior X.here O.1 rfl (hb O.2.1 hd) rfl hr
theorem Go.ixor {a : Int32} {b : Int32} (hd : decode bytes pc = .ok (.ixor, 1)) (hp : pc + 1 = pc') (q : Go wd l R Z y bytes maxL ret n0 K N Q h cells slots pc' Ls (.int (a ^^^ b) :: st)) : Go wd l R Z y bytes maxL ret n0 K N Q h cells slots pc Ls (.int b :: .int a :: st) := by
  subst hp; exact Go.of q fun p e s m args below meth c T locs O X eT t hr => XS.ixor X.here O.1 rfl (hb O.2.1 hd) rfl hr
theorem Go.ishl {a : Int32} {b : Int32} (hd : decode bytes pc = .ok (.ishl, 1)) (hp : pc + 1 = pc') (q : Go wd l R Z y bytes maxL ret n0 K N Q h cells slots pc' Ls (.int (a <<< (b &&& 31)) :: st)) : Go wd l R Z y bytes maxL ret n0 K N Q h cells slots pc Ls (.int b :: .int a :: st) := by
  subst hp; exact Go.of q fun p e s m args below meth c T locs O X eT t hr => XS.ishl X.here O.1 rfl (hb O.2.1 hd) rfl hr
theorem Go.ishr {a : Int32} {b : Int32} (hd : decode bytes pc = .ok (.ishr, 1)) (hp : pc + 1 = pc') (q : Go wd l R Z y bytes maxL ret n0 K N Q h cells slots pc' Ls (.int (a >>> (b &&& 31)) :: st)) : Go wd l R Z y bytes maxL ret n0 K N Q h cells slots pc Ls (.int b :: .int a :: st) := by
  subst hp; exact Go.of q fun p e s m args below meth c T locs O X eT t hr => XS.ishr X.here O.1 rfl (hb O.2.1 hd) rfl hr
theorem Go.iushr {a : Int32} {b : Int32} (hd : decode bytes pc = .ok (.iushr, 1)) (hp : pc + 1 = pc') (q : Go wd l R Z y bytes maxL ret n0 K N Q h cells slots pc' Ls (.int ((a.toUInt32 >>> (b &&& 31).toUInt32).toInt32) :: st)) : Go wd l R Z y bytes maxL ret n0 K N Q h cells slots pc Ls (.int b :: .int a :: st) := by
  subst hp; exact Go.of q fun p e s m args below meth c T locs O X eT t hr => XS.iushr X.here O.1 rfl (hb O.2.1 hd) rfl hr
theorem Go.idiv {a : Int32} {b : Int32} (hd : decode bytes pc = .ok (.idiv, 1)) (hy : b ≠ 0) (hp : pc + 1 = pc') (q : Go wd l R Z y bytes maxL ret n0 K N Q h cells slots pc' Ls (.int (a / b) :: st)) : Go wd l R Z y bytes maxL ret n0 K N Q h cells slots pc Ls (.int b :: .int a :: st) := by
  subst hp; exact Go.of q fun p e s m args below meth c T locs O X eT t hr => XS.idiv X.here O.1 rfl (hb O.2.1 hd) rfl hy hr
theorem Go.ladd {a : Int64} {b : Int64} (hd : decode bytes pc = .ok (.ladd, 1)) (hp : pc + 1 = pc') (q : Go wd l R Z y bytes maxL ret n0 K N Q h cells slots pc' Ls (.long (a + b) :: st)) : Go wd l R Z y bytes maxL ret n0 K N Q h cells slots pc Ls (.long b :: .long a :: st) := by
  subst hp; exact Go.of q fun p e s m args below meth c T locs O X eT t hr => XS.ladd X.here O.1 rfl (hb O.2.1 hd) rfl hr
theorem Go.lsub {a : Int64} {b : Int64} (hd : decode bytes pc = .ok (.lsub, 1)) (hp : pc + 1 = pc') (q : Go wd l R Z y bytes maxL ret n0 K N Q h cells slots pc' Ls (.long (a - b) :: st)) : Go wd l R Z y bytes maxL ret n0 K N Q h cells slots pc Ls (.long b :: .long a :: st) := by
  subst hp; exact Go.of q fun p e s m args below meth c T locs O X eT t hr => XS.lsub X.here O.1 rfl (hb O.2.1 hd) rfl hr
theorem Go.lmul {a : Int64} {b : Int64} (hd : decode bytes pc = .ok (.lmul, 1)) (hp : pc + 1 = pc') (q : Go wd l R Z y bytes maxL ret n0 K N Q h cells slots pc' Ls (.long (a * b) :: st)) : Go wd l R Z y bytes maxL ret n0 K N Q h cells slots pc Ls (.long b :: .long a :: st) := by
  subst hp; exact Go.of q fun p e s m args below meth c T locs O X eT t hr => XS.lmul X.here O.1 rfl (hb O.2.1 hd) rfl hr
theorem Go.land {a : Int64} {b : Int64} (hd : decode bytes pc = .ok (.land, 1)) (hp : pc + 1 = pc') (q : Go wd l R Z y bytes maxL ret n0 K N Q h cells slots pc' Ls (.long (a &&& b) :: st)) : Go wd l R Z y bytes maxL ret n0 K N Q h cells slots pc Ls (.long b :: .long a :: st) := by
  subst hp; exact Go.of q fun p e s m args below meth c T locs O X eT t hr => XS.land X.here O.1 rfl (hb O.2.1 hd) rfl hr
theorem Go.lor {a : Int64} {b : Int64} (hd : decode bytes pc = .ok (.lor, 1)) (hp : pc + 1 = pc') (q : Go wd l R Z y bytes maxL ret n0 K N Q h cells slots pc' Ls (.long (a ||| b) :: st)) : Go wd l R Z y bytes maxL ret n0 K N Q h cells slots pc Ls (.long b :: .long a :: st) := by
  subst hp; exact Go.of q fun p e s m args below meth c T locs O X eT t hr => XS.lor X.here O.1 rfl (hb O.2.1 hd) rfl hr
theorem Go.lxor {a : Int64} {b : Int64} (hd : decode bytes pc = .ok (.lxor, 1)) (hp : pc + 1 = pc') (q : Go wd l R Z y bytes maxL ret n0 K N Q h cells slots pc' Ls (.long (a ^^^ b) :: st)) : Go wd l R Z y bytes maxL ret n0 K N Q h cells slots pc Ls (.long b :: .long a :: st) := by
  subst hp; exact Go.of q fun p e s m args below meth c T locs O X eT t hr => XS.lxor X.here O.1 rfl (hb O.2.1 hd) rfl hr
theorem Go.lshl {a : Int64} {b : Int32} (hd : decode bytes pc = .ok (.lshl, 1)) (hp : pc + 1 = pc') (q : Go wd l R Z y bytes maxL ret n0 K N Q h cells slots pc' Ls (.long (a <<< (b &&& 0x3f).toInt64) :: st)) : Go wd l R Z y bytes maxL ret n0 K N Q h cells slots pc Ls (.int b :: .long a :: st) := by
  subst hp; exact Go.of q fun p e s m args below meth c T locs O X eT t hr => XS.lshl X.here O.1 rfl (hb O.2.1 hd) rfl hr
theorem Go.lshr {a : Int64} {b : Int32} (hd : decode bytes pc = .ok (.lshr, 1)) (hp : pc + 1 = pc') (q : Go wd l R Z y bytes maxL ret n0 K N Q h cells slots pc' Ls (.long (a >>> (b &&& 0x3f).toInt64) :: st)) : Go wd l R Z y bytes maxL ret n0 K N Q h cells slots pc Ls (.int b :: .long a :: st) := by
  subst hp; exact Go.of q fun p e s m args below meth c T locs O X eT t hr => XS.lshr X.here O.1 rfl (hb O.2.1 hd) rfl hr
theorem Go.lushr {a : Int64} {b : Int32} (hd : decode bytes pc = .ok (.lushr, 1)) (hp : pc + 1 = pc') (q : Go wd l R Z y bytes maxL ret n0 K N Q h cells slots pc' Ls (.long ((a.toUInt64 >>> (b &&& 0x3f).toInt64.toUInt64).toInt64) :: st)) : Go wd l R Z y bytes maxL ret n0 K N Q h cells slots pc Ls (.int b :: .long a :: st) := by
  subst hp; exact Go.of q fun p e s m args below meth c T locs O X eT t hr => XS.lushr X.here O.1 rfl (hb O.2.1 hd) rfl hr
theorem Go.ldiv {a : Int64} {b : Int64} (hd : decode bytes pc = .ok (.ldiv, 1)) (hy : b ≠ 0) (hp : pc + 1 = pc') (q : Go wd l R Z y bytes maxL ret n0 K N Q h cells slots pc' Ls (.long (a / b) :: st)) : Go wd l R Z y bytes maxL ret n0 K N Q h cells slots pc Ls (.long b :: .long a :: st) := by
  subst hp; exact Go.of q fun p e s m args below meth c T locs O X eT t hr => XS.ldiv X.here O.1 rfl (hb O.2.1 hd) rfl hy hr
theorem Go.i2b {a : Int32} (hd : decode bytes pc = .ok (.i2b, 1)) (hp : pc + 1 = pc') (q : Go wd l R Z y bytes maxL ret n0 K N Q h cells slots pc' Ls (.int (a.toInt8.toInt32) :: st)) : Go wd l R Z y bytes maxL ret n0 K N Q h cells slots pc Ls (.int a :: st) := by
  subst hp; exact Go.of q fun p e s m args below meth c T locs O X eT t hr => XS.i2b X.here O.1 rfl (hb O.2.1 hd) rfl hr
theorem Go.i2c {a : Int32} (hd : decode bytes pc = .ok (.i2c, 1)) (hp : pc + 1 = pc') (q : Go wd l R Z y bytes maxL ret n0 K N Q h cells slots pc' Ls (.int (a.toUInt32.toUInt16.toUInt32.toInt32) :: st)) : Go wd l R Z y bytes maxL ret n0 K N Q h cells slots pc Ls (.int a :: st) := by
  subst hp; exact Go.of q fun p e s m args below meth c T locs O X eT t hr => XS.i2c X.here O.1 rfl (hb O.2.1 hd) rfl hr
theorem Go.i2s {a : Int32} (hd : decode bytes pc = .ok (.i2s, 1)) (hp : pc + 1 = pc') (q : Go wd l R Z y bytes maxL ret n0 K N Q h cells slots pc' Ls (.int (a.toInt16.toInt32) :: st)) : Go wd l R Z y bytes maxL ret n0 K N Q h cells slots pc Ls (.int a :: st) := by
  subst hp; exact Go.of q fun p e s m args below meth c T locs O X eT t hr => XS.i2s X.here O.1 rfl (hb O.2.1 hd) rfl hr
theorem Go.i2l {a : Int32} (hd : decode bytes pc = .ok (.i2l, 1)) (hp : pc + 1 = pc') (q : Go wd l R Z y bytes maxL ret n0 K N Q h cells slots pc' Ls (.long (a.toInt64) :: st)) : Go wd l R Z y bytes maxL ret n0 K N Q h cells slots pc Ls (.int a :: st) := by
  subst hp; exact Go.of q fun p e s m args below meth c T locs O X eT t hr => XS.i2l X.here O.1 rfl (hb O.2.1 hd) rfl hr
theorem Go.l2i {a : Int64} (hd : decode bytes pc = .ok (.l2i, 1)) (hp : pc + 1 = pc') (q : Go wd l R Z y bytes maxL ret n0 K N Q h cells slots pc' Ls (.int (a.toInt32) :: st)) : Go wd l R Z y bytes maxL ret n0 K N Q h cells slots pc Ls (.long a :: st) := by
  subst hp; exact Go.of q fun p e s m args below meth c T locs O X eT t hr => XS.l2i X.here O.1 rfl (hb O.2.1 hd) rfl hr
theorem Go.lneg {a : Int64} (hd : decode bytes pc = .ok (.lneg, 1)) (hp : pc + 1 = pc') (q : Go wd l R Z y bytes maxL ret n0 K N Q h cells slots pc' Ls (.long (-a) :: st)) : Go wd l R Z y bytes maxL ret n0 K N Q h cells slots pc Ls (.long a :: st) := by
  subst hp; exact Go.of q fun p e s m args below meth c T locs O X eT t hr => XS.lneg X.here O.1 rfl (hb O.2.1 hd) rfl hr
theorem Go.ineg {a : Int32} (hd : decode bytes pc = .ok (.ineg, 1)) (hp : pc + 1 = pc') (q : Go wd l R Z y bytes maxL ret n0 K N Q h cells slots pc' Ls (.int (-a) :: st)) : Go wd l R Z y bytes maxL ret n0 K N Q h cells slots pc Ls (.int a :: st) := by
  subst hp; exact Go.of q fun p e s m args below meth c T locs O X eT t hr => XS.ineg X.here O.1 rfl (hb O.2.1 hd) rfl hr
theorem Go.irem {a b : Int32} (hd : decode bytes pc = .ok (.irem, 1)) (hy : b ≠ 0) (hp : pc + 1 = pc') (q : Go wd l R Z y bytes maxL ret n0 K N Q h cells slots pc' Ls (.int (a % b) :: st)) : Go wd l R Z y bytes maxL ret n0 K N Q h cells slots pc Ls (.int b :: .int a :: st) := by
  subst hp; exact Go.of q fun p e s m args below meth c T locs O X eT t hr => iremM X O.1 rfl (hb O.2.1 hd) rfl hy hr
theorem Go.lrem {a b : Int64} (hd : decode bytes pc = .ok (.lrem, 1)) (hy : b ≠ 0) (hp : pc + 1 = pc') (q : Go wd l R Z y bytes maxL ret n0 K N Q h cells slots pc' Ls (.long (a % b) :: st)) : Go wd l R Z y bytes maxL ret n0 K N Q h cells slots pc Ls (.long b :: .long a :: st) := by
  subst hp; rw [← lrem_mod] at q; exact Go.of q fun p e s m args below meth c T locs O X eT t hr => XS.lrem X.here O.1 rfl (hb O.2.1 hd) rfl hy hr
theorem c_lremM (x y : Int64) (d : Int) (hy : y.toInt = d) : (0 ≤ x.toInt → (x % y).toInt = x.toInt % d) ∧ (x.toInt < 0 → (x % y).toInt = -((-x.toInt) % d)) := by rw [Int64.toInt_mod, hy]; exact tr _ _
/-! branches -/
def jc : ClassFile.Cond → Int32 → Int32 → Prop
  | .eq, x, y => x.toInt = y.toInt
  | .ne, x, y => x.toInt ≠ y.toInt
  | .lt, x, y => x.toInt < y.toInt
  | .ge, x, y => y.toInt ≤ x.toInt
  | .gt, x, y => y.toInt < x.toInt
  | .le, x, y => x.toInt ≤ y.toInt
def jn : ClassFile.Cond → Int32 → Int32 → Prop
  | .eq, x, y => x.toInt ≠ y.toInt
  | .ne, x, y => x.toInt = y.toInt
  | .lt, x, y => y.toInt ≤ x.toInt
  | .ge, x, y => x.toInt < y.toInt
  | .gt, x, y => x.toInt ≤ y.toInt
  | .le, x, y => y.toInt < x.toInt
def zc : ClassFile.Cond → Int32 → Prop
  | .eq, x => x.toInt = 0
  | .ne, x => x.toInt ≠ 0
  | .lt, x => x.toInt < 0
  | .ge, x => 0 ≤ x.toInt
  | .gt, x => 0 < x.toInt
  | .le, x => x.toInt ≤ 0
def zn : ClassFile.Cond → Int32 → Prop
  | .eq, x => x.toInt ≠ 0
  | .ne, x => x.toInt = 0
  | .lt, x => 0 ≤ x.toInt
  | .ge, x => x.toInt < 0
  | .gt, x => x.toInt ≤ 0
  | .le, x => 0 < x.toInt
def wc : ClassFile.Cond → Int64 → Int64 → Prop
  | .eq, x, y => x.toInt = y.toInt
  | .ne, x, y => x.toInt ≠ y.toInt
  | .lt, x, y => x.toInt < y.toInt
  | .ge, x, y => y.toInt ≤ x.toInt
  | .gt, x, y => y.toInt < x.toInt
  | .le, x, y => x.toInt ≤ y.toInt
def wn : ClassFile.Cond → Int64 → Int64 → Prop
  | .eq, x, y => x.toInt ≠ y.toInt
  | .ne, x, y => x.toInt = y.toInt
  | .lt, x, y => y.toInt ≤ x.toInt
  | .ge, x, y => x.toInt < y.toInt
  | .gt, x, y => x.toInt ≤ y.toInt
  | .le, x, y => y.toInt < x.toInt
theorem jc_or (cd : ClassFile.Cond) (x y : Int32) : (if_icmp.holds cd x y = true ∧ jc cd x y) ∨ (if_icmp.holds cd x y = false ∧ jn cd x y) := by
  have i : x = y ↔ x.toInt = y.toInt := Int32.toInt_inj.symm
  cases cd <;> simp only [if_icmp.holds, jc, jn, beq_iff_eq, bne_iff_ne, beq_eq_false_iff_ne, bne_eq_false_iff_eq, decide_eq_true_eq, decide_eq_false_iff_not, Int32.lt_iff_toInt_lt, Int32.le_iff_toInt_le, ge_iff_le, gt_iff_lt, ne_eq, i] <;> omega
theorem zc_or (cd : ClassFile.Cond) (x : Int32) : (ifCond.holds cd x = true ∧ zc cd x) ∨ (ifCond.holds cd x = false ∧ zn cd x) := by
  have z : (0 : Int32).toInt = 0 := rfl
  rcases jc_or cd x 0 with ⟨q, r⟩ | ⟨q, r⟩
  · left; rw [if0]; refine ⟨q, ?_⟩; cases cd <;> simp only [jc, zc, z] at r ⊢ <;> exact r
  · right; rw [if0]; refine ⟨q, ?_⟩; cases cd <;> simp only [jn, zn, z] at r ⊢ <;> exact r
theorem wc_or (cd : ClassFile.Cond) (x y : Int64) : (ifCond.holds cd (lcmpW x y) = true ∧ wc cd x y) ∨ (ifCond.holds cd (lcmpW x y) = false ∧ wn cd x y) := by
  have e := c_lcmp x y
  rcases zc_or cd (lcmpW x y) with ⟨q, r⟩ | ⟨q, r⟩
  · left; refine ⟨q, ?_⟩; cases cd <;> simp only [zc, wc, ne_eq] at r ⊢ <;> omega
  · right; refine ⟨q, ?_⟩; cases cd <;> simp only [zn, wn, ne_eq] at r ⊢ <;> omega
theorem Go.icmp {cd : ClassFile.Cond} {o : Int} {x z : Int32} {pc1 pc2 : Nat} (hd : decode bytes pc = .ok (.if_icmp cd o, 3)) (ho : 0 ≤ (pc : Int) + o) (hp : ((pc : Int) + o).toNat = pc1) (hp2 : pc + 3 = pc2)
    (q1 : jc cd x z → Go wd l R Z y bytes maxL ret n0 K N Q h cells slots pc1 Ls st) (q2 : jn cd x z → Go wd l R Z y bytes maxL ret n0 K N Q h cells slots pc2 Ls st) : Go wd l R Z y bytes maxL ret n0 K N Q h cells slots pc Ls (.int z :: .int x :: st) := by
  rcases jc_or cd x z with ⟨hc, r⟩ | ⟨hc, r⟩
  · exact Go.of (q1 r) fun p e s m args below meth c T locs O X eT t hr => XS.icmpYes X.here O.1 rfl (pc0 := pc) rfl (hb O.2.1 hd) rfl hc ho hp hr
  · subst hp2; exact Go.of (q2 r) fun p e s m args below meth c T locs O X eT t hr => XS.icmpNo X.here O.1 rfl (hb O.2.1 hd) rfl hc hr
theorem Go.ifc {cd : ClassFile.Cond} {o : Int} {x : Int32} {pc1 pc2 : Nat} (hd : decode bytes pc = .ok (.ifCond cd o, 3)) (ho : 0 ≤ (pc : Int) + o) (hp : ((pc : Int) + o).toNat = pc1) (hp2 : pc + 3 = pc2)
    (q1 : zc cd x → Go wd l R Z y bytes maxL ret n0 K N Q h cells slots pc1 Ls st) (q2 : zn cd x → Go wd l R Z y bytes maxL ret n0 K N Q h cells slots pc2 Ls st) : Go wd l R Z y bytes maxL ret n0 K N Q h cells slots pc Ls (.int x :: st) := by
  rcases zc_or cd x with ⟨hc, r⟩ | ⟨hc, r⟩
  · exact Go.of (q1 r) fun p e s m args below meth c T locs O X eT t hr => XS.ifYes X.here O.1 rfl (pc0 := pc) rfl (hb O.2.1 hd) rfl hc ho hp hr
  · subst hp2; exact Go.of (q2 r) fun p e s m args below meth c T locs O X eT t hr => XS.ifNo X.here O.1 rfl (hb O.2.1 hd) rfl hc hr
theorem Go.lcmp {a b : Int64} (hd : decode bytes pc = .ok (.lcmp, 1)) (hp : pc + 1 = pc') (q : Go wd l R Z y bytes maxL ret n0 K N Q h cells slots pc' Ls (.int (lcmpW a b) :: st)) : Go wd l R Z y bytes maxL ret n0 K N Q h cells slots pc Ls (.long b :: .long a :: st) := by
  subst hp; exact Go.of q fun p e s m args below meth c T locs O X eT t hr => XS.lcmp X.here O.1 rfl (hb O.2.1 hd) rfl hr
theorem Go.ifw {cd : ClassFile.Cond} {o : Int} {a b : Int64} {pc1 pc2 : Nat} (hd : decode bytes pc = .ok (.ifCond cd o, 3)) (ho : 0 ≤ (pc : Int) + o) (hp : ((pc : Int) + o).toNat = pc1) (hp2 : pc + 3 = pc2)
    (q1 : wc cd a b → Go wd l R Z y bytes maxL ret n0 K N Q h cells slots pc1 Ls st) (q2 : wn cd a b → Go wd l R Z y bytes maxL ret n0 K N Q h cells slots pc2 Ls st) : Go wd l R Z y bytes maxL ret n0 K N Q h cells slots pc Ls (.int (lcmpW a b) :: st) := by
  rcases wc_or cd a b with ⟨hc, r⟩ | ⟨hc, r⟩
  · exact Go.of (q1 r) fun p e s m args below meth c T locs O X eT t hr => XS.ifYes X.here O.1 rfl (pc0 := pc) rfl (hb O.2.1 hd) rfl hc ho hp hr
  · subst hp2; exact Go.of (q2 r) fun p e s m args below meth c T locs O X eT t hr => XS.ifNo X.here O.1 rfl (hb O.2.1 hd) rfl hc hr
theorem Go.nonnullYes {o : Int} {a : Addr} (hd : decode bytes pc = .ok (.ifnonnull o, 3)) (ho : 0 ≤ (pc : Int) + o) (hp : ((pc : Int) + o).toNat = pc') (q : Go wd l R Z y bytes maxL ret n0 K N Q h cells slots pc' Ls st) : Go wd l R Z y bytes maxL ret n0 K N Q h cells slots pc Ls (.ref a :: st) :=
  Go.of q fun p e s m args below meth c T locs O X eT t hr => XS.ifnonnullYes X.here O.1 rfl (pc0 := pc) rfl (hb O.2.1 hd) rfl ho hp hr
theorem Go.nonnullNo {o : Int} (hd : decode bytes pc = .ok (.ifnonnull o, 3)) (hp : pc + 3 = pc') (q : Go wd l R Z y bytes maxL ret n0 K N Q h cells slots pc' Ls st) : Go wd l R Z y bytes maxL ret n0 K N Q h cells slots pc Ls (.null :: st) := by
  subst hp; exact Go.of q fun p e s m args below meth c T locs O X eT t hr => XS.ifnonnullNo X.here O.1 rfl (hb O.2.1 hd) rfl hr
theorem Go.nullYes {o : Int} (hd : decode bytes pc = .ok (.ifnull o, 3)) (ho : 0 ≤ (pc : Int) + o) (hp : ((pc : Int) + o).toNat = pc') (q : Go wd l R Z y bytes maxL ret n0 K N Q h cells slots pc' Ls st) : Go wd l R Z y bytes maxL ret n0 K N Q h cells slots pc Ls (.null :: st) :=
  Go.of q fun p e s m args below meth c T locs O X eT t hr => XS.ifnullYes X.here O.1 rfl (pc0 := pc) rfl (hb O.2.1 hd) rfl ho hp hr
theorem Go.nullNo {o : Int} {a : Addr} (hd : decode bytes pc = .ok (.ifnull o, 3)) (hp : pc + 3 = pc') (q : Go wd l R Z y bytes maxL ret n0 K N Q h cells slots pc' Ls st) : Go wd l R Z y bytes maxL ret n0 K N Q h cells slots pc Ls (.ref a :: st) := by
  subst hp; exact Go.of q fun p e s m args below meth c T locs O X eT t hr => XS.ifnullNo X.here O.1 rfl (hb O.2.1 hd) rfl hr
/-- if_acmp: q1 where they are the same, q2 where they aren't -/
theorem Go.acmp {cd : ACond} {o : Int} {u w : Value} {pc1 pc2 : Nat} (hd : decode bytes pc = .ok (.if_acmp cd o, 3)) (hu : u.isRef = true) (hw : w.isRef = true) (ho : 0 ≤ (pc : Int) + o) (hp : (if acV cd true = true then ((pc : Int) + o).toNat else pc + 3) = pc1) (hp2 : (if acV cd false = true then ((pc : Int) + o).toNat else pc + 3) = pc2)
    (q1 : u = w → Go wd l R Z y bytes maxL ret n0 K N Q h cells slots pc1 Ls st) (q2 : u ≠ w → Go wd l R Z y bytes maxL ret n0 K N Q h cells slots pc2 Ls st) : Go wd l R Z y bytes maxL ret n0 K N Q h cells slots pc Ls (w :: u :: st) := by
  by_cases r : u = w
  · exact Go.of (q1 r) fun p e s m args below meth c T locs O X eT t hr => RoadKit.acmp X O.1 rfl hu hw (pc0 := pc) (same := true) rfl (hb O.2.1 hd) rfl (decide_eq_true r) ho hp.symm hr
  · exact Go.of (q2 r) fun p e s m args below meth c T locs O X eT t hr => RoadKit.acmp X O.1 rfl hu hw (pc0 := pc) (same := false) rfl (hb O.2.1 hd) rfl (decide_eq_false r) ho hp2.symm hr
/-! constants of the pool -/
theorem Go.ldcI {i : Nat} {v : Int32} (w : (Cond.constant y.cls i v).before a0 Z = true) (hd : decode bytes pc = .ok (.ldc i, 2)) (hp : pc + 2 = pc') (q : Go wd l R Z y bytes maxL ret n0 K N Q h cells slots pc' Ls (.int v :: st)) : Go wd l R Z y bytes maxL ret n0 K N Q h cells slots pc Ls st := by
  subst hp; exact Go.of q fun p e s m args below meth c T locs O X eT t hr => X.ldcInt O.1 O.2.2.2.1 (mvT O.2.2.2.2.2.1 w) (g := mkF m pc Ls st) rfl (hb O.2.1 hd) t hr
theorem Go.ldcW {i : Nat} {v : Int32} (w : (Cond.constant y.cls i v).before a0 Z = true) (hd : decode bytes pc = .ok (.ldc_w i, 3)) (hp : pc + 3 = pc') (q : Go wd l R Z y bytes maxL ret n0 K N Q h cells slots pc' Ls (.int v :: st)) : Go wd l R Z y bytes maxL ret n0 K N Q h cells slots pc Ls st := by
  subst hp; exact Go.of q fun p e s m args below meth c T locs O X eT t hr => X.ldcwInt O.1 O.2.2.2.1 (mvT O.2.2.2.2.2.1 w) (g := mkF m pc Ls st) rfl (hb O.2.1 hd) t hr
theorem Go.ldcL {i : Nat} {v : Int64} (w : (Cond.constantLong y.cls i v).before a0 Z = true) (hd : decode bytes pc = .ok (.ldc2_w i, 3)) (hp : pc + 3 = pc') (q : Go wd l R Z y bytes maxL ret n0 K N Q h cells slots pc' Ls (.long v :: st)) : Go wd l R Z y bytes maxL ret n0 K N Q h cells slots pc Ls st := by
  subst hp; exact Go.of q fun p e s m args below meth c T locs O X eT t hr => X.ldc2Long O.1 O.2.2.2.1 (mvT O.2.2.2.2.2.1 w) (g := mkF m pc Ls st) rfl (hb O.2.1 hd) t hr
/-! the ends -/
theorem Go.leave {v : Option Value} (hv : ret = none → v = none) (hQ : Q v h) (hk : cells ≤ K) (hn : slots ≤ N)
    (q : ∀ (p : Program) (e : Env) (s : State) (m : MethodId) (args : Array Value) (below : List Frame) (meth : Method) (c : Code) (T : State) (locs : List Loc) (fs : List Frame), Own Z y bytes maxL ret p s m meth c → Stand p l e R s m args below meth c T locs cells slots →
      (∀ (f : JFrame) (acts : List Action), f.method = m → f.locked = none → f.entered = [] → (doReturn e (T.setTop f) acts v).1 = T.setFrames fs) → Steps p.tables e below (T.setTop (mkF m pc Ls st)) (T.setFrames fs)) : Go wd l R Z y bytes maxL ret n0 K N Q h cells slots pc Ls st := by
  intro p e s0 s m args below meth c T locs hR O X eT F
  obtain ⟨fs, hr, hrun, hended, hW, hsame⟩ := X.leave (v := v) (fun r => hv (by rw [← O.2.2.2.2.2.2.1]; exact r)) O.2.2.2.2.2.2.2
  have hE : GoEnd wd s0 (.returned v) (T.setFrames fs) locs K N := GoRel.ended (U := T.setFrames fs) (by show GoRel wd s0 s T.heap.size; rw [eT]; exact hR) hW hsame hk hn
  refine ⟨_, _, q p e s m args below meth c T locs fs O X hr, hrun, hended, v, locs, rfl, ⟨?_, F⟩, hE⟩
  show Q v T.heap
  rw [eT]; exact hQ
theorem Go.ret0 (hd : decode bytes pc = .ok (.return_, 1)) (hr : ret = none) (hQ : Q none h) (hk : cells ≤ K) (hn : slots ≤ N) : Go wd l R Z y bytes maxL ret n0 K N Q h cells slots pc Ls [] :=
  Go.leave (v := none) (fun _ => rfl) hQ hk hn fun p e s m args below meth c T locs fs O X hl => X.returnOut O.1 (O.2.2.2.2.2.2.1.trans hr) (hb O.2.1 hd) hl
theorem Go.retI {v : Int32} (hd : decode bytes pc = .ok (.ireturn, 1)) (hr : ret = some .int) (hQ : Q (some (.int v)) h) (hk : cells ≤ K) (hn : slots ≤ N) : Go wd l R Z y bytes maxL ret n0 K N Q h cells slots pc Ls (.int v :: st) :=
  Go.leave (v := some (.int v)) (fun r => by rw [hr] at r; cases r) hQ hk hn fun p e s m args below meth c T locs fs O X hl => retOut X O.1 (O.2.2.2.2.2.2.1.trans hr) rfl (Or.inl ⟨rfl, Or.inl rfl, _, rfl⟩) (hb O.2.1 hd) hl
theorem Go.retN {v : Int32} {t : FieldType} (hd : decode bytes pc = .ok (.ireturn, 1)) (hr : ret = some t) (ht : t = .boolean ∨ t = .byte ∨ t = .char ∨ t = .short) (hv : nar t v = v) (hQ : Q (some (.int v)) h) (hk : cells ≤ K) (hn : slots ≤ N) : Go wd l R Z y bytes maxL ret n0 K N Q h cells slots pc Ls (.int v :: st) :=
  Go.leave (v := some (.int v)) (fun r => by rw [hr] at r; cases r) hQ hk hn fun p e s m args below meth c T locs fs O X hl => RoadKit.retN X O.1 (O.2.2.2.2.2.2.1.trans hr) ht (hb O.2.1 hd) (by rw [hv]; exact hl)
theorem Go.retL {v : Int64} (hd : decode bytes pc = .ok (.lreturn, 1)) (hr : ret = some .long) (hQ : Q (some (.long v)) h) (hk : cells ≤ K) (hn : slots ≤ N) : Go wd l R Z y bytes maxL ret n0 K N Q h cells slots pc Ls (.long v :: st) :=
  Go.leave (v := some (.long v)) (fun r => by rw [hr] at r; cases r) hQ hk hn fun p e s m args below meth c T locs fs O X hl => retOut X O.1 (O.2.2.2.2.2.2.1.trans hr) rfl (Or.inr (Or.inl ⟨rfl, rfl, _, rfl⟩)) (hb O.2.1 hd) hl
theorem Go.retA {v : Value} {t : FieldType} (hd : decode bytes pc = .ok (.areturn, 1)) (hr : ret = some t) (ht : t.isReference = true) (hv : v.isRef = true) (hQ : Q (some v) h) (hk : cells ≤ K) (hn : slots ≤ N) : Go wd l R Z y bytes maxL ret n0 K N Q h cells slots pc Ls (v :: st) :=
  Go.leave (v := some v) (fun r => by rw [hr] at r; cases r) hQ hk hn fun p e s m args below meth c T locs fs O X hl => retOut X O.1 (O.2.2.2.2.2.2.1.trans hr) (by cases t <;> first | rfl | (cases ht; done)) (Or.inr (Or.inr (Or.inr (Or.inr ⟨rfl, ht, hv⟩)))) (hb O.2.1 hd) hl
/-! the heap -/
theorem Go.newO {C : String} {i n : Nat} (w1 : (Cond.classLink y.cls i C).before a0 Z = true) (w2 : (Cond.instantiable C n).before a0 Z = true) (w3 : (Cond.initialized C).before a0 Z = true) (hd : decode bytes pc = .ok (.new i, 3)) (hc : cells + 1 ≤ R.cells) (hs : slots + n ≤ R.slots) (hp : pc + 3 = pc')
    (q : ∀ (h' : Heap) (a : Addr), a = h.size → Ext h h' → Exa Z h' a C → (∀ {O nm d : String} {ty : FieldType}, Laid Z a0 C O nm d → parseFieldDescriptor d = some ty → Fld Z h' a O nm d (defaultValue ty)) → Go wd l R Z y bytes maxL ret n0 K N Q h' (cells + 1) (slots + n) pc' Ls (.ref a :: st)) : Go wd l R Z y bytes maxL ret n0 K N Q h cells slots pc Ls st := by
  subst hp
  intro p e s0 s m args below meth c T locs hR O X eT F
  obtain ⟨T2, h2, X2, e2, E2, A2, D2, -, st2⟩ := RoadKit.newO X O.1 O.2.2.2.2.2.1 O.2.2.2.1 w1 w2 w3 eT (g := mkF m pc Ls st) rfl (hb O.2.1 hd) hc hs
  obtain ⟨s₂, o, h1, r⟩ := q h2 _ rfl E2 A2 D2 p e s0 s m args below meth c T2 locs (hR.mono E2.1) O X2 e2 F
  exact ⟨s₂, o, st2 _ h1, r⟩
theorem Go.initO {i W : Nat} {a : Addr} (w1 : (Cond.methodLink y.cls i Lib.objectInit).before a0 Z = true) (w2 : (Cond.instanceMethod Lib.objectInit).before a0 Z = true) (w3 : (Cond.code Lib.objectInit ⟨#[0xb1]⟩ 1 none).before a0 Z = true) (hd : decode bytes pc = .ok (.invokespecial i, 3)) (hz : Ls.size = maxL)
    (hf : 1 ≤ R.frames) (hW : (st.map fun v => v.category).sum ≤ W) (hl : W + 12 ≤ R.locals) (hp : pc + 3 = pc') (q : Go wd l R Z y bytes maxL ret n0 K N Q h cells slots pc' Ls st) : Go wd l R Z y bytes maxL ret n0 K N Q h cells slots pc Ls (.ref a :: st) := by
  subst hp
  intro p e s0 s m args below meth c T locs hR O X eT F
  obtain ⟨T2, X2, e2, st2⟩ := RoadKit.initO X O.1 O.2.2.2.2.2.1 O.2.2.2.1 w1 w2 w3 eT (g := mkF m pc Ls (.ref a :: st)) rfl (hz.trans O.2.2.1.symm) rfl (hb O.2.1 hd) hf (W := W) (by show 2 * 0 + _ ≤ _; omega) hl
  obtain ⟨s₂, o, h1, r⟩ := q p e s0 s m args below meth c T2 locs hR O X2 e2 F
  exact ⟨s₂, o, st2 _ h1, r⟩
theorem Go.getF {C n d : String} {i : Nat} {a : Addr} {v : Value} (w : (Cond.fieldLink y.cls i C n d).before a0 Z = true) (hF : Fld Z h a C n d v) (hd : decode bytes pc = .ok (.getfield i, 3)) (hp : pc + 3 = pc') (q : Go wd l R Z y bytes maxL ret n0 K N Q h cells slots pc' Ls (v :: st)) : Go wd l R Z y bytes maxL ret n0 K N Q h cells slots pc Ls (.ref a :: st) := by
  subst hp
  intro p e s0 s m args below meth c T locs hR O X eT F
  obtain ⟨T2, X2, e2, st2⟩ := RoadKit.getF X O.1 O.2.2.2.2.2.1 O.2.2.2.1 (host := "") (Or.inl w) Via.refl eT hF (g := mkF m pc Ls (.ref a :: st)) rfl rfl (hb O.2.1 hd)
  obtain ⟨s₂, o, h1, r⟩ := q p e s0 s m args below meth c T2 locs hR O X2 e2 F
  exact ⟨s₂, o, st2 _ h1, r⟩
theorem Go.getS {C n d : String} {i : Nat} {v : Value} (w : (Cond.fieldLink y.cls i C n d).before a0 Z = true) (hF : Sta Z h C n d v) (hd : decode bytes pc = .ok (.getstatic i, 3)) (hp : pc + 3 = pc') (q : Go wd l R Z y bytes maxL ret n0 K N Q h cells slots pc' Ls (v :: st)) : Go wd l R Z y bytes maxL ret n0 K N Q h cells slots pc Ls st := by
  subst hp
  intro p e s0 s m args below meth c T locs hR O X eT F
  obtain ⟨T2, X2, e2, st2⟩ := RoadKit.getS2 X O.1 O.2.2.2.2.2.1 O.2.2.2.1 (host := "") (Or.inl w) Via.refl eT hF (g := mkF m pc Ls st) rfl (hb O.2.1 hd)
  obtain ⟨s₂, o, h1, r⟩ := q p e s0 s m args below meth c T2 locs hR O X2 e2 F
  exact ⟨s₂, o, st2 _ h1, r⟩
theorem Go.putF {C n d : String} {i kk : Nat} {ty : FieldType} {a : Addr} {v old : Value} (w : (Cond.fieldLink y.cls i C n d).before a0 Z = true) (hF : Fld Z h a C n d old) (hE : Exa Z h a C) (hL : (Cond.lays C C n d).before a0 Z = true ∨ ((Cond.laysFinal C C n d).before a0 Z = true ∧ y.cls = C ∧ y.name = "<init>")) (wi : (Cond.instantiable C kk).before a0 Z = true)
    (hty : parseFieldDescriptor d = some ty) (hn : narrow ty v = v) (hf : fits ty v = true) (hd : decode bytes pc = .ok (.putfield i, 3)) (ha : n0 ≤ a) (hp : pc + 3 = pc') (q : ∀ h', Wr h h' a (slotOf Z C n d) v → Go wd l R Z y bytes maxL ret n0 K N Q h' cells slots pc' Ls st) : Go wd l R Z y bytes maxL ret n0 K N Q h cells slots pc Ls (v :: .ref a :: st) := by
  subst hp
  intro p e s0 s m args below meth c T locs hR O X eT F
  obtain ⟨T2, h2, X2, e2, W2, st2⟩ := RoadKit.putF X O.1 O.2.2.2.2.2.1 O.2.2.2.1 (host := "") (Or.inl w) Via.refl eT hF hE (hL.imp_right fun r => ⟨r.1, r.2.1, O.2.2.2.2.1.trans r.2.2⟩) wi hty hn hf (g := mkF m pc Ls (v :: .ref a :: st)) rfl rfl (hb O.2.1 hd)
  obtain ⟨s₂, o, h1, r⟩ := q h2 W2 p e s0 s m args below meth c T2 _ (hR.mono (Nat.le_of_eq W2.size.symm)) O X2 e2 (Fr.snoc X2 F ha)
  exact ⟨s₂, o, st2 _ h1, r⟩
/-! facts carried from heap to heap -/
def Sm (h h' : Heap) (a : Addr) : Prop := ∀ c : Cell, h[a]? = some c → h'[a]? = some c
theorem Sm.ext {h h' : Heap} {a : Addr} (E : Ext h h') : Sm h h' a := fun c q => E.2 a c q
theorem Sm.keep {h h' : Heap} {a : Addr} {ws : List Addr} (E : Keep h h' ws) (q : a ∉ ws) : Sm h h' a := fun c r => E.2.1 a c r q
theorem Sm.wr {h h' : Heap} {a b : Addr} {sl : Nat} {v : Value} (W : Wr h h' b sl v) (q : a ≠ b) : Sm h h' a := Sm.keep (Keep.of_wr W) (by simpa using q)
theorem Sm.trans {h h' h'' : Heap} {a : Addr} (A : Sm h h' a) (B : Sm h' h'' a) : Sm h h'' a := fun c r => B c (A c r)
theorem Fld.sm {h h' : Heap} {a : Addr} {C n d : String} {v : Value} (F : Fld Z h a C n d v) (S : Sm h h' a) : Fld Z h' a C n d v := by
  obtain ⟨cell, cf, k, i, f, h1, r⟩ := F; exact ⟨cell, cf, k, i, f, S _ h1, r⟩
theorem Exa.sm {h h' : Heap} {a : Addr} {C : String} (F : Exa Z h a C) (S : Sm h h' a) : Exa Z h' a C := by
  obtain ⟨cell, k, h1, r⟩ := F; exact ⟨cell, k, S _ h1, r⟩
theorem Arr.sm {h h' : Heap} {a : Addr} {c : Cell} {ty : FieldType} (F : Arr Z h a c ty) (S : Sm h h' a) : Arr Z h' a c ty := ⟨S _ F.1, F.2⟩
/-- the array at a holds just these values -/
def Ary (Z : State) (h : Heap) (a : Addr) (ty : FieldType) (vs : List Value) : Prop := ∃ c : Cell, Arr Z h a c ty ∧ c.slots = vs.toArray
theorem Ary.sm {h h' : Heap} {a : Addr} {ty : FieldType} {vs : List Value} (F : Ary Z h a ty vs) (S : Sm h h' a) : Ary Z h' a ty vs := by
  obtain ⟨c, A, r⟩ := F; exact ⟨c, A.sm S, r⟩
theorem Ary.lt {h : Heap} {a : Addr} {ty : FieldType} {vs : List Value} (F : Ary Z h a ty vs) : a < h.size := by
  obtain ⟨c, A, r⟩ := F; exact A.lt
theorem Ary.eq {h : Heap} {a : Addr} {ty : FieldType} {vs vs' : List Value} (F : Ary Z h a ty vs) (q : vs = vs') : Ary Z h a ty vs' := q ▸ F
theorem Ary.set {h h' : Heap} {a : Addr} {ty : FieldType} {vs : List Value} {k : Nat} {v : Value} (F : Ary Z h a ty vs) (W : Wr h h' a k v) : Ary Z h' a ty (vs.set k v) := by
  obtain ⟨c, A, r⟩ := F
  refine ⟨_, A.same W, ?_⟩
  show c.slots.setIfInBounds k v = _
  rw [r]; simp
theorem clamp_of {j : Int32} {k : Nat} (hj : j.toInt = (k : Int)) : j.toNatClampNeg = k := by
  show j.toInt.toNat = k; omega
theorem inb {j : Int32} {k : Nat} {c : Cell} {vs : List Value} (hj : j.toInt = (k : Int)) (hc : c.slots = vs.toArray) (hk : k < vs.length) : ¬ (j < 0 ∨ c.slots.size ≤ j.toNatClampNeg) := by
  have z : (0 : Int32).toInt = 0 := rfl
  rw [clamp_of hj, hc, Int32.lt_iff_toInt_lt, z]; simp; omega
theorem lt_of_get {vs : List Value} {k : Nat} {v : Value} (h : vs[k]? = some v) : k < vs.length := (List.getElem?_eq_some_iff.mp h).1
theorem Go.newA {aty : ArrayType} {n : Int32} {k : Nat} {ty : FieldType} (w : (Cond.arrayClass ty).before a0 Z = true) (hty : newarray.typeOf aty = ty) (hn : n.toInt = (k : Int)) {cap : Nat} (hcap : k ≤ cap) (hb8 : cap * 8 ≤ 536870912) (hd : decode bytes pc = .ok (.newarray aty, 2)) (hc : cells + 1 ≤ R.cells) (hs : slots + cap ≤ R.slots) (hp : pc + 2 = pc')
    (q : ∀ (h' : Heap) (a : Addr), a = h.size → Ext h h' → Ary Z h' a ty (List.replicate k (defaultValue ty)) → Go wd l R Z y bytes maxL ret n0 K N Q h' (cells + 1) (slots + cap) pc' Ls (.ref a :: st)) : Go wd l R Z y bytes maxL ret n0 K N Q h cells slots pc Ls (.int n :: st) := by
  subst hp hty
  intro p e s0 s m args below meth c T locs hR O X eT F
  have z : (0 : Int32).toInt = 0 := rfl
  have hn0 : ¬ n < 0 := by rw [Int32.lt_iff_toInt_lt, z]; omega
  obtain ⟨T2, h2, cA, X2, e2, E2, A2, st2⟩ := RoadKit.newP X O.1 O.2.2.2.2.2.1 w eT (g := mkF m pc Ls (.int n :: st)) rfl (hb O.2.1 hd) rfl hn0 (cap := cap) (by rw [clamp_of hn]; exact hcap) hb8 hc hs
  obtain ⟨s₂, o, h1, r⟩ := q h2 _ rfl E2 ⟨_, A2, by simp [RoadKit.newA, clamp_of hn]⟩ p e s0 s m args below meth c T2 locs (hR.mono E2.1) O X2 e2 F
  exact ⟨s₂, o, st2 _ h1, r⟩
theorem Go.alen {a : Addr} {ty : FieldType} {vs : List Value} {z : Int32} (hA : Ary Z h a ty vs) (hz : z.toInt = (vs.length : Int)) (hd : decode bytes pc = .ok (.arraylength, 1)) (hp : pc + 1 = pc') (q : Go wd l R Z y bytes maxL ret n0 K N Q h cells slots pc' Ls (.int z :: st)) : Go wd l R Z y bytes maxL ret n0 K N Q h cells slots pc Ls (.ref a :: st) := by
  subst hp
  obtain ⟨cl, A, r⟩ := hA
  have e1 : cl.slots.size.toInt32 = z := by
    have := z.toInt_lt
    rw [r]; apply Int32.toInt_inj.mp
    rw [hz]
    have q1 : vs.toArray.size = vs.length := by simp
    rw [q1]; exact len_toInt (by omega)
  exact Go.of q fun p e s m args below meth c T locs O X eT t hr => X.arraylength O.1 (cell := cl) (by rw [eT]; exact A.1) (State.isArrayOf_alike O.2.2.2.2.2.1.alike A.2.1) (g := mkF m pc Ls (.ref a :: st)) rfl (rest := st) rfl (hb O.2.1 hd) _ (by rw [e1]; exact hr)
theorem Go.ldI {a : Addr} {vs : List Value} {j : Int32} {k : Nat} {v : Value} (hA : Ary Z h a .int vs) (hj : j.toInt = (k : Int)) (hv : vs[k]? = some v) (hd : decode bytes pc = .ok (.iaload, 1)) (hp : pc + 1 = pc') (q : Go wd l R Z y bytes maxL ret n0 K N Q h cells slots pc' Ls (v :: st)) : Go wd l R Z y bytes maxL ret n0 K N Q h cells slots pc Ls (.int j :: .ref a :: st) := by
  subst hp
  obtain ⟨cl, A, r⟩ := hA
  exact Go.of q fun p e s m args below meth c T locs O X eT t hr => X.iaload O.1 (j := j) (v := v) (by rw [eT]; exact A.1) (State.isArrayOf_alike O.2.2.2.2.2.1.alike A.2.1) A.2.2 (inb hj r (lt_of_get hv)) (by rw [clamp_of hj, r]; simpa using hv) (g := mkF m pc Ls (.int j :: .ref a :: st)) rfl rfl (hb O.2.1 hd) _ hr
theorem Go.ldJ {a : Addr} {vs : List Value} {j : Int32} {k : Nat} {v : Value} (hA : Ary Z h a .long vs) (hj : j.toInt = (k : Int)) (hv : vs[k]? = some v) (hd : decode bytes pc = .ok (.laload, 1)) (hp : pc + 1 = pc') (q : Go wd l R Z y bytes maxL ret n0 K N Q h cells slots pc' Ls (v :: st)) : Go wd l R Z y bytes maxL ret n0 K N Q h cells slots pc Ls (.int j :: .ref a :: st) := by
  subst hp
  obtain ⟨cl, A, r⟩ := hA
  exact Go.of q fun p e s m args below meth c T locs O X eT t hr => X.laload O.1 (j := j) (v := v) (by rw [eT]; exact A.1) (State.isArrayOf_alike O.2.2.2.2.2.1.alike A.2.1) A.2.2 (inb hj r (lt_of_get hv)) (by rw [clamp_of hj, r]; simpa using hv) (g := mkF m pc Ls (.int j :: .ref a :: st)) rfl rfl (hb O.2.1 hd) _ hr
theorem Go.ldC {a : Addr} {vs : List Value} {j : Int32} {k : Nat} {v : Value} (hA : Ary Z h a .char vs) (hj : j.toInt = (k : Int)) (hv : vs[k]? = some v) (hd : decode bytes pc = .ok (.caload, 1)) (hp : pc + 1 = pc') (q : Go wd l R Z y bytes maxL ret n0 K N Q h cells slots pc' Ls (v :: st)) : Go wd l R Z y bytes maxL ret n0 K N Q h cells slots pc Ls (.int j :: .ref a :: st) := by
  subst hp
  obtain ⟨cl, A, r⟩ := hA
  exact Go.of q fun p e s m args below meth c T locs O X eT t hr => X.caload O.1 (j := j) (v := v) (by rw [eT]; exact A.1) (State.isArrayOf_alike O.2.2.2.2.2.1.alike A.2.1) A.2.2 (inb hj r (lt_of_get hv)) (by rw [clamp_of hj, r]; simpa using hv) (g := mkF m pc Ls (.int j :: .ref a :: st)) rfl rfl (hb O.2.1 hd) _ hr
theorem Go.ldA {a : Addr} {ty : FieldType} {vs : List Value} {j : Int32} {k : Nat} {v : Value} (hA : Ary Z h a ty vs) (hty : ty.isReference = true) (hj : j.toInt = (k : Int)) (hv : vs[k]? = some v) (hd : decode bytes pc = .ok (.aaload, 1)) (hp : pc + 1 = pc') (q : Go wd l R Z y bytes maxL ret n0 K N Q h cells slots pc' Ls (v :: st)) : Go wd l R Z y bytes maxL ret n0 K N Q h cells slots pc Ls (.int j :: .ref a :: st) := by
  subst hp
  obtain ⟨cl, A, r⟩ := hA
  exact Go.of q fun p e s m args below meth c T locs O X eT t hr => X.aaload O.1 (j := j) (v := v) (by rw [eT]; exact A.1) (State.isArrayOf_alike O.2.2.2.2.2.1.alike A.2.1) hty A.2.2 (inb hj r (lt_of_get hv)) (by rw [clamp_of hj, r]; simpa using hv) (g := mkF m pc Ls (.int j :: .ref a :: st)) rfl rfl (hb O.2.1 hd) _ hr
theorem Go.stI {a : Addr} {vs : List Value} {j v : Int32} {k : Nat} (hA : Ary Z h a .int vs) (hj : j.toInt = (k : Int)) (hk : k < vs.length) (hd : decode bytes pc = .ok (.iastore, 1)) (ha : n0 ≤ a) (hp : pc + 1 = pc')
    (q : ∀ h', Wr h h' a k (.int v) → Ary Z h' a .int (vs.set k (.int v)) → Go wd l R Z y bytes maxL ret n0 K N Q h' cells slots pc' Ls st) : Go wd l R Z y bytes maxL ret n0 K N Q h cells slots pc Ls (.int v :: .int j :: .ref a :: st) := by
  subst hp
  have hA' := hA
  obtain ⟨cl, A, r⟩ := hA
  intro p e s0 s m args below meth c T locs hR O X eT F
  obtain ⟨T2, h2, X2, e2, W2, st2⟩ := RoadKit.stI X O.1 O.2.2.2.2.2.1 eT A (j := j) (x := v) (inb hj r hk) (g := mkF m pc Ls (.int v :: .int j :: .ref a :: st)) rfl rfl (hb O.2.1 hd)
  rw [clamp_of hj] at X2 W2
  obtain ⟨s₂, o, h1, r⟩ := q h2 W2 (hA'.set W2) p e s0 s m args below meth c T2 _ (hR.mono (Nat.le_of_eq W2.size.symm)) O X2 e2 (Fr.snoc X2 F ha)
  exact ⟨s₂, o, st2 _ h1, r⟩
theorem Go.stJ {a : Addr} {vs : List Value} {j : Int32} {v : Int64} {k : Nat} (hA : Ary Z h a .long vs) (hj : j.toInt = (k : Int)) (hk : k < vs.length) (hd : decode bytes pc = .ok (.lastore, 1)) (ha : n0 ≤ a) (hp : pc + 1 = pc')
    (q : ∀ h', Wr h h' a k (.long v) → Ary Z h' a .long (vs.set k (.long v)) → Go wd l R Z y bytes maxL ret n0 K N Q h' cells slots pc' Ls st) : Go wd l R Z y bytes maxL ret n0 K N Q h cells slots pc Ls (.long v :: .int j :: .ref a :: st) := by
  subst hp
  have hA' := hA
  obtain ⟨cl, A, r⟩ := hA
  intro p e s0 s m args below meth c T locs hR O X eT F
  obtain ⟨T2, h2, X2, e2, W2, st2⟩ := RoadKit.stJ X O.1 O.2.2.2.2.2.1 eT A (j := j) (x := v) (inb hj r hk) (g := mkF m pc Ls (.long v :: .int j :: .ref a :: st)) rfl rfl (hb O.2.1 hd)
  rw [clamp_of hj] at X2 W2
  obtain ⟨s₂, o, h1, r⟩ := q h2 W2 (hA'.set W2) p e s0 s m args below meth c T2 _ (hR.mono (Nat.le_of_eq W2.size.symm)) O X2 e2 (Fr.snoc X2 F ha)
  exact ⟨s₂, o, st2 _ h1, r⟩
theorem Go.stC {a : Addr} {vs : List Value} {j v : Int32} {k : Nat} (hA : Ary Z h a .char vs) (hj : j.toInt = (k : Int)) (hk : k < vs.length) (hd : decode bytes pc = .ok (.castore, 1)) (ha : n0 ≤ a) (hp : pc + 1 = pc')
    (q : ∀ h', Wr h h' a k (.int (nar .char v)) → Ary Z h' a .char (vs.set k (.int (nar .char v))) → Go wd l R Z y bytes maxL ret n0 K N Q h' cells slots pc' Ls st) : Go wd l R Z y bytes maxL ret n0 K N Q h cells slots pc Ls (.int v :: .int j :: .ref a :: st) := by
  subst hp
  have hA' := hA
  obtain ⟨cl, A, r⟩ := hA
  intro p e s0 s m args below meth c T locs hR O X eT F
  obtain ⟨T2, h2, X2, e2, W2, st2⟩ := RoadKit.stC X O.1 O.2.2.2.2.2.1 eT A (j := j) (x := v) (inb hj r hk) (g := mkF m pc Ls (.int v :: .int j :: .ref a :: st)) rfl rfl (hb O.2.1 hd)
  rw [clamp_of hj] at X2 W2
  obtain ⟨s₂, o, h1, r⟩ := q h2 W2 (hA'.set W2) p e s0 s m args below meth c T2 _ (hR.mono (Nat.le_of_eq W2.size.symm)) O X2 e2 (Fr.snoc X2 F ha)
  exact ⟨s₂, o, st2 _ h1, r⟩
/-! a method by its contract -/
def Mt (wd : Bool) (l : Launch) (Z : State) (y : MethodName) (bytes : ByteArray) (maxL : Nat) (ret : Option FieldType) (rm : Room) (n0 : Nat) (Q : Option Value → Heap → Prop) (h : Heap) (as' : Array Value) : Prop :=
  MetFree l y (head1 [Cond.code y bytes maxL ret] rm) (fun a U => a = as' ∧ Z.Warmed39 U.vm ∧ U.heap = h) (fun _ _ _ _ _ => True) (fun _ U o U' => ∃ v L, o = .returned v ∧ ((Q v U'.heap ∧ h.size ≤ U'.heap.size) ∧ Fr n0 L) ∧ GoEnd wd U o U' L rm.cells rm.slots)
theorem met_go {rm : Room} {ws : List Jvm.Cond} {as' : Array Value} (hp : plainFor y = true) (hef : ∀ m, entryFrame m as' maxL = mkF m 0 Ls []) (g : Go wd l rm Z y bytes maxL ret n0 K N Q h 0 0 0 Ls []) :
    MetFree l y (head1 (Jvm.Cond.code y bytes maxL ret :: ws) rm) (fun a U => a = as' ∧ Z.Warmed39 U.vm ∧ U.heap = h) (fun _ _ _ _ _ => True) (fun _ U o U' => ∃ v L, o = .returned v ∧ ((Q v U'.heap ∧ h.size ≤ U'.heap.size) ∧ Fr n0 L) ∧ GoEnd wd U o U' L K N) := by
  refine MetFree.of_bodySF hp hisR ?_
  intro p e s m args below meth c s₁ Bd hml0 hP hK
  obtain ⟨rfl, hZ, hh⟩ := hP
  have O : Own Z y bytes maxL ret p s m meth c := ⟨Bd.exec, Bd.bytes, hml0, findClass_of_methodNamed Bd.named, (name_of_methodNamed Bd.named Bd.method).1, hZ, Bd.returns, Bd.notSynchronized⟩
  have X0 : Stand p l e rm s m args below meth c s₁ [] 0 0 := Stand.of_body Bd
  have e0 : s₁.heap = h := by rw [← hh, Bd.state]; rfl
  obtain ⟨s₂, o, h1, h2, h3, v, L, h4, h5, h6⟩ := g p e s s m args below meth c s₁ [] (GoRel.refl _ _ _) O X0 e0 (Fr.nil n0)
  exact ⟨s₂, o, castTop (hef m) h1, h2, h3, v, L, h4, ⟨⟨h5.1, hh ▸ h6.grow⟩, h5.2⟩, h6⟩
theorem Mt.go {rm : Room} {as' : Array Value} (hp : plainFor y = true) (hef : ∀ m, entryFrame m as' maxL = mkF m 0 Ls []) (g : Go wd l rm Z y bytes maxL ret n0 rm.cells rm.slots Q h 0 0 0 Ls []) : Mt wd l Z y bytes maxL ret rm n0 Q h as' := met_go (ws := []) hp hef g
variable {y2 : MethodName} {bytes2 : ByteArray} {maxL2 : Nat} {ret2 : Option FieldType} {rm : Room} {i W : Nat} {as' : Array Value} {argsL rest : List Value} {Q2 : Option Value → Heap → Prop} {ps : List FieldType} {r2 : Option FieldType}
theorem Go.callS (w1 : (Cond.methodLink y.cls i y2).before a0 Z = true) (w2 : (Cond.static y2).before a0 Z = true) (w3 : (Cond.initialized y2.cls).before a0 Z = true) (w4 : (Cond.code y2 bytes2 maxL2 ret2).before a0 Z = true) (hy : y2.cls ≠ "java/lang/invoke/MethodHandle" ∧ y2.cls ≠ "java/lang/invoke/VarHandle")
    (hM : Mt false l Z y2 bytes2 maxL2 ret2 rm n0 Q2 h argsL.toArray) (hd : decode bytes pc = .ok (.invokestatic i, 3)) (hz : Ls.size = maxL) (hpd : parseMethodDescriptor y2.desc = some ⟨ps, r2⟩) (hlen : argsL.length = ps.length) (hst : st = argsL.reverse ++ rest)
    (hW : (rest.map fun v => v.category).sum ≤ W) (hf : rm.frames + 1 ≤ R.frames) (hl : W + (maxL2 + 11) + rm.locals ≤ R.locals) (hc : cells + rm.cells ≤ R.cells) (hs : slots + rm.slots ≤ R.slots) (hp : pc + 3 = pc')
    (q : ∀ v h', Q2 v h' → Go wd l R Z y bytes maxL ret n0 K N Q h' (cells + rm.cells) (slots + rm.slots) pc' Ls (v.toList ++ rest)) : Go wd l R Z y bytes maxL ret n0 K N Q h cells slots pc Ls st := by
  subst hp hst
  intro p e s0 s m args below meth c T locs hR O X eT F
  obtain ⟨v, vm₁, ⟨T2, L2, k2, n2⟩, -, X2, ⟨Lc, hQ, l2, y2, z2⟩, st2⟩ := Jvm.LawKit.callS X O.1 (y := y2) O.2.2.2.1 (mvT O.2.2.2.2.2.1 w1) (mvT O.2.2.2.2.2.1 w2) (mvT O.2.2.2.2.2.1 w3) (mvT O.2.2.2.2.2.1 w4) hy
    (backOf (W := W) (Q := fun v h' L => (Q2 v h' ∧ h.size ≤ h'.size) ∧ Fr n0 L) hM O.2.2.2.2.2.1 w4 w3 hf hl) (g := mkF m pc Ls (argsL.reverse ++ rest)) rfl (hz.trans O.2.2.1.symm) (argsL := argsL) (rest := rest) (lenOf hpd hlen) rfl (by show 2 * 0 + _ ≤ _; omega) (hb O.2.1 hd) (fun _ _ => ⟨rfl, eT, hc, hs⟩)
  dsimp only [Pt.U, Pt.locs, Pt.cells, Pt.slots] at X2 l2 y2 z2 st2 hQ
  subst l2 y2 z2
  obtain ⟨s₂, o, h1, r⟩ := q v T2.heap hQ.1.1 p e s0 s m args below meth c T2 _ (hR.mono hQ.1.2) O X2 rfl (Fr.app F hQ.2)
  exact ⟨s₂, o, st2 _ h1, r⟩
theorem Go.callN {a : Addr} (hy1 : y2.name = "<init>") (w1 : (Cond.methodLink y.cls i y2).before a0 Z = true) (w2 : (Cond.instanceMethod y2).before a0 Z = true) (w3 : (Cond.initialized y2.cls).before a0 Z = true) (w4 : (Cond.code y2 bytes2 maxL2 none).before a0 Z = true) (hy : y2.cls ≠ "java/lang/invoke/MethodHandle" ∧ y2.cls ≠ "java/lang/invoke/VarHandle")
    (hM : Mt false l Z y2 bytes2 maxL2 none rm n0 Q2 h (.ref a :: argsL).toArray) (hd : decode bytes pc = .ok (.invokespecial i, 3)) (hz : Ls.size = maxL) (hpd : parseMethodDescriptor y2.desc = some ⟨ps, r2⟩) (hlen : argsL.length = ps.length) (hst : st = argsL.reverse ++ .ref a :: rest)
    (hW : (rest.map fun v => v.category).sum ≤ W) (hf : rm.frames + 1 ≤ R.frames) (hl : W + (maxL2 + 11) + rm.locals ≤ R.locals) (hc : cells + rm.cells ≤ R.cells) (hs : slots + rm.slots ≤ R.slots) (hp : pc + 3 = pc')
    (q : ∀ v h', Q2 v h' → Go wd l R Z y bytes maxL ret n0 K N Q h' (cells + rm.cells) (slots + rm.slots) pc' Ls (v.toList ++ rest)) : Go wd l R Z y bytes maxL ret n0 K N Q h cells slots pc Ls st := by
  subst hp hst
  intro p e s0 s m args below meth c T locs hR O X eT F
  obtain ⟨v, vm₁, ⟨T2, L2, k2, n2⟩, -, X2, ⟨Lc, hQ, l2, y2, z2⟩, st2⟩ := X.specialBack O.1 (y := y2) hy1 O.2.2.2.1 (mvT O.2.2.2.2.2.1 w1) (mvT O.2.2.2.2.2.1 w2) (mvT O.2.2.2.2.2.1 w4) hy
    (backOf (W := W) (Q := fun v h' L => (Q2 v h' ∧ h.size ≤ h'.size) ∧ Fr n0 L) hM O.2.2.2.2.2.1 w4 w3 hf hl) (g := mkF m pc Ls (argsL.reverse ++ .ref a :: rest)) rfl (hz.trans O.2.2.1.symm) (Steps.refl _) (a := a) (argsL := argsL) (rest := rest) (lenOf hpd hlen) rfl (by show 2 * 0 + _ ≤ _; omega) (hb O.2.1 hd) (fun _ _ => ⟨rfl, eT, hc, hs⟩)
  dsimp only [Pt.U, Pt.locs, Pt.cells, Pt.slots] at X2 l2 y2 z2 st2 hQ
  subst l2 y2 z2
  obtain ⟨s₂, o, h1, r⟩ := q v T2.heap hQ.1.1 p e s0 s m args below meth c T2 _ (hR.mono hQ.1.2) O X2 rfl (Fr.app F hQ.2)
  exact ⟨s₂, o, st2.trans h1, r⟩
theorem Go.callV {a : Addr} {C : String} (w1 : (Cond.methodLink y.cls i y2).before a0 Z = true) (w2 : (Cond.declares y2).before a0 Z = true) (w5 : (Cond.selects C y2 y2).before a0 Z = true) (w6 : (Cond.instanceMethod y2).before a0 Z = true) (w3 : (Cond.initialized y2.cls).before a0 Z = true) (w4 : (Cond.code y2 bytes2 maxL2 ret2).before a0 Z = true)
    (hy : y2.cls ≠ "java/lang/invoke/MethodHandle" ∧ y2.cls ≠ "java/lang/invoke/VarHandle") (hE : Exa Z h a C)
    (hM : Mt false l Z y2 bytes2 maxL2 ret2 rm n0 Q2 h (.ref a :: argsL).toArray) (hd : decode bytes pc = .ok (.invokevirtual i, 3)) (hz : Ls.size = maxL) (hpd : parseMethodDescriptor y2.desc = some ⟨ps, r2⟩) (hlen : argsL.length = ps.length) (hst : st = argsL.reverse ++ .ref a :: rest)
    (hW : (rest.map fun v => v.category).sum ≤ W) (hf : rm.frames + 1 ≤ R.frames) (hl : W + (maxL2 + 11) + rm.locals ≤ R.locals) (hc : cells + rm.cells ≤ R.cells) (hs : slots + rm.slots ≤ R.slots) (hp : pc + 3 = pc')
    (q : ∀ v h', Q2 v h' → Go wd l R Z y bytes maxL ret n0 K N Q h' (cells + rm.cells) (slots + rm.slots) pc' Ls (v.toList ++ rest)) : Go wd l R Z y bytes maxL ret n0 K N Q h cells slots pc Ls st := by
  subst hp hst
  intro p e s0 s m args below meth c T locs hR O X eT F
  obtain ⟨cq, kq, qa, qb, qc⟩ := isOf (T := T) O.2.2.2.2.2.1 eT hE
  obtain ⟨v, vm₁, ⟨T2, L2, k2, n2⟩, -, X2, ⟨Lc, hQ, l2, y2, z2⟩, st2⟩ := X.virtualBack O.1 (y := y2) (z := y2) O.2.2.2.1 (mvT O.2.2.2.2.2.1 w1) (mvT O.2.2.2.2.2.1 w2) (notFace_of_selects (args := #[]) (mvT O.2.2.2.2.2.1 w5)) (mvT O.2.2.2.2.2.1 w5) (mvT O.2.2.2.2.2.1 w6) hy
    (backOf (W := W) (Q := fun v h' L => (Q2 v h' ∧ h.size ≤ h'.size) ∧ Fr n0 L) hM O.2.2.2.2.2.1 w4 w3 hf hl) qa qc (g := mkF m pc Ls (argsL.reverse ++ .ref a :: rest)) rfl (hz.trans O.2.2.1.symm) (Steps.refl _) (argsL := argsL) (rest := rest) (lenOf hpd hlen) rfl (by show 2 * 0 + _ ≤ _; omega) (hb O.2.1 hd) (fun _ _ => ⟨rfl, eT, hc, hs⟩)
  dsimp only [Pt.U, Pt.locs, Pt.cells, Pt.slots] at X2 l2 y2 z2 st2 hQ
  subst l2 y2 z2
  obtain ⟨s₂, o, h1, r⟩ := q v T2.heap hQ.1.1 p e s0 s m args below meth c T2 _ (hR.mono hQ.1.2) O X2 rfl (Fr.app F hQ.2)
  exact ⟨s₂, o, st2.trans h1, r⟩
end GoLaws
end Jvm.RoadKit
namespace Jvm.RoadKit
open Sem ClassFile Op Lib Jvm.Stand Jvm.Free Jvm.LawKit
section GoUp
variable {wd : Bool} {l : Launch} {R : Room} {Z : State} {y : MethodName} {bytes : ByteArray} {maxL : Nat} {ret : Option FieldType} {n0 K N : Nat} {Q : Option Value → Heap → Prop} {h : Heap} {cells slots pc pc' : Nat} {Ls Ls' : Array Slot} {st st' : List Value} {a0 : Array Value}
variable {y2 : MethodName} {bytes2 : ByteArray} {maxL2 : Nat} {ret2 : Option FieldType} {rm : Room} {i W : Nat} {as' : Array Value} {argsL rest : List Value} {Q2 : Option Value → Heap → Prop} {ps : List FieldType} {r2 : Option FieldType}
theorem Go.tsw {dflt low high : Int} {offs : Array Int} {len : Nat} {o : Int} {j : Int32} (hd : decode bytes pc = .ok (.tableswitch dflt low high offs, len)) (hin : ¬ (j.toInt < low ∨ j.toInt > high)) (hoff : offs[(j.toInt - low).toNat]? = some o) (ho : 0 ≤ (pc : Int) + o) (hp : ((pc : Int) + o).toNat = pc')
    (q : Go wd l R Z y bytes maxL ret n0 K N Q h cells slots pc' Ls st) : Go wd l R Z y bytes maxL ret n0 K N Q h cells slots pc Ls (.int j :: st) :=
  Go.of q fun p e s m args below meth c T locs O X eT t hr => XS.tswIn X.here O.1 rfl (pc0 := pc) rfl (hb O.2.1 hd) rfl hin hoff ho hp hr
theorem Go.callU {a : Addr} {C owner : String} {y3 : MethodName} (w1 : (Cond.methodLink y.cls i y3).before a0 Z = true) (w7 : (Cond.sameMethod y3.cls owner y3.name y3.desc).before a0 Z = true) (w2 : (Cond.declares ⟨owner, y3.name, y3.desc⟩).before a0 Z = true) (w5 : (Cond.selects C y3 y2).before a0 Z = true) (w6 : (Cond.instanceMethod y2).before a0 Z = true) (w3 : (Cond.initialized y2.cls).before a0 Z = true) (w4 : (Cond.code y2 bytes2 maxL2 ret2).before a0 Z = true)
    (hy : owner ≠ "java/lang/invoke/MethodHandle" ∧ owner ≠ "java/lang/invoke/VarHandle") (hE : Exa Z h a C)
    (hM : Mt false l Z y2 bytes2 maxL2 ret2 rm n0 Q2 h (.ref a :: argsL).toArray) (hd : decode bytes pc = .ok (.invokevirtual i, 3)) (hz : Ls.size = maxL) (hpd : parseMethodDescriptor y3.desc = some ⟨ps, r2⟩) (hlen : argsL.length = ps.length) (hst : st = argsL.reverse ++ .ref a :: rest)
    (hW : (rest.map fun v => v.category).sum ≤ W) (hf : rm.frames + 1 ≤ R.frames) (hl : W + (maxL2 + 11) + rm.locals ≤ R.locals) (hc : cells + rm.cells ≤ R.cells) (hs : slots + rm.slots ≤ R.slots) (hp : pc + 3 = pc')
    (q : ∀ v h', Q2 v h' → Go wd l R Z y bytes maxL ret n0 K N Q h' (cells + rm.cells) (slots + rm.slots) pc' Ls (v.toList ++ rest)) : Go wd l R Z y bytes maxL ret n0 K N Q h cells slots pc Ls st := by
  subst hp hst
  intro p e s0 s m args below meth c T locs hR O X eT F
  obtain ⟨cq, kq, qa, qb, qc⟩ := isOf (T := T) O.2.2.2.2.2.1 eT hE
  obtain ⟨v, vm₁, ⟨T2, L2, k2, n2⟩, -, X2, ⟨Lc, hQ, l2, y2, z2⟩, st2⟩ := X.virtualBackUp O.1 (x := y3) (y := y2) (owner := owner) O.2.2.2.1 (mvT O.2.2.2.2.2.1 w1) (mvT O.2.2.2.2.2.1 w7) (mvT O.2.2.2.2.2.1 w2) hy (mvT O.2.2.2.2.2.1 w5) (mvT O.2.2.2.2.2.1 w6)
    (backOf (W := W) (Q := fun v h' L => (Q2 v h' ∧ h.size ≤ h'.size) ∧ Fr n0 L) hM O.2.2.2.2.2.1 w4 w3 hf hl) qa qc (g := mkF m pc Ls (argsL.reverse ++ .ref a :: rest)) rfl (hz.trans O.2.2.1.symm) (Steps.refl _) (argsL := argsL) (rest := rest) (lenOf hpd hlen) rfl (by show 2 * 0 + _ ≤ _; omega) (hb O.2.1 hd) (fun _ _ => ⟨rfl, eT, hc, hs⟩)
  dsimp only [Pt.U, Pt.locs, Pt.cells, Pt.slots] at X2 l2 y2 z2 st2 hQ
  subst l2 y2 z2
  obtain ⟨s₂, o, h1, r⟩ := q v T2.heap hQ.1.1 p e s0 s m args below meth c T2 _ (hR.mono hQ.1.2) O X2 rfl (Fr.app F hQ.2)
  exact ⟨s₂, o, st2.trans h1, r⟩
end GoUp
end Jvm.RoadKit
namespace Jvm.Pilot.@@N@@
open Jvm Jvm.ClassFile Sem Op Lib Jvm.Free Jvm.Stand Jvm.LawKit Jvm.RoadKit Bundle Jvm.Pilot.@@N@@.Jvm.D
theorem d1_0 : decode method_2_code 0 = .ok (.iload_n 0, 1) := by decide +kernel
theorem d1_1 : decode method_2_code 1 = .ok (.ifCond .ne 7, 3) := by decide +kernel
theorem d1_4 : decode method_2_code 4 = .ok (.getstatic 7, 3) := by decide +kernel
theorem d1_7 : decode method_2_code 7 = .ok (.areturn, 1) := by decide +kernel
theorem d1_8 : decode method_2_code 8 = .ok (.iload_n 0, 1) := by decide +kernel
theorem d1_9 : decode method_2_code 9 = .ok (.iconst 1, 1) := by decide +kernel
theorem d1_10 : decode method_2_code 10 = .ok (.if_icmp .ne 7, 3) := by decide +kernel
theorem d1_13 : decode method_2_code 13 = .ok (.getstatic 13, 3) := by decide +kernel
theorem d1_16 : decode method_2_code 16 = .ok (.areturn, 1) := by decide +kernel
theorem d1_17 : decode method_2_code 17 = .ok (.iload_n 0, 1) := by decide +kernel
theorem d1_18 : decode method_2_code 18 = .ok (.iconst 2, 1) := by decide +kernel
theorem d1_19 : decode method_2_code 19 = .ok (.if_icmp .ne 7, 3) := by decide +kernel
theorem d1_22 : decode method_2_code 22 = .ok (.getstatic 16, 3) := by decide +kernel
theorem d1_25 : decode method_2_code 25 = .ok (.areturn, 1) := by decide +kernel
theorem d1_26 : decode method_2_code 26 = .ok (.iload_n 0, 1) := by decide +kernel
theorem d1_27 : decode method_2_code 27 = .ok (.iconst 3, 1) := by decide +kernel
theorem d1_28 : decode method_2_code 28 = .ok (.if_icmp .ne 7, 3) := by decide +kernel
theorem d1_31 : decode method_2_code 31 = .ok (.getstatic 19, 3) := by decide +kernel
theorem d1_34 : decode method_2_code 34 = .ok (.areturn, 1) := by decide +kernel
theorem d1_35 : decode method_2_code 35 = .ok (.iload_n 0, 1) := by decide +kernel
theorem d1_36 : decode method_2_code 36 = .ok (.iconst 4, 1) := by decide +kernel
theorem d1_37 : decode method_2_code 37 = .ok (.if_icmp .ne 7, 3) := by decide +kernel
theorem d1_40 : decode method_2_code 40 = .ok (.getstatic 22, 3) := by decide +kernel
theorem d1_43 : decode method_2_code 43 = .ok (.areturn, 1) := by decide +kernel
theorem d1_44 : decode method_2_code 44 = .ok (.iload_n 0, 1) := by decide +kernel
theorem d1_45 : decode method_2_code 45 = .ok (.iconst 5, 1) := by decide +kernel
theorem d1_46 : decode method_2_code 46 = .ok (.if_icmp .ne 7, 3) := by decide +kernel
theorem d1_49 : decode method_2_code 49 = .ok (.getstatic 25, 3) := by decide +kernel
theorem d1_52 : decode method_2_code 52 = .ok (.areturn, 1) := by decide +kernel
theorem d1_53 : decode method_2_code 53 = .ok (.iload_n 0, 1) := by decide +kernel
theorem d1_54 : decode method_2_code 54 = .ok (.bipush 6, 2) := by decide +kernel
theorem d1_56 : decode method_2_code 56 = .ok (.if_icmp .ne 7, 3) := by decide +kernel
theorem d1_59 : decode method_2_code 59 = .ok (.getstatic 28, 3) := by decide +kernel
theorem d1_62 : decode method_2_code 62 = .ok (.areturn, 1) := by decide +kernel
theorem d1_63 : decode method_2_code 63 = .ok (.getstatic 31, 3) := by decide +kernel
theorem d1_66 : decode method_2_code 66 = .ok (.areturn, 1) := by decide +kernel
theorem d2_0 : decode prog_15_method_4_code 0 = .ok (.aload_n 0, 1) := by decide +kernel
theorem d2_1 : decode prog_15_method_4_code 1 = .ok (.invokevirtual 47, 3) := by decide +kernel
theorem d2_4 : decode prog_15_method_4_code 4 = .ok (.tableswitch 48 0 7 #[58, 70, 74, 78, 93, 112, 127, 131], 48) := by decide +kernel
theorem d2_62 : decode prog_15_method_4_code 62 = .ok (.iload_n 1, 1) := by decide +kernel
theorem d2_63 : decode prog_15_method_4_code 63 = .ok (.ifCond .ne 7, 3) := by decide +kernel
theorem d2_66 : decode prog_15_method_4_code 66 = .ok (.iconst 1, 1) := by decide +kernel
theorem d2_67 : decode prog_15_method_4_code 67 = .ok (.goto 83, 3) := by decide +kernel
theorem d2_70 : decode prog_15_method_4_code 70 = .ok (.iconst 0, 1) := by decide +kernel
theorem d2_71 : decode prog_15_method_4_code 71 = .ok (.goto 79, 3) := by decide +kernel
theorem d2_74 : decode prog_15_method_4_code 74 = .ok (.iconst 0, 1) := by decide +kernel
theorem d2_75 : decode prog_15_method_4_code 75 = .ok (.goto 75, 3) := by decide +kernel
theorem d2_78 : decode prog_15_method_4_code 78 = .ok (.iload_n 1, 1) := by decide +kernel
theorem d2_79 : decode prog_15_method_4_code 79 = .ok (.goto 71, 3) := by decide +kernel
theorem d2_82 : decode prog_15_method_4_code 82 = .ok (.lload 4, 2) := by decide +kernel
theorem d2_84 : decode prog_15_method_4_code 84 = .ok (.lconst 0, 1) := by decide +kernel
theorem d2_85 : decode prog_15_method_4_code 85 = .ok (.lcmp, 1) := by decide +kernel
theorem d2_86 : decode prog_15_method_4_code 86 = .ok (.ifCond .le 7, 3) := by decide +kernel
theorem d2_89 : decode prog_15_method_4_code 89 = .ok (.iconst 1, 1) := by decide +kernel
theorem d2_90 : decode prog_15_method_4_code 90 = .ok (.goto 60, 3) := by decide +kernel
theorem d2_93 : decode prog_15_method_4_code 93 = .ok (.iconst 0, 1) := by decide +kernel
theorem d2_94 : decode prog_15_method_4_code 94 = .ok (.goto 56, 3) := by decide +kernel
theorem d2_97 : decode prog_15_method_4_code 97 = .ok (.lload 4, 2) := by decide +kernel
theorem d2_99 : decode prog_15_method_4_code 99 = .ok (.lload_n 2, 1) := by decide +kernel
theorem d2_100 : decode prog_15_method_4_code 100 = .ok (.lconst 1, 1) := by decide +kernel
theorem d2_101 : decode prog_15_method_4_code 101 = .ok (.land, 1) := by decide +kernel
theorem d2_102 : decode prog_15_method_4_code 102 = .ok (.ladd, 1) := by decide +kernel
theorem d2_103 : decode prog_15_method_4_code 103 = .ok (.lconst 0, 1) := by decide +kernel
theorem d2_104 : decode prog_15_method_4_code 104 = .ok (.lcmp, 1) := by decide +kernel
theorem d2_105 : decode prog_15_method_4_code 105 = .ok (.ifCond .le 7, 3) := by decide +kernel
theorem d2_108 : decode prog_15_method_4_code 108 = .ok (.iconst 1, 1) := by decide +kernel
theorem d2_109 : decode prog_15_method_4_code 109 = .ok (.goto 41, 3) := by decide +kernel
theorem d2_112 : decode prog_15_method_4_code 112 = .ok (.iconst 0, 1) := by decide +kernel
theorem d2_113 : decode prog_15_method_4_code 113 = .ok (.goto 37, 3) := by decide +kernel
theorem d2_116 : decode prog_15_method_4_code 116 = .ok (.lload 4, 2) := by decide +kernel
theorem d2_118 : decode prog_15_method_4_code 118 = .ok (.lconst 0, 1) := by decide +kernel
theorem d2_119 : decode prog_15_method_4_code 119 = .ok (.lcmp, 1) := by decide +kernel
theorem d2_120 : decode prog_15_method_4_code 120 = .ok (.ifCond .lt 7, 3) := by decide +kernel
theorem d2_123 : decode prog_15_method_4_code 123 = .ok (.iconst 1, 1) := by decide +kernel
theorem d2_124 : decode prog_15_method_4_code 124 = .ok (.goto 26, 3) := by decide +kernel
theorem d2_127 : decode prog_15_method_4_code 127 = .ok (.iconst 0, 1) := by decide +kernel
theorem d2_128 : decode prog_15_method_4_code 128 = .ok (.goto 22, 3) := by decide +kernel
theorem d2_131 : decode prog_15_method_4_code 131 = .ok (.iconst 1, 1) := by decide +kernel
theorem d2_132 : decode prog_15_method_4_code 132 = .ok (.goto 18, 3) := by decide +kernel
theorem d2_135 : decode prog_15_method_4_code 135 = .ok (.lload_n 2, 1) := by decide +kernel
theorem d2_136 : decode prog_15_method_4_code 136 = .ok (.ldc2_w 56, 3) := by decide +kernel
theorem d2_139 : decode prog_15_method_4_code 139 = .ok (.lrem, 1) := by decide +kernel
theorem d2_140 : decode prog_15_method_4_code 140 = .ok (.lconst 0, 1) := by decide +kernel
theorem d2_141 : decode prog_15_method_4_code 141 = .ok (.lcmp, 1) := by decide +kernel
theorem d2_142 : decode prog_15_method_4_code 142 = .ok (.ifCond .ne 7, 3) := by decide +kernel
theorem d2_145 : decode prog_15_method_4_code 145 = .ok (.iconst 1, 1) := by decide +kernel
theorem d2_146 : decode prog_15_method_4_code 146 = .ok (.goto 4, 3) := by decide +kernel
theorem d2_149 : decode prog_15_method_4_code 149 = .ok (.iconst 0, 1) := by decide +kernel
theorem d2_150 : decode prog_15_method_4_code 150 = .ok (.ireturn, 1) := by decide +kernel
theorem d3_0 : decode jdk_37_method_2_code 0 = .ok (.aload_n 0, 1) := by decide +kernel
theorem d3_1 : decode jdk_37_method_2_code 1 = .ok (.getfield 7, 3) := by decide +kernel
theorem d3_4 : decode jdk_37_method_2_code 4 = .ok (.ireturn, 1) := by decide +kernel
theorem d4_0 : decode method_3_code 0 = .ok (.lload_n 2, 1) := by decide +kernel
theorem d4_1 : decode method_3_code 1 = .ok (.ldc2_w 34, 3) := by decide +kernel
theorem d4_4 : decode method_3_code 4 = .ok (.lrem, 1) := by decide +kernel
theorem d4_5 : decode method_3_code 5 = .ok (.invokestatic 36, 3) := by decide +kernel
theorem d4_8 : decode method_3_code 8 = .ok (.lstore 6, 2) := by decide +kernel
theorem d4_10 : decode method_3_code 10 = .ok (.lload 6, 2) := by decide +kernel
theorem d4_12 : decode method_3_code 12 = .ok (.lconst 1, 1) := by decide +kernel
theorem d4_13 : decode method_3_code 13 = .ok (.lcmp, 1) := by decide +kernel
theorem d4_14 : decode method_3_code 14 = .ok (.ifCond .eq 39, 3) := by decide +kernel
theorem d4_17 : decode method_3_code 17 = .ok (.lload 6, 2) := by decide +kernel
theorem d4_19 : decode method_3_code 19 = .ok (.ldc2_w 42, 3) := by decide +kernel
theorem d4_22 : decode method_3_code 22 = .ok (.lcmp, 1) := by decide +kernel
theorem d4_23 : decode method_3_code 23 = .ok (.ifCond .eq 30, 3) := by decide +kernel
theorem d4_26 : decode method_3_code 26 = .ok (.lload 6, 2) := by decide +kernel
theorem d4_28 : decode method_3_code 28 = .ok (.ldc2_w 44, 3) := by decide +kernel
theorem d4_31 : decode method_3_code 31 = .ok (.lcmp, 1) := by decide +kernel
theorem d4_32 : decode method_3_code 32 = .ok (.ifCond .eq 21, 3) := by decide +kernel
theorem d4_35 : decode method_3_code 35 = .ok (.lload 6, 2) := by decide +kernel
theorem d4_37 : decode method_3_code 37 = .ok (.ldc2_w 46, 3) := by decide +kernel
theorem d4_40 : decode method_3_code 40 = .ok (.lcmp, 1) := by decide +kernel
theorem d4_41 : decode method_3_code 41 = .ok (.ifCond .eq 12, 3) := by decide +kernel
theorem d4_44 : decode method_3_code 44 = .ok (.lload 6, 2) := by decide +kernel
theorem d4_46 : decode method_3_code 46 = .ok (.ldc2_w 48, 3) := by decide +kernel
theorem d4_49 : decode method_3_code 49 = .ok (.lcmp, 1) := by decide +kernel
theorem d4_50 : decode method_3_code 50 = .ok (.ifCond .ne 7, 3) := by decide +kernel
theorem d4_53 : decode method_3_code 53 = .ok (.iconst 1, 1) := by decide +kernel
theorem d4_54 : decode method_3_code 54 = .ok (.goto 4, 3) := by decide +kernel
theorem d4_57 : decode method_3_code 57 = .ok (.iconst 0, 1) := by decide +kernel
theorem d4_58 : decode method_3_code 58 = .ok (.istore 8, 2) := by decide +kernel
theorem d4_60 : decode method_3_code 60 = .ok (.lload 6, 2) := by decide +kernel
theorem d4_62 : decode method_3_code 62 = .ok (.lconst 0, 1) := by decide +kernel
theorem d4_63 : decode method_3_code 63 = .ok (.lcmp, 1) := by decide +kernel
theorem d4_64 : decode method_3_code 64 = .ok (.ifCond .eq 12, 3) := by decide +kernel
theorem d4_67 : decode method_3_code 67 = .ok (.lload 6, 2) := by decide +kernel
theorem d4_69 : decode method_3_code 69 = .ok (.ldc2_w 44, 3) := by decide +kernel
theorem d4_72 : decode method_3_code 72 = .ok (.lcmp, 1) := by decide +kernel
theorem d4_73 : decode method_3_code 73 = .ok (.ifCond .ne 7, 3) := by decide +kernel
theorem d4_76 : decode method_3_code 76 = .ok (.iconst 1, 1) := by decide +kernel
theorem d4_77 : decode method_3_code 77 = .ok (.goto 4, 3) := by decide +kernel
theorem d4_80 : decode method_3_code 80 = .ok (.iconst 0, 1) := by decide +kernel
theorem d4_81 : decode method_3_code 81 = .ok (.istore 9, 2) := by decide +kernel
theorem d4_83 : decode method_3_code 83 = .ok (.iload_n 0, 1) := by decide +kernel
theorem d4_84 : decode method_3_code 84 = .ok (.ifCond .ne 13, 3) := by decide +kernel
theorem d4_87 : decode method_3_code 87 = .ok (.iload_n 1, 1) := by decide +kernel
theorem d4_88 : decode method_3_code 88 = .ok (.ifCond .ne 7, 3) := by decide +kernel
theorem d4_91 : decode method_3_code 91 = .ok (.iconst 1, 1) := by decide +kernel
theorem d4_92 : decode method_3_code 92 = .ok (.goto 4, 3) := by decide +kernel
theorem d4_95 : decode method_3_code 95 = .ok (.iconst 0, 1) := by decide +kernel
theorem d4_96 : decode method_3_code 96 = .ok (.ireturn, 1) := by decide +kernel
theorem d4_97 : decode method_3_code 97 = .ok (.iload_n 0, 1) := by decide +kernel
theorem d4_98 : decode method_3_code 98 = .ok (.iconst 1, 1) := by decide +kernel
theorem d4_99 : decode method_3_code 99 = .ok (.if_icmp .ne 5, 3) := by decide +kernel
theorem d4_102 : decode method_3_code 102 = .ok (.iconst 0, 1) := by decide +kernel
theorem d4_103 : decode method_3_code 103 = .ok (.ireturn, 1) := by decide +kernel
theorem d4_104 : decode method_3_code 104 = .ok (.iload_n 0, 1) := by decide +kernel
theorem d4_105 : decode method_3_code 105 = .ok (.iconst 2, 1) := by decide +kernel
theorem d4_106 : decode method_3_code 106 = .ok (.if_icmp .ne 5, 3) := by decide +kernel
theorem d4_109 : decode method_3_code 109 = .ok (.iload_n 1, 1) := by decide +kernel
theorem d4_110 : decode method_3_code 110 = .ok (.ireturn, 1) := by decide +kernel
theorem d4_111 : decode method_3_code 111 = .ok (.iload_n 0, 1) := by decide +kernel
theorem d4_112 : decode method_3_code 112 = .ok (.iconst 3, 1) := by decide +kernel
theorem d4_113 : decode method_3_code 113 = .ok (.if_icmp .ne 16, 3) := by decide +kernel
theorem d4_116 : decode method_3_code 116 = .ok (.lload 4, 2) := by decide +kernel
theorem d4_118 : decode method_3_code 118 = .ok (.lconst 0, 1) := by decide +kernel
theorem d4_119 : decode method_3_code 119 = .ok (.lcmp, 1) := by decide +kernel
theorem d4_120 : decode method_3_code 120 = .ok (.ifCond .le 7, 3) := by decide +kernel
theorem d4_123 : decode method_3_code 123 = .ok (.iconst 1, 1) := by decide +kernel
theorem d4_124 : decode method_3_code 124 = .ok (.goto 4, 3) := by decide +kernel
theorem d4_127 : decode method_3_code 127 = .ok (.iconst 0, 1) := by decide +kernel
theorem d4_128 : decode method_3_code 128 = .ok (.ireturn, 1) := by decide +kernel
theorem d4_129 : decode method_3_code 129 = .ok (.iload_n 0, 1) := by decide +kernel
theorem d4_130 : decode method_3_code 130 = .ok (.iconst 4, 1) := by decide +kernel
theorem d4_131 : decode method_3_code 131 = .ok (.if_icmp .ne 24, 3) := by decide +kernel
theorem d4_134 : decode method_3_code 134 = .ok (.lload 4, 2) := by decide +kernel
theorem d4_136 : decode method_3_code 136 = .ok (.lconst 0, 1) := by decide +kernel
theorem d4_137 : decode method_3_code 137 = .ok (.lcmp, 1) := by decide +kernel
theorem d4_138 : decode method_3_code 138 = .ok (.ifCond .le 5, 3) := by decide +kernel
theorem d4_141 : decode method_3_code 141 = .ok (.iconst 1, 1) := by decide +kernel
theorem d4_142 : decode method_3_code 142 = .ok (.ireturn, 1) := by decide +kernel
theorem d4_143 : decode method_3_code 143 = .ok (.lload 4, 2) := by decide +kernel
theorem d4_145 : decode method_3_code 145 = .ok (.lconst 0, 1) := by decide +kernel
theorem d4_146 : decode method_3_code 146 = .ok (.lcmp, 1) := by decide +kernel
theorem d4_147 : decode method_3_code 147 = .ok (.ifCond .ge 5, 3) := by decide +kernel
theorem d4_150 : decode method_3_code 150 = .ok (.iconst 0, 1) := by decide +kernel
theorem d4_151 : decode method_3_code 151 = .ok (.ireturn, 1) := by decide +kernel
theorem d4_152 : decode method_3_code 152 = .ok (.iload 8, 2) := by decide +kernel
theorem d4_154 : decode method_3_code 154 = .ok (.ireturn, 1) := by decide +kernel
theorem d4_155 : decode method_3_code 155 = .ok (.iload_n 0, 1) := by decide +kernel
theorem d4_156 : decode method_3_code 156 = .ok (.iconst 5, 1) := by decide +kernel
theorem d4_157 : decode method_3_code 157 = .ok (.if_icmp .ne 16, 3) := by decide +kernel
theorem d4_160 : decode method_3_code 160 = .ok (.lload 4, 2) := by decide +kernel
theorem d4_162 : decode method_3_code 162 = .ok (.lconst 0, 1) := by decide +kernel
theorem d4_163 : decode method_3_code 163 = .ok (.lcmp, 1) := by decide +kernel
theorem d4_164 : decode method_3_code 164 = .ok (.ifCond .lt 7, 3) := by decide +kernel
theorem d4_167 : decode method_3_code 167 = .ok (.iconst 1, 1) := by decide +kernel
theorem d4_168 : decode method_3_code 168 = .ok (.goto 4, 3) := by decide +kernel
theorem d4_171 : decode method_3_code 171 = .ok (.iconst 0, 1) := by decide +kernel
theorem d4_172 : decode method_3_code 172 = .ok (.ireturn, 1) := by decide +kernel
theorem d4_173 : decode method_3_code 173 = .ok (.iload_n 0, 1) := by decide +kernel
theorem d4_174 : decode method_3_code 174 = .ok (.bipush 6, 2) := by decide +kernel
theorem d4_176 : decode method_3_code 176 = .ok (.if_icmp .ne 5, 3) := by decide +kernel
theorem d4_179 : decode method_3_code 179 = .ok (.iconst 1, 1) := by decide +kernel
theorem d4_180 : decode method_3_code 180 = .ok (.ireturn, 1) := by decide +kernel
theorem d4_181 : decode method_3_code 181 = .ok (.iload 9, 2) := by decide +kernel
theorem d4_183 : decode method_3_code 183 = .ok (.ireturn, 1) := by decide +kernel
theorem d5_0 : decode jdk_29_method_61_code 0 = .ok (.lload_n 0, 1) := by decide +kernel
theorem d5_1 : decode jdk_29_method_61_code 1 = .ok (.lconst 0, 1) := by decide +kernel
theorem d5_2 : decode jdk_29_method_61_code 2 = .ok (.lcmp, 1) := by decide +kernel
theorem d5_3 : decode jdk_29_method_61_code 3 = .ok (.ifCond .ge 8, 3) := by decide +kernel
theorem d5_6 : decode jdk_29_method_61_code 6 = .ok (.lload_n 0, 1) := by decide +kernel
theorem d5_7 : decode jdk_29_method_61_code 7 = .ok (.lneg, 1) := by decide +kernel
theorem d5_8 : decode jdk_29_method_61_code 8 = .ok (.goto 4, 3) := by decide +kernel
theorem d5_11 : decode jdk_29_method_61_code 11 = .ok (.lload_n 0, 1) := by decide +kernel
theorem d5_12 : decode jdk_29_method_61_code 12 = .ok (.lreturn, 1) := by decide +kernel
theorem pd0 : parseMethodDescriptor "()I" = some ⟨[], (some .int)⟩ := by decide +kernel
theorem pd1 : parseMethodDescriptor "(J)J" = some ⟨[.long], (some .long)⟩ := by decide +kernel
theorem pd2 : parseMethodDescriptor "(I)Lcom/example/tenscale/tenscale/Rounding;" = some ⟨[.int], (some (.object "com/example/tenscale/tenscale/Rounding"))⟩ := by decide +kernel
theorem pd3 : parseMethodDescriptor "(ZJJ)Z" = some ⟨[.boolean, .long, .long], (some .boolean)⟩ := by decide +kernel
theorem pd4 : parseMethodDescriptor "(IZJJ)Z" = some ⟨[.int, .boolean, .long, .long], (some .boolean)⟩ := by decide +kernel
theorem pn0 : plainName "com/example/tenscale/tenscale/RoundingRoundsUpPinLaw" = true := by first | (simp [plainName, overriddenIn]; done) | decide +kernel
theorem pn1 : plainName "com/example/tenscale/tenscale/Rounding" = true := by first | (simp [plainName, overriddenIn]; done) | decide +kernel

theorem own_b01 {s : Int32} (h : s.toInt = 0 ∨ s.toInt = 1) : s = 0 ∨ s = 1 := h.imp (fun q => Int32.toInt_inj.mp q) (fun q => Int32.toInt_inj.mp q)
theorem own_nar {s : Int32} (h : s.toInt = 0 ∨ s.toInt = 1) : nar .boolean s = s := by rcases own_b01 h with rfl | rfl <;> rfl
theorem own_eqI {args : Array Value} {s : State} {t : Term} {n : Int32} (h : (Jvm.Cond.eq t (.int n)).value args s none s [] = some true) : t.eval args s none [] s = some (.int n) := by
  obtain ⟨x, y, e1, e2, k, k'⟩ := cmp_v (Or.inl h)
  obtain rfl : y = .int n := (Option.some.inj (e2.symm.trans (Term.int_eval n)))
  obtain ⟨z, rfl⟩ : ∃ z, x = .int z := k'
  have q : (Jvm.Cond.eq t (.int n)).value args s none s [] = some (decide (z = n)) := by simp [Cond.value, e1, e2]
  rw [q] at h
  rw [e1, of_decide_eq_true (Option.some.inj h)]

set_option maxRecDepth 65536 in
set_option maxHeartbeats 40000000 in
theorem m_o (l : Launch) (Z : State) (a0 : Array Value) (hw : ∀ d ∈ tables_1, d.before a0 Z = true) (a : Addr) (o : Int32) (h0 : Heap) (n0 : Nat) (z0 : n0 ≤ h0.size) (hF : Fld Z h0 a "java/lang/Enum" "ordinal" "I" (.int o)) : Mt false l Z (⟨"java/lang/Enum", "ordinal", "()I"⟩ : MethodName) jdk_37_method_2_code 1 (some .int) ({ frames := 0, cells := 0, slots := 0, locals := 0 } : Room) n0 (fun v h => v = some (.int o) ∧ h0 = h) h0 #[(.ref a)] := by
  refine Mt.go (Ls := #[.val (.ref a)]) (by first | exact plainFor_of_name (by decide +kernel) | decide +kernel | (simp [plainFor]; done)) (fun m => by first | (simp [entryFrame, mkF, argsToLocals, Value.category]; done) | rfl) ?_
  show (Go false l ({ frames := 0, cells := 0, slots := 0, locals := 0 } : Room) Z (⟨"java/lang/Enum", "ordinal", "()I"⟩ : MethodName) jdk_37_method_2_code 1 (some .int) n0 0 0 (fun v h => v = some (.int o) ∧ h0 = h)) h0 0 0 0 #[.val (.ref a)] []
  refine Go.aloadN (pc' := 1) d3_0 rfl rfl rfl ?_
  refine Go.getF (pc' := 4) (hw _ (List.mem_of_getElem? (i := 21) rfl)) hF d3_1 rfl ?_
  exact Go.retI d3_4 rfl ⟨rfl, rfl⟩ (by decide) (by decide)
set_option maxRecDepth 65536 in
set_option maxHeartbeats 40000000 in
theorem m_abs (l : Launch) (Z : State) (a0 : Array Value) (hw : ∀ d ∈ tables_1, d.before a0 Z = true) (p : Int64) (h0 : Heap) (n0 : Nat) (z0 : n0 ≤ h0.size) (hp : -100 < p.toInt ∧ p.toInt < 100) : Mt false l Z (⟨"java/lang/Math", "abs", "(J)J"⟩ : MethodName) jdk_29_method_61_code 2 (some .long) ({ frames := 0, cells := 0, slots := 0, locals := 0 } : Room) n0 (fun v h => ∃ r : Int64, v = some (.long r) ∧ h0 = h ∧ ((0 ≤ p.toInt ∧ r.toInt = p.toInt) ∨ (p.toInt < 0 ∧ r.toInt = - p.toInt))) h0 #[(.long p)] := by
  refine Mt.go (Ls := #[.val (.long p), .second]) (by first | exact plainFor_of_name (by decide +kernel) | decide +kernel | (simp [plainFor]; done)) (fun m => by first | (simp [entryFrame, mkF, argsToLocals, Value.category]; done) | rfl) ?_
  show (Go false l ({ frames := 0, cells := 0, slots := 0, locals := 0 } : Room) Z (⟨"java/lang/Math", "abs", "(J)J"⟩ : MethodName) jdk_29_method_61_code 2 (some .long) n0 0 0 (fun v h => ∃ r : Int64, v = some (.long r) ∧ h0 = h ∧ ((0 ≤ p.toInt ∧ r.toInt = p.toInt) ∨ (p.toInt < 0 ∧ r.toInt = - p.toInt)))) h0 0 0 0 #[.val (.long p), .second] []
  refine Go.lloadN (pc' := 1) d5_0 rfl rfl ?_
  refine Go.lconst (pc' := 2) (v := (0 : Int64)) d5_1 rfl rfl ?_
  refine Go.lcmp (pc' := 3) d5_2 rfl ?_
  refine Go.ifw (pc1 := 11) (pc2 := 6) d5_3 (by decide) (by decide) rfl (fun (c_1 : (0 : Int) ≤ p.toInt) => ?_) (fun (c_1 : p.toInt < (0 : Int)) => ?_)
  · refine Go.lloadN (pc' := 12) d5_11 rfl rfl ?_
    exact Go.retL d5_12 rfl ⟨_, rfl, rfl, by omega⟩ (by decide) (by decide)
  · refine Go.lloadN (pc' := 7) d5_6 rfl rfl ?_
    refine Go.lneg (pc' := 8) d5_7 rfl ?_
    generalize ev_2 : -p = v_2
    have k_3 : v_2.toInt = - p.toInt := by
      rw [← ev_2]
      have := c_lneg p
      have := rng64 (-p)
      have := rng64 p
      omega
    refine Go.goto (pc' := 12) d5_8 (by decide) (by decide) ?_
    exact Go.retL d5_12 rfl ⟨_, rfl, rfl, by omega⟩ (by decide) (by decide)
set_option maxRecDepth 65536 in
set_option maxHeartbeats 40000000 in
theorem m_pick0 (l : Launch) (Z : State) (a0 : Array Value) (hw : ∀ d ∈ tables_1, d.before a0 Z = true) (a : Addr) (h0 : Heap) (n0 : Nat) (z0 : n0 ≤ h0.size) (hS : Sta Z h0 "com/example/tenscale/tenscale/Rounding" "CEILING" "Lcom/example/tenscale/tenscale/Rounding;" (.ref a)) : Mt false l Z (⟨"com/example/tenscale/tenscale/RoundingRoundsUpPinLaw", "pick", "(I)Lcom/example/tenscale/tenscale/Rounding;"⟩ : MethodName) method_2_code 1 (some (.object "com/example/tenscale/tenscale/Rounding")) ({ frames := 0, cells := 0, slots := 0, locals := 0 } : Room) n0 (fun v h => v = some (.ref a) ∧ h0 = h) h0 #[(.int (0 : Int32))] := by
  refine Mt.go (Ls := #[.val (.int (0 : Int32))]) (plainFor_of_name pn0) (fun m => by first | (simp [entryFrame, mkF, argsToLocals, Value.category]; done) | rfl) ?_
  show (Go false l ({ frames := 0, cells := 0, slots := 0, locals := 0 } : Room) Z (⟨"com/example/tenscale/tenscale/RoundingRoundsUpPinLaw", "pick", "(I)Lcom/example/tenscale/tenscale/Rounding;"⟩ : MethodName) method_2_code 1 (some (.object "com/example/tenscale/tenscale/Rounding")) n0 0 0 (fun v h => v = some (.ref a) ∧ h0 = h)) h0 0 0 0 #[.val (.int (0 : Int32))] []
  refine Go.iloadN (pc' := 1) d1_0 rfl rfl ?_
  refine Go.ifc (pc1 := 8) (pc2 := 4) d1_1 (by decide) (by decide) rfl (fun (c_4 : (0 : Int) ≠ 0) => ?_) (fun (c_4 : (0 : Int) = 0) => ?_)
  · exact absurd c_4 (by decide)
  refine Go.getS (pc' := 7) (hw _ (List.mem_of_getElem? (i := 6) rfl)) hS d1_4 rfl ?_
  exact Go.retA d1_7 rfl rfl rfl ⟨rfl, rfl⟩ (by decide) (by decide)
set_option maxRecDepth 65536 in
set_option maxHeartbeats 40000000 in
theorem m_up0 (l : Launch) (Z : State) (a0 : Array Value) (hw : ∀ d ∈ tables_1, d.before a0 Z = true) (a : Addr) (g : Int32) (k v : Int64) (h0 : Heap) (n0 : Nat) (z0 : n0 ≤ h0.size) (hE : Exa Z h0 a "com/example/tenscale/tenscale/Rounding") (hF : Fld Z h0 a "java/lang/Enum" "ordinal" "I" (.int (0 : Int32))) (hg : g.toInt = 0 ∨ g.toInt = 1) (hv : -9223372036854775808 < v.toInt ∧ v.toInt < 9223372036854775807) : Mt false l Z (⟨"com/example/tenscale/tenscale/Rounding", "roundsUp", "(ZJJ)Z"⟩ : MethodName) prog_15_method_4_code 6 (some .boolean) ({ frames := 1, cells := 0, slots := 0, locals := 30 } : Room) n0 (fun u h => ∃ r : Int32, u = some (.int r) ∧ h0 = h ∧ (r.toInt = 0 ∨ r.toInt = 1) ∧ (r.toInt = 1 ↔ (g.toInt = 0))) h0 #[(.ref a), (.int g), (.long k), (.long v)] := by
  refine Mt.go (Ls := #[.val (.ref a), .val (.int g), .val (.long k), .second, .val (.long v), .second]) (plainFor_of_name pn1) (fun m => by first | (simp [entryFrame, mkF, argsToLocals, Value.category]; done) | rfl) ?_
  show (Go false l ({ frames := 1, cells := 0, slots := 0, locals := 30 } : Room) Z (⟨"com/example/tenscale/tenscale/Rounding", "roundsUp", "(ZJJ)Z"⟩ : MethodName) prog_15_method_4_code 6 (some .boolean) n0 0 0 (fun u h => ∃ r : Int32, u = some (.int r) ∧ h0 = h ∧ (r.toInt = 0 ∨ r.toInt = 1) ∧ (r.toInt = 1 ↔ (g.toInt = 0)))) h0 0 0 0 #[.val (.ref a), .val (.int g), .val (.long k), .second, .val (.long v), .second] []
  refine Go.aloadN (pc' := 1) d2_0 rfl rfl rfl ?_
  refine Go.callU (pc' := 4) (argsL := []) (rest := []) (W := 0) (owner := "java/lang/Enum") (hw _ (List.mem_of_getElem? (i := 14) rfl)) (hw _ (List.mem_of_getElem? (i := 15) rfl)) (hw _ (List.mem_of_getElem? (i := 16) rfl)) (hw _ (List.mem_of_getElem? (i := 18) rfl)) (hw _ (List.mem_of_getElem? (i := 17) rfl)) (hw _ (List.mem_of_getElem? (i := 19) rfl)) (hw _ (List.mem_of_getElem? (i := 20) rfl)) (by decide) hE (m_o l Z a0 hw a (0 : Int32) h0 n0 z0 hF) d2_1 rfl pd0 rfl rfl (Nat.le_of_eq rfl) (by decide) (by decide) (by decide) (by decide) rfl ?_
  rintro _ _ ⟨rfl, rfl⟩
  show (Go false l ({ frames := 1, cells := 0, slots := 0, locals := 30 } : Room) Z (⟨"com/example/tenscale/tenscale/Rounding", "roundsUp", "(ZJJ)Z"⟩ : MethodName) prog_15_method_4_code 6 (some .boolean) n0 0 0 (fun u h => ∃ r : Int32, u = some (.int r) ∧ h0 = h ∧ (r.toInt = 0 ∨ r.toInt = 1) ∧ (r.toInt = 1 ↔ (g.toInt = 0)))) h0 (0 + 0) (0 + 0) 4 #[.val (.ref a), .val (.int g), .val (.long k), .second, .val (.long v), .second] [(.int (0 : Int32))]
  refine Go.tsw (pc' := 62) (o := 58) d2_4 (by decide) (by decide) (by decide) (by decide) ?_
  refine Go.iloadN (pc' := 63) d2_62 rfl rfl ?_
  refine Go.ifc (pc1 := 70) (pc2 := 66) d2_63 (by decide) (by decide) rfl (fun (c_5 : g.toInt ≠ 0) => ?_) (fun (c_5 : g.toInt = 0) => ?_)
  · refine Go.iconst (pc' := 71) (v := (0 : Int32)) d2_70 rfl rfl ?_
    refine Go.goto (pc' := 150) d2_71 (by decide) (by decide) ?_
    exact Go.retN (t := .boolean) d2_150 rfl (by simp) rfl ⟨_, rfl, rfl, by decide, by have z0 : (0 : Int32).toInt = 0 := rfl; have z1 : (1 : Int32).toInt = 1 := rfl; omega⟩ (by decide) (by decide)
  · refine Go.iconst (pc' := 67) (v := (1 : Int32)) d2_66 rfl rfl ?_
    refine Go.goto (pc' := 150) d2_67 (by decide) (by decide) ?_
    exact Go.retN (t := .boolean) d2_150 rfl (by simp) rfl ⟨_, rfl, rfl, by decide, by have z0 : (0 : Int32).toInt = 0 := rfl; have z1 : (1 : Int32).toInt = 1 := rfl; omega⟩ (by decide) (by decide)
set_option maxRecDepth 65536 in
set_option maxHeartbeats 40000000 in
theorem m_ex0 (l : Launch) (Z : State) (a0 : Array Value) (hw : ∀ d ∈ tables_1, d.before a0 Z = true) (g : Int32) (k v : Int64) (h0 : Heap) (n0 : Nat) (z0 : n0 ≤ h0.size) (hg : g.toInt = 0 ∨ g.toInt = 1) (hv : -9223372036854775808 < v.toInt ∧ v.toInt < 9223372036854775807) : Mt false l Z (⟨"com/example/tenscale/tenscale/RoundingRoundsUpPinLaw", "expected", "(IZJJ)Z"⟩ : MethodName) method_3_code 10 (some .boolean) ({ frames := 1, cells := 0, slots := 0, locals := 30 } : Room) n0 (fun u h => ∃ r : Int32, u = some (.int r) ∧ h0 = h ∧ (r.toInt = 0 ∨ r.toInt = 1) ∧ (r.toInt = 1 ↔ (g.toInt = 0))) h0 #[(.int (0 : Int32)), (.int g), (.long k), (.long v)] := by
  refine Mt.go (Ls := #[.val (.int (0 : Int32)), .val (.int g), .val (.long k), .second, .val (.long v), .second, .unset, .unset, .unset, .unset]) (plainFor_of_name pn0) (fun m => by first | (simp [entryFrame, mkF, argsToLocals, Value.category]; done) | rfl) ?_
  show (Go false l ({ frames := 1, cells := 0, slots := 0, locals := 30 } : Room) Z (⟨"com/example/tenscale/tenscale/RoundingRoundsUpPinLaw", "expected", "(IZJJ)Z"⟩ : MethodName) method_3_code 10 (some .boolean) n0 0 0 (fun u h => ∃ r : Int32, u = some (.int r) ∧ h0 = h ∧ (r.toInt = 0 ∨ r.toInt = 1) ∧ (r.toInt = 1 ↔ (g.toInt = 0)))) h0 0 0 0 #[.val (.int (0 : Int32)), .val (.int g), .val (.long k), .second, .val (.long v), .second, .unset, .unset, .unset, .unset] []
  refine Go.lloadN (pc' := 1) d4_0 rfl rfl ?_
  refine Go.ldcL (pc' := 4) (hw _ (List.mem_of_getElem? (i := 26) rfl)) d4_1 rfl ?_
  refine Go.lrem (pc' := 5) d4_4 (by decide) rfl ?_
  generalize ev_6 : k % (10 : Int64) = v_6
  have k_7 : -10 < v_6.toInt ∧ v_6.toInt < 10 ∧ ((0 ≤ k.toInt ∧ v_6.toInt = k.toInt % 10) ∨ (k.toInt < 0 ∧ v_6.toInt = -((-k.toInt) % 10))) := by
    rw [← ev_6]
    have : (10 : Int64).toInt = 10 := by decide
    have := c_lremM k (10 : Int64) 10 (by decide)
    have := rng64 (k % (10 : Int64))
    have := rng64 k
    omega
  refine Go.callS (pc' := 8) (argsL := [(.long v_6)]) (rest := []) (W := 0) (hw _ (List.mem_of_getElem? (i := 27) rfl)) (hw _ (List.mem_of_getElem? (i := 28) rfl)) (hw _ (List.mem_of_getElem? (i := 29) rfl)) (hw _ (List.mem_of_getElem? (i := 30) rfl)) (by decide) (m_abs l Z a0 hw v_6 h0 n0 z0 (by omega)) d4_5 rfl pd1 rfl rfl (Nat.le_of_eq rfl) (by decide) (by decide) (by decide) (by decide) rfl ?_
  rintro _ _ ⟨d, rfl, rfl, hd⟩
  show (Go false l ({ frames := 1, cells := 0, slots := 0, locals := 30 } : Room) Z (⟨"com/example/tenscale/tenscale/RoundingRoundsUpPinLaw", "expected", "(IZJJ)Z"⟩ : MethodName) method_3_code 10 (some .boolean) n0 0 0 (fun u h => ∃ r : Int32, u = some (.int r) ∧ h0 = h ∧ (r.toInt = 0 ∨ r.toInt = 1) ∧ (r.toInt = 1 ↔ (g.toInt = 0)))) h0 (0 + 0) (0 + 0) 8 #[.val (.int (0 : Int32)), .val (.int g), .val (.long k), .second, .val (.long v), .second, .unset, .unset, .unset, .unset] [(.long d)]
  have hd9 : 0 ≤ d.toInt ∧ d.toInt ≤ 9 := by omega
  refine Go.lstore (pc' := 10) (Ls' := #[.val (.int (0 : Int32)), .val (.int g), .val (.long k), .second, .val (.long v), .second, .val (.long d), .second, .unset, .unset]) d4_8 rfl rfl ?_
  refine Go.lload (pc' := 12) d4_10 rfl rfl ?_
  refine Go.lconst (pc' := 13) (v := (1 : Int64)) d4_12 rfl rfl ?_
  refine Go.lcmp (pc' := 14) d4_13 rfl ?_
  have J1 : ∀ b : Int32, ((b.toInt = 1 ∧ k.toInt % 2 = 1) ∨ (b.toInt = 0 ∧ k.toInt % 2 = 0)) → (Go false l ({ frames := 1, cells := 0, slots := 0, locals := 30 } : Room) Z (⟨"com/example/tenscale/tenscale/RoundingRoundsUpPinLaw", "expected", "(IZJJ)Z"⟩ : MethodName) method_3_code 10 (some .boolean) n0 0 0 (fun u h => ∃ r : Int32, u = some (.int r) ∧ h0 = h ∧ (r.toInt = 0 ∨ r.toInt = 1) ∧ (r.toInt = 1 ↔ (g.toInt = 0)))) h0 (0 + 0) (0 + 0) 58 #[.val (.int (0 : Int32)), .val (.int g), .val (.long k), .second, .val (.long v), .second, .val (.long d), .second, .unset, .unset] [(.int b)] := by
    intro b hb
    refine Go.istore (pc' := 60) (Ls' := #[.val (.int (0 : Int32)), .val (.int g), .val (.long k), .second, .val (.long v), .second, .val (.long d), .second, .val (.int b), .unset]) d4_58 rfl rfl ?_
    refine Go.lload (pc' := 62) d4_60 rfl rfl ?_
    refine Go.lconst (pc' := 63) (v := (0 : Int64)) d4_62 rfl rfl ?_
    refine Go.lcmp (pc' := 64) d4_63 rfl ?_
    have J2 : ∀ f : Int32, ((f.toInt = 1 ∧ k.toInt % 5 = 0) ∨ (f.toInt = 0 ∧ k.toInt % 5 ≠ 0)) → (Go false l ({ frames := 1, cells := 0, slots := 0, locals := 30 } : Room) Z (⟨"com/example/tenscale/tenscale/RoundingRoundsUpPinLaw", "expected", "(IZJJ)Z"⟩ : MethodName) method_3_code 10 (some .boolean) n0 0 0 (fun u h => ∃ r : Int32, u = some (.int r) ∧ h0 = h ∧ (r.toInt = 0 ∨ r.toInt = 1) ∧ (r.toInt = 1 ↔ (g.toInt = 0)))) h0 (0 + 0) (0 + 0) 81 #[.val (.int (0 : Int32)), .val (.int g), .val (.long k), .second, .val (.long v), .second, .val (.long d), .second, .val (.int b), .unset] [(.int f)] := by
      intro f hf
      refine Go.istore (pc' := 83) (Ls' := #[.val (.int (0 : Int32)), .val (.int g), .val (.long k), .second, .val (.long v), .second, .val (.long d), .second, .val (.int b), .val (.int f)]) d4_81 rfl rfl ?_
      refine Go.iloadN (pc' := 84) d4_83 rfl rfl ?_
      refine Go.ifc (pc1 := 97) (pc2 := 87) d4_84 (by decide) (by decide) rfl (fun (c_8 : (0 : Int) ≠ 0) => ?_) (fun (c_8 : (0 : Int) = 0) => ?_)
      · exact absurd c_8 (by decide)
      refine Go.iloadN (pc' := 88) d4_87 rfl rfl ?_
      refine Go.ifc (pc1 := 95) (pc2 := 91) d4_88 (by decide) (by decide) rfl (fun (c_9 : g.toInt ≠ 0) => ?_) (fun (c_9 : g.toInt = 0) => ?_)
      · refine Go.iconst (pc' := 96) (v := (0 : Int32)) d4_95 rfl rfl ?_
        exact Go.retN (t := .boolean) d4_96 rfl (by simp) rfl ⟨_, rfl, rfl, by decide, by have z0 : (0 : Int32).toInt = 0 := rfl; have z1 : (1 : Int32).toInt = 1 := rfl; omega⟩ (by decide) (by decide)
      · refine Go.iconst (pc' := 92) (v := (1 : Int32)) d4_91 rfl rfl ?_
        refine Go.goto (pc' := 96) d4_92 (by decide) (by decide) ?_
        exact Go.retN (t := .boolean) d4_96 rfl (by simp) rfl ⟨_, rfl, rfl, by decide, by have z0 : (0 : Int32).toInt = 0 := rfl; have z1 : (1 : Int32).toInt = 1 := rfl; omega⟩ (by decide) (by decide)
    refine Go.ifw (pc1 := 76) (pc2 := 67) d4_64 (by decide) (by decide) rfl (fun (c_10 : d.toInt = (0 : Int)) => ?_) (fun (c_10 : d.toInt ≠ (0 : Int)) => ?_)
    · refine Go.iconst (pc' := 77) (v := (1 : Int32)) d4_76 rfl rfl ?_
      refine Go.goto (pc' := 81) d4_77 (by decide) (by decide) ?_
      exact J2 _ (Or.inl ⟨rfl, by omega⟩)
    · refine Go.lload (pc' := 69) d4_67 rfl rfl ?_
      refine Go.ldcL (pc' := 72) (hw _ (List.mem_of_getElem? (i := 31) rfl)) d4_69 rfl ?_
      refine Go.lcmp (pc' := 73) d4_72 rfl ?_
      refine Go.ifw (pc1 := 80) (pc2 := 76) d4_73 (by decide) (by decide) rfl (fun (c_11 : d.toInt ≠ (5 : Int)) => ?_) (fun (c_11 : d.toInt = (5 : Int)) => ?_)
      · refine Go.iconst (pc' := 81) (v := (0 : Int32)) d4_80 rfl rfl ?_
        exact J2 _ (Or.inr ⟨rfl, by omega⟩)
      · refine Go.iconst (pc' := 77) (v := (1 : Int32)) d4_76 rfl rfl ?_
        refine Go.goto (pc' := 81) d4_77 (by decide) (by decide) ?_
        exact J2 _ (Or.inl ⟨rfl, by omega⟩)
  refine Go.ifw (pc1 := 53) (pc2 := 17) d4_14 (by decide) (by decide) rfl (fun (c_12 : d.toInt = (1 : Int)) => ?_) (fun (c_12 : d.toInt ≠ (1 : Int)) => ?_)
  · refine Go.iconst (pc' := 54) (v := (1 : Int32)) d4_53 rfl rfl ?_
    refine Go.goto (pc' := 58) d4_54 (by decide) (by decide) ?_
    exact J1 _ (Or.inl ⟨rfl, by omega⟩)
  · refine Go.lload (pc' := 19) d4_17 rfl rfl ?_
    refine Go.ldcL (pc' := 22) (hw _ (List.mem_of_getElem? (i := 34) rfl)) d4_19 rfl ?_
    refine Go.lcmp (pc' := 23) d4_22 rfl ?_
    refine Go.ifw (pc1 := 53) (pc2 := 26) d4_23 (by decide) (by decide) rfl (fun (c_13 : d.toInt = (3 : Int)) => ?_) (fun (c_13 : d.toInt ≠ (3 : Int)) => ?_)
    · refine Go.iconst (pc' := 54) (v := (1 : Int32)) d4_53 rfl rfl ?_
      refine Go.goto (pc' := 58) d4_54 (by decide) (by decide) ?_
      exact J1 _ (Or.inl ⟨rfl, by omega⟩)
    · refine Go.lload (pc' := 28) d4_26 rfl rfl ?_
      refine Go.ldcL (pc' := 31) (hw _ (List.mem_of_getElem? (i := 31) rfl)) d4_28 rfl ?_
      refine Go.lcmp (pc' := 32) d4_31 rfl ?_
      refine Go.ifw (pc1 := 53) (pc2 := 35) d4_32 (by decide) (by decide) rfl (fun (c_14 : d.toInt = (5 : Int)) => ?_) (fun (c_14 : d.toInt ≠ (5 : Int)) => ?_)
      · refine Go.iconst (pc' := 54) (v := (1 : Int32)) d4_53 rfl rfl ?_
        refine Go.goto (pc' := 58) d4_54 (by decide) (by decide) ?_
        exact J1 _ (Or.inl ⟨rfl, by omega⟩)
      · refine Go.lload (pc' := 37) d4_35 rfl rfl ?_
        refine Go.ldcL (pc' := 40) (hw _ (List.mem_of_getElem? (i := 35) rfl)) d4_37 rfl ?_
        refine Go.lcmp (pc' := 41) d4_40 rfl ?_
        refine Go.ifw (pc1 := 53) (pc2 := 44) d4_41 (by decide) (by decide) rfl (fun (c_15 : d.toInt = (7 : Int)) => ?_) (fun (c_15 : d.toInt ≠ (7 : Int)) => ?_)
        · refine Go.iconst (pc' := 54) (v := (1 : Int32)) d4_53 rfl rfl ?_
          refine Go.goto (pc' := 58) d4_54 (by decide) (by decide) ?_
          exact J1 _ (Or.inl ⟨rfl, by omega⟩)
        · refine Go.lload (pc' := 46) d4_44 rfl rfl ?_
          refine Go.ldcL (pc' := 49) (hw _ (List.mem_of_getElem? (i := 36) rfl)) d4_46 rfl ?_
          refine Go.lcmp (pc' := 50) d4_49 rfl ?_
          refine Go.ifw (pc1 := 57) (pc2 := 53) d4_50 (by decide) (by decide) rfl (fun (c_16 : d.toInt ≠ (9 : Int)) => ?_) (fun (c_16 : d.toInt = (9 : Int)) => ?_)
          · refine Go.iconst (pc' := 58) (v := (0 : Int32)) d4_57 rfl rfl ?_
            exact J1 _ (Or.inr ⟨rfl, by omega⟩)
          · refine Go.iconst (pc' := 54) (v := (1 : Int32)) d4_53 rfl rfl ?_
            refine Go.goto (pc' := 58) d4_54 (by decide) (by decide) ?_
            exact J1 _ (Or.inl ⟨rfl, by omega⟩)
set_option maxRecDepth 65536 in
set_option maxHeartbeats 40000000 in
theorem m_pick1 (l : Launch) (Z : State) (a0 : Array Value) (hw : ∀ d ∈ tables_1, d.before a0 Z = true) (a : Addr) (h0 : Heap) (n0 : Nat) (z0 : n0 ≤ h0.size) (hS : Sta Z h0 "com/example/tenscale/tenscale/Rounding" "DOWN" "Lcom/example/tenscale/tenscale/Rounding;" (.ref a)) : Mt false l Z (⟨"com/example/tenscale/tenscale/RoundingRoundsUpPinLaw", "pick", "(I)Lcom/example/tenscale/tenscale/Rounding;"⟩ : MethodName) method_2_code 1 (some (.object "com/example/tenscale/tenscale/Rounding")) ({ frames := 0, cells := 0, slots := 0, locals := 0 } : Room) n0 (fun v h => v = some (.ref a) ∧ h0 = h) h0 #[(.int (1 : Int32))] := by
  refine Mt.go (Ls := #[.val (.int (1 : Int32))]) (plainFor_of_name pn0) (fun m => by first | (simp [entryFrame, mkF, argsToLocals, Value.category]; done) | rfl) ?_
  show (Go false l ({ frames := 0, cells := 0, slots := 0, locals := 0 } : Room) Z (⟨"com/example/tenscale/tenscale/RoundingRoundsUpPinLaw", "pick", "(I)Lcom/example/tenscale/tenscale/Rounding;"⟩ : MethodName) method_2_code 1 (some (.object "com/example/tenscale/tenscale/Rounding")) n0 0 0 (fun v h => v = some (.ref a) ∧ h0 = h)) h0 0 0 0 #[.val (.int (1 : Int32))] []
  refine Go.iloadN (pc' := 1) d1_0 rfl rfl ?_
  refine Go.ifc (pc1 := 8) (pc2 := 4) d1_1 (by decide) (by decide) rfl (fun (c_17 : (1 : Int) ≠ 0) => ?_) (fun (c_17 : (1 : Int) = 0) => ?_)
  rotate_left
  · exact absurd c_17 (by decide)
  refine Go.iloadN (pc' := 9) d1_8 rfl rfl ?_
  refine Go.iconst (pc' := 10) (v := (1 : Int32)) d1_9 rfl rfl ?_
  refine Go.icmp (pc1 := 17) (pc2 := 13) d1_10 (by decide) (by decide) rfl (fun (c_18 : (1 : Int) ≠ (1 : Int)) => ?_) (fun (c_18 : (1 : Int) = (1 : Int)) => ?_)
  · exact absurd c_18 (by decide)
  refine Go.getS (pc' := 16) (hw _ (List.mem_of_getElem? (i := 37) rfl)) hS d1_13 rfl ?_
  exact Go.retA d1_16 rfl rfl rfl ⟨rfl, rfl⟩ (by decide) (by decide)
set_option maxRecDepth 65536 in
set_option maxHeartbeats 40000000 in
theorem m_up1 (l : Launch) (Z : State) (a0 : Array Value) (hw : ∀ d ∈ tables_1, d.before a0 Z = true) (a : Addr) (g : Int32) (k v : Int64) (h0 : Heap) (n0 : Nat) (z0 : n0 ≤ h0.size) (hE : Exa Z h0 a "com/example/tenscale/tenscale/Rounding") (hF : Fld Z h0 a "java/lang/Enum" "ordinal" "I" (.int (1 : Int32))) (hg : g.toInt = 0 ∨ g.toInt = 1) (hv : -9223372036854775808 < v.toInt ∧ v.toInt < 9223372036854775807) : Mt false l Z (⟨"com/example/tenscale/tenscale/Rounding", "roundsUp", "(ZJJ)Z"⟩ : MethodName) prog_15_method_4_code 6 (some .boolean) ({ frames := 1, cells := 0, slots := 0, locals := 30 } : Room) n0 (fun u h => ∃ r : Int32, u = some (.int r) ∧ h0 = h ∧ (r.toInt = 0 ∨ r.toInt = 1) ∧ (r.toInt = 1 ↔ ((0 : Int) = 1))) h0 #[(.ref a), (.int g), (.long k), (.long v)] := by
  refine Mt.go (Ls := #[.val (.ref a), .val (.int g), .val (.long k), .second, .val (.long v), .second]) (plainFor_of_name pn1) (fun m => by first | (simp [entryFrame, mkF, argsToLocals, Value.category]; done) | rfl) ?_
  show (Go false l ({ frames := 1, cells := 0, slots := 0, locals := 30 } : Room) Z (⟨"com/example/tenscale/tenscale/Rounding", "roundsUp", "(ZJJ)Z"⟩ : MethodName) prog_15_method_4_code 6 (some .boolean) n0 0 0 (fun u h => ∃ r : Int32, u = some (.int r) ∧ h0 = h ∧ (r.toInt = 0 ∨ r.toInt = 1) ∧ (r.toInt = 1 ↔ ((0 : Int) = 1)))) h0 0 0 0 #[.val (.ref a), .val (.int g), .val (.long k), .second, .val (.long v), .second] []
  refine Go.aloadN (pc' := 1) d2_0 rfl rfl rfl ?_
  refine Go.callU (pc' := 4) (argsL := []) (rest := []) (W := 0) (owner := "java/lang/Enum") (hw _ (List.mem_of_getElem? (i := 14) rfl)) (hw _ (List.mem_of_getElem? (i := 15) rfl)) (hw _ (List.mem_of_getElem? (i := 16) rfl)) (hw _ (List.mem_of_getElem? (i := 18) rfl)) (hw _ (List.mem_of_getElem? (i := 17) rfl)) (hw _ (List.mem_of_getElem? (i := 19) rfl)) (hw _ (List.mem_of_getElem? (i := 20) rfl)) (by decide) hE (m_o l Z a0 hw a (1 : Int32) h0 n0 z0 hF) d2_1 rfl pd0 rfl rfl (Nat.le_of_eq rfl) (by decide) (by decide) (by decide) (by decide) rfl ?_
  rintro _ _ ⟨rfl, rfl⟩
  show (Go false l ({ frames := 1, cells := 0, slots := 0, locals := 30 } : Room) Z (⟨"com/example/tenscale/tenscale/Rounding", "roundsUp", "(ZJJ)Z"⟩ : MethodName) prog_15_method_4_code 6 (some .boolean) n0 0 0 (fun u h => ∃ r : Int32, u = some (.int r) ∧ h0 = h ∧ (r.toInt = 0 ∨ r.toInt = 1) ∧ (r.toInt = 1 ↔ ((0 : Int) = 1)))) h0 (0 + 0) (0 + 0) 4 #[.val (.ref a), .val (.int g), .val (.long k), .second, .val (.long v), .second] [(.int (1 : Int32))]
  refine Go.tsw (pc' := 74) (o := 70) d2_4 (by decide) (by decide) (by decide) (by decide) ?_
  refine Go.iconst (pc' := 75) (v := (0 : Int32)) d2_74 rfl rfl ?_
  refine Go.goto (pc' := 150) d2_75 (by decide) (by decide) ?_
  exact Go.retN (t := .boolean) d2_150 rfl (by simp) rfl ⟨_, rfl, rfl, by decide, by have z0 : (0 : Int32).toInt = 0 := rfl; have z1 : (1 : Int32).toInt = 1 := rfl; omega⟩ (by decide) (by decide)
set_option maxRecDepth 65536 in
set_option maxHeartbeats 40000000 in
theorem m_ex1 (l : Launch) (Z : State) (a0 : Array Value) (hw : ∀ d ∈ tables_1, d.before a0 Z = true) (g : Int32) (k v : Int64) (h0 : Heap) (n0 : Nat) (z0 : n0 ≤ h0.size) (hg : g.toInt = 0 ∨ g.toInt = 1) (hv : -9223372036854775808 < v.toInt ∧ v.toInt < 9223372036854775807) : Mt false l Z (⟨"com/example/tenscale/tenscale/RoundingRoundsUpPinLaw", "expected", "(IZJJ)Z"⟩ : MethodName) method_3_code 10 (some .boolean) ({ frames := 1, cells := 0, slots := 0, locals := 30 } : Room) n0 (fun u h => ∃ r : Int32, u = some (.int r) ∧ h0 = h ∧ (r.toInt = 0 ∨ r.toInt = 1) ∧ (r.toInt = 1 ↔ ((0 : Int) = 1))) h0 #[(.int (1 : Int32)), (.int g), (.long k), (.long v)] := by
  refine Mt.go (Ls := #[.val (.int (1 : Int32)), .val (.int g), .val (.long k), .second, .val (.long v), .second, .unset, .unset, .unset, .unset]) (plainFor_of_name pn0) (fun m => by first | (simp [entryFrame, mkF, argsToLocals, Value.category]; done) | rfl) ?_
  show (Go false l ({ frames := 1, cells := 0, slots := 0, locals := 30 } : Room) Z (⟨"com/example/tenscale/tenscale/RoundingRoundsUpPinLaw", "expected", "(IZJJ)Z"⟩ : MethodName) method_3_code 10 (some .boolean) n0 0 0 (fun u h => ∃ r : Int32, u = some (.int r) ∧ h0 = h ∧ (r.toInt = 0 ∨ r.toInt = 1) ∧ (r.toInt = 1 ↔ ((0 : Int) = 1)))) h0 0 0 0 #[.val (.int (1 : Int32)), .val (.int g), .val (.long k), .second, .val (.long v), .second, .unset, .unset, .unset, .unset] []
  refine Go.lloadN (pc' := 1) d4_0 rfl rfl ?_
  refine Go.ldcL (pc' := 4) (hw _ (List.mem_of_getElem? (i := 26) rfl)) d4_1 rfl ?_
  refine Go.lrem (pc' := 5) d4_4 (by decide) rfl ?_
  generalize ev_19 : k % (10 : Int64) = v_19
  have k_20 : -10 < v_19.toInt ∧ v_19.toInt < 10 ∧ ((0 ≤ k.toInt ∧ v_19.toInt = k.toInt % 10) ∨ (k.toInt < 0 ∧ v_19.toInt = -((-k.toInt) % 10))) := by
    rw [← ev_19]
    have : (10 : Int64).toInt = 10 := by decide
    have := c_lremM k (10 : Int64) 10 (by decide)
    have := rng64 (k % (10 : Int64))
    have := rng64 k
    omega
  refine Go.callS (pc' := 8) (argsL := [(.long v_19)]) (rest := []) (W := 0) (hw _ (List.mem_of_getElem? (i := 27) rfl)) (hw _ (List.mem_of_getElem? (i := 28) rfl)) (hw _ (List.mem_of_getElem? (i := 29) rfl)) (hw _ (List.mem_of_getElem? (i := 30) rfl)) (by decide) (m_abs l Z a0 hw v_19 h0 n0 z0 (by omega)) d4_5 rfl pd1 rfl rfl (Nat.le_of_eq rfl) (by decide) (by decide) (by decide) (by decide) rfl ?_
  rintro _ _ ⟨d, rfl, rfl, hd⟩
  show (Go false l ({ frames := 1, cells := 0, slots := 0, locals := 30 } : Room) Z (⟨"com/example/tenscale/tenscale/RoundingRoundsUpPinLaw", "expected", "(IZJJ)Z"⟩ : MethodName) method_3_code 10 (some .boolean) n0 0 0 (fun u h => ∃ r : Int32, u = some (.int r) ∧ h0 = h ∧ (r.toInt = 0 ∨ r.toInt = 1) ∧ (r.toInt = 1 ↔ ((0 : Int) = 1)))) h0 (0 + 0) (0 + 0) 8 #[.val (.int (1 : Int32)), .val (.int g), .val (.long k), .second, .val (.long v), .second, .unset, .unset, .unset, .unset] [(.long d)]
  have hd9 : 0 ≤ d.toInt ∧ d.toInt ≤ 9 := by omega
  refine Go.lstore (pc' := 10) (Ls' := #[.val (.int (1 : Int32)), .val (.int g), .val (.long k), .second, .val (.long v), .second, .val (.long d), .second, .unset, .unset]) d4_8 rfl rfl ?_
  refine Go.lload (pc' := 12) d4_10 rfl rfl ?_
  refine Go.lconst (pc' := 13) (v := (1 : Int64)) d4_12 rfl rfl ?_
  refine Go.lcmp (pc' := 14) d4_13 rfl ?_
  have J1 : ∀ b : Int32, ((b.toInt = 1 ∧ k.toInt % 2 = 1) ∨ (b.toInt = 0 ∧ k.toInt % 2 = 0)) → (Go false l ({ frames := 1, cells := 0, slots := 0, locals := 30 } : Room) Z (⟨"com/example/tenscale/tenscale/RoundingRoundsUpPinLaw", "expected", "(IZJJ)Z"⟩ : MethodName) method_3_code 10 (some .boolean) n0 0 0 (fun u h => ∃ r : Int32, u = some (.int r) ∧ h0 = h ∧ (r.toInt = 0 ∨ r.toInt = 1) ∧ (r.toInt = 1 ↔ ((0 : Int) = 1)))) h0 (0 + 0) (0 + 0) 58 #[.val (.int (1 : Int32)), .val (.int g), .val (.long k), .second, .val (.long v), .second, .val (.long d), .second, .unset, .unset] [(.int b)] := by
    intro b hb
    refine Go.istore (pc' := 60) (Ls' := #[.val (.int (1 : Int32)), .val (.int g), .val (.long k), .second, .val (.long v), .second, .val (.long d), .second, .val (.int b), .unset]) d4_58 rfl rfl ?_
    refine Go.lload (pc' := 62) d4_60 rfl rfl ?_
    refine Go.lconst (pc' := 63) (v := (0 : Int64)) d4_62 rfl rfl ?_
    refine Go.lcmp (pc' := 64) d4_63 rfl ?_
    have J2 : ∀ f : Int32, ((f.toInt = 1 ∧ k.toInt % 5 = 0) ∨ (f.toInt = 0 ∧ k.toInt % 5 ≠ 0)) → (Go false l ({ frames := 1, cells := 0, slots := 0, locals := 30 } : Room) Z (⟨"com/example/tenscale/tenscale/RoundingRoundsUpPinLaw", "expected", "(IZJJ)Z"⟩ : MethodName) method_3_code 10 (some .boolean) n0 0 0 (fun u h => ∃ r : Int32, u = some (.int r) ∧ h0 = h ∧ (r.toInt = 0 ∨ r.toInt = 1) ∧ (r.toInt = 1 ↔ ((0 : Int) = 1)))) h0 (0 + 0) (0 + 0) 81 #[.val (.int (1 : Int32)), .val (.int g), .val (.long k), .second, .val (.long v), .second, .val (.long d), .second, .val (.int b), .unset] [(.int f)] := by
      intro f hf
      refine Go.istore (pc' := 83) (Ls' := #[.val (.int (1 : Int32)), .val (.int g), .val (.long k), .second, .val (.long v), .second, .val (.long d), .second, .val (.int b), .val (.int f)]) d4_81 rfl rfl ?_
      refine Go.iloadN (pc' := 84) d4_83 rfl rfl ?_
      refine Go.ifc (pc1 := 97) (pc2 := 87) d4_84 (by decide) (by decide) rfl (fun (c_21 : (1 : Int) ≠ 0) => ?_) (fun (c_21 : (1 : Int) = 0) => ?_)
      rotate_left
      · exact absurd c_21 (by decide)
      refine Go.iloadN (pc' := 98) d4_97 rfl rfl ?_
      refine Go.iconst (pc' := 99) (v := (1 : Int32)) d4_98 rfl rfl ?_
      refine Go.icmp (pc1 := 104) (pc2 := 102) d4_99 (by decide) (by decide) rfl (fun (c_22 : (1 : Int) ≠ (1 : Int)) => ?_) (fun (c_22 : (1 : Int) = (1 : Int)) => ?_)
      · exact absurd c_22 (by decide)
      refine Go.iconst (pc' := 103) (v := (0 : Int32)) d4_102 rfl rfl ?_
      exact Go.retN (t := .boolean) d4_103 rfl (by simp) rfl ⟨_, rfl, rfl, by decide, by have z0 : (0 : Int32).toInt = 0 := rfl; have z1 : (1 : Int32).toInt = 1 := rfl; omega⟩ (by decide) (by decide)
    refine Go.ifw (pc1 := 76) (pc2 := 67) d4_64 (by decide) (by decide) rfl (fun (c_23 : d.toInt = (0 : Int)) => ?_) (fun (c_23 : d.toInt ≠ (0 : Int)) => ?_)
    · refine Go.iconst (pc' := 77) (v := (1 : Int32)) d4_76 rfl rfl ?_
      refine Go.goto (pc' := 81) d4_77 (by decide) (by decide) ?_
      exact J2 _ (Or.inl ⟨rfl, by omega⟩)
    · refine Go.lload (pc' := 69) d4_67 rfl rfl ?_
      refine Go.ldcL (pc' := 72) (hw _ (List.mem_of_getElem? (i := 31) rfl)) d4_69 rfl ?_
      refine Go.lcmp (pc' := 73) d4_72 rfl ?_
      refine Go.ifw (pc1 := 80) (pc2 := 76) d4_73 (by decide) (by decide) rfl (fun (c_24 : d.toInt ≠ (5 : Int)) => ?_) (fun (c_24 : d.toInt = (5 : Int)) => ?_)
      · refine Go.iconst (pc' := 81) (v := (0 : Int32)) d4_80 rfl rfl ?_
        exact J2 _ (Or.inr ⟨rfl, by omega⟩)
      · refine Go.iconst (pc' := 77) (v := (1 : Int32)) d4_76 rfl rfl ?_
        refine Go.goto (pc' := 81) d4_77 (by decide) (by decide) ?_
        exact J2 _ (Or.inl ⟨rfl, by omega⟩)
  refine Go.ifw (pc1 := 53) (pc2 := 17) d4_14 (by decide) (by decide) rfl (fun (c_25 : d.toInt = (1 : Int)) => ?_) (fun (c_25 : d.toInt ≠ (1 : Int)) => ?_)
  · refine Go.iconst (pc' := 54) (v := (1 : Int32)) d4_53 rfl rfl ?_
    refine Go.goto (pc' := 58) d4_54 (by decide) (by decide) ?_
    exact J1 _ (Or.inl ⟨rfl, by omega⟩)
  · refine Go.lload (pc' := 19) d4_17 rfl rfl ?_
    refine Go.ldcL (pc' := 22) (hw _ (List.mem_of_getElem? (i := 34) rfl)) d4_19 rfl ?_
    refine Go.lcmp (pc' := 23) d4_22 rfl ?_
    refine Go.ifw (pc1 := 53) (pc2 := 26) d4_23 (by decide) (by decide) rfl (fun (c_26 : d.toInt = (3 : Int)) => ?_) (fun (c_26 : d.toInt ≠ (3 : Int)) => ?_)
    · refine Go.iconst (pc' := 54) (v := (1 : Int32)) d4_53 rfl rfl ?_
      refine Go.goto (pc' := 58) d4_54 (by decide) (by decide) ?_
      exact J1 _ (Or.inl ⟨rfl, by omega⟩)
    · refine Go.lload (pc' := 28) d4_26 rfl rfl ?_
      refine Go.ldcL (pc' := 31) (hw _ (List.mem_of_getElem? (i := 31) rfl)) d4_28 rfl ?_
      refine Go.lcmp (pc' := 32) d4_31 rfl ?_
      refine Go.ifw (pc1 := 53) (pc2 := 35) d4_32 (by decide) (by decide) rfl (fun (c_27 : d.toInt = (5 : Int)) => ?_) (fun (c_27 : d.toInt ≠ (5 : Int)) => ?_)
      · refine Go.iconst (pc' := 54) (v := (1 : Int32)) d4_53 rfl rfl ?_
        refine Go.goto (pc' := 58) d4_54 (by decide) (by decide) ?_
        exact J1 _ (Or.inl ⟨rfl, by omega⟩)
      · refine Go.lload (pc' := 37) d4_35 rfl rfl ?_
        refine Go.ldcL (pc' := 40) (hw _ (List.mem_of_getElem? (i := 35) rfl)) d4_37 rfl ?_
        refine Go.lcmp (pc' := 41) d4_40 rfl ?_
        refine Go.ifw (pc1 := 53) (pc2 := 44) d4_41 (by decide) (by decide) rfl (fun (c_28 : d.toInt = (7 : Int)) => ?_) (fun (c_28 : d.toInt ≠ (7 : Int)) => ?_)
        · refine Go.iconst (pc' := 54) (v := (1 : Int32)) d4_53 rfl rfl ?_
          refine Go.goto (pc' := 58) d4_54 (by decide) (by decide) ?_
          exact J1 _ (Or.inl ⟨rfl, by omega⟩)
        · refine Go.lload (pc' := 46) d4_44 rfl rfl ?_
          refine Go.ldcL (pc' := 49) (hw _ (List.mem_of_getElem? (i := 36) rfl)) d4_46 rfl ?_
          refine Go.lcmp (pc' := 50) d4_49 rfl ?_
          refine Go.ifw (pc1 := 57) (pc2 := 53) d4_50 (by decide) (by decide) rfl (fun (c_29 : d.toInt ≠ (9 : Int)) => ?_) (fun (c_29 : d.toInt = (9 : Int)) => ?_)
          · refine Go.iconst (pc' := 58) (v := (0 : Int32)) d4_57 rfl rfl ?_
            exact J1 _ (Or.inr ⟨rfl, by omega⟩)
          · refine Go.iconst (pc' := 54) (v := (1 : Int32)) d4_53 rfl rfl ?_
            refine Go.goto (pc' := 58) d4_54 (by decide) (by decide) ?_
            exact J1 _ (Or.inl ⟨rfl, by omega⟩)
set_option maxRecDepth 65536 in
set_option maxHeartbeats 40000000 in
theorem m_pick2 (l : Launch) (Z : State) (a0 : Array Value) (hw : ∀ d ∈ tables_1, d.before a0 Z = true) (a : Addr) (h0 : Heap) (n0 : Nat) (z0 : n0 ≤ h0.size) (hS : Sta Z h0 "com/example/tenscale/tenscale/Rounding" "FLOOR" "Lcom/example/tenscale/tenscale/Rounding;" (.ref a)) : Mt false l Z (⟨"com/example/tenscale/tenscale/RoundingRoundsUpPinLaw", "pick", "(I)Lcom/example/tenscale/tenscale/Rounding;"⟩ : MethodName) method_2_code 1 (some (.object "com/example/tenscale/tenscale/Rounding")) ({ frames := 0, cells := 0, slots := 0, locals := 0 } : Room) n0 (fun v h => v = some (.ref a) ∧ h0 = h) h0 #[(.int (2 : Int32))] := by
  refine Mt.go (Ls := #[.val (.int (2 : Int32))]) (plainFor_of_name pn0) (fun m => by first | (simp [entryFrame, mkF, argsToLocals, Value.category]; done) | rfl) ?_
  show (Go false l ({ frames := 0, cells := 0, slots := 0, locals := 0 } : Room) Z (⟨"com/example/tenscale/tenscale/RoundingRoundsUpPinLaw", "pick", "(I)Lcom/example/tenscale/tenscale/Rounding;"⟩ : MethodName) method_2_code 1 (some (.object "com/example/tenscale/tenscale/Rounding")) n0 0 0 (fun v h => v = some (.ref a) ∧ h0 = h)) h0 0 0 0 #[.val (.int (2 : Int32))] []
  refine Go.iloadN (pc' := 1) d1_0 rfl rfl ?_
  refine Go.ifc (pc1 := 8) (pc2 := 4) d1_1 (by decide) (by decide) rfl (fun (c_30 : (2 : Int) ≠ 0) => ?_) (fun (c_30 : (2 : Int) = 0) => ?_)
  rotate_left
  · exact absurd c_30 (by decide)
  refine Go.iloadN (pc' := 9) d1_8 rfl rfl ?_
  refine Go.iconst (pc' := 10) (v := (1 : Int32)) d1_9 rfl rfl ?_
  refine Go.icmp (pc1 := 17) (pc2 := 13) d1_10 (by decide) (by decide) rfl (fun (c_31 : (2 : Int) ≠ (1 : Int)) => ?_) (fun (c_31 : (2 : Int) = (1 : Int)) => ?_)
  rotate_left
  · exact absurd c_31 (by decide)
  refine Go.iloadN (pc' := 18) d1_17 rfl rfl ?_
  refine Go.iconst (pc' := 19) (v := (2 : Int32)) d1_18 rfl rfl ?_
  refine Go.icmp (pc1 := 26) (pc2 := 22) d1_19 (by decide) (by decide) rfl (fun (c_32 : (2 : Int) ≠ (2 : Int)) => ?_) (fun (c_32 : (2 : Int) = (2 : Int)) => ?_)
  · exact absurd c_32 (by decide)
  refine Go.getS (pc' := 25) (hw _ (List.mem_of_getElem? (i := 32) rfl)) hS d1_22 rfl ?_
  exact Go.retA d1_25 rfl rfl rfl ⟨rfl, rfl⟩ (by decide) (by decide)
set_option maxRecDepth 65536 in
set_option maxHeartbeats 40000000 in
theorem m_up2 (l : Launch) (Z : State) (a0 : Array Value) (hw : ∀ d ∈ tables_1, d.before a0 Z = true) (a : Addr) (g : Int32) (k v : Int64) (h0 : Heap) (n0 : Nat) (z0 : n0 ≤ h0.size) (hE : Exa Z h0 a "com/example/tenscale/tenscale/Rounding") (hF : Fld Z h0 a "java/lang/Enum" "ordinal" "I" (.int (2 : Int32))) (hg : g.toInt = 0 ∨ g.toInt = 1) (hv : -9223372036854775808 < v.toInt ∧ v.toInt < 9223372036854775807) : Mt false l Z (⟨"com/example/tenscale/tenscale/Rounding", "roundsUp", "(ZJJ)Z"⟩ : MethodName) prog_15_method_4_code 6 (some .boolean) ({ frames := 1, cells := 0, slots := 0, locals := 30 } : Room) n0 (fun u h => ∃ r : Int32, u = some (.int r) ∧ h0 = h ∧ (r.toInt = 0 ∨ r.toInt = 1) ∧ (r.toInt = 1 ↔ (g.toInt = 1))) h0 #[(.ref a), (.int g), (.long k), (.long v)] := by
  refine Mt.go (Ls := #[.val (.ref a), .val (.int g), .val (.long k), .second, .val (.long v), .second]) (plainFor_of_name pn1) (fun m => by first | (simp [entryFrame, mkF, argsToLocals, Value.category]; done) | rfl) ?_
  show (Go false l ({ frames := 1, cells := 0, slots := 0, locals := 30 } : Room) Z (⟨"com/example/tenscale/tenscale/Rounding", "roundsUp", "(ZJJ)Z"⟩ : MethodName) prog_15_method_4_code 6 (some .boolean) n0 0 0 (fun u h => ∃ r : Int32, u = some (.int r) ∧ h0 = h ∧ (r.toInt = 0 ∨ r.toInt = 1) ∧ (r.toInt = 1 ↔ (g.toInt = 1)))) h0 0 0 0 #[.val (.ref a), .val (.int g), .val (.long k), .second, .val (.long v), .second] []
  refine Go.aloadN (pc' := 1) d2_0 rfl rfl rfl ?_
  refine Go.callU (pc' := 4) (argsL := []) (rest := []) (W := 0) (owner := "java/lang/Enum") (hw _ (List.mem_of_getElem? (i := 14) rfl)) (hw _ (List.mem_of_getElem? (i := 15) rfl)) (hw _ (List.mem_of_getElem? (i := 16) rfl)) (hw _ (List.mem_of_getElem? (i := 18) rfl)) (hw _ (List.mem_of_getElem? (i := 17) rfl)) (hw _ (List.mem_of_getElem? (i := 19) rfl)) (hw _ (List.mem_of_getElem? (i := 20) rfl)) (by decide) hE (m_o l Z a0 hw a (2 : Int32) h0 n0 z0 hF) d2_1 rfl pd0 rfl rfl (Nat.le_of_eq rfl) (by decide) (by decide) (by decide) (by decide) rfl ?_
  rintro _ _ ⟨rfl, rfl⟩
  show (Go false l ({ frames := 1, cells := 0, slots := 0, locals := 30 } : Room) Z (⟨"com/example/tenscale/tenscale/Rounding", "roundsUp", "(ZJJ)Z"⟩ : MethodName) prog_15_method_4_code 6 (some .boolean) n0 0 0 (fun u h => ∃ r : Int32, u = some (.int r) ∧ h0 = h ∧ (r.toInt = 0 ∨ r.toInt = 1) ∧ (r.toInt = 1 ↔ (g.toInt = 1)))) h0 (0 + 0) (0 + 0) 4 #[.val (.ref a), .val (.int g), .val (.long k), .second, .val (.long v), .second] [(.int (2 : Int32))]
  refine Go.tsw (pc' := 78) (o := 74) d2_4 (by decide) (by decide) (by decide) (by decide) ?_
  refine Go.iloadN (pc' := 79) d2_78 rfl rfl ?_
  refine Go.goto (pc' := 150) d2_79 (by decide) (by decide) ?_
  exact Go.retN (t := .boolean) d2_150 rfl (by simp) (own_nar (by omega)) ⟨_, rfl, rfl, by omega, by omega⟩ (by decide) (by decide)
set_option maxRecDepth 65536 in
set_option maxHeartbeats 40000000 in
theorem m_ex2 (l : Launch) (Z : State) (a0 : Array Value) (hw : ∀ d ∈ tables_1, d.before a0 Z = true) (g : Int32) (k v : Int64) (h0 : Heap) (n0 : Nat) (z0 : n0 ≤ h0.size) (hg : g.toInt = 0 ∨ g.toInt = 1) (hv : -9223372036854775808 < v.toInt ∧ v.toInt < 9223372036854775807) : Mt false l Z (⟨"com/example/tenscale/tenscale/RoundingRoundsUpPinLaw", "expected", "(IZJJ)Z"⟩ : MethodName) method_3_code 10 (some .boolean) ({ frames := 1, cells := 0, slots := 0, locals := 30 } : Room) n0 (fun u h => ∃ r : Int32, u = some (.int r) ∧ h0 = h ∧ (r.toInt = 0 ∨ r.toInt = 1) ∧ (r.toInt = 1 ↔ (g.toInt = 1))) h0 #[(.int (2 : Int32)), (.int g), (.long k), (.long v)] := by
  refine Mt.go (Ls := #[.val (.int (2 : Int32)), .val (.int g), .val (.long k), .second, .val (.long v), .second, .unset, .unset, .unset, .unset]) (plainFor_of_name pn0) (fun m => by first | (simp [entryFrame, mkF, argsToLocals, Value.category]; done) | rfl) ?_
  show (Go false l ({ frames := 1, cells := 0, slots := 0, locals := 30 } : Room) Z (⟨"com/example/tenscale/tenscale/RoundingRoundsUpPinLaw", "expected", "(IZJJ)Z"⟩ : MethodName) method_3_code 10 (some .boolean) n0 0 0 (fun u h => ∃ r : Int32, u = some (.int r) ∧ h0 = h ∧ (r.toInt = 0 ∨ r.toInt = 1) ∧ (r.toInt = 1 ↔ (g.toInt = 1)))) h0 0 0 0 #[.val (.int (2 : Int32)), .val (.int g), .val (.long k), .second, .val (.long v), .second, .unset, .unset, .unset, .unset] []
  refine Go.lloadN (pc' := 1) d4_0 rfl rfl ?_
  refine Go.ldcL (pc' := 4) (hw _ (List.mem_of_getElem? (i := 26) rfl)) d4_1 rfl ?_
  refine Go.lrem (pc' := 5) d4_4 (by decide) rfl ?_
  generalize ev_33 : k % (10 : Int64) = v_33
  have k_34 : -10 < v_33.toInt ∧ v_33.toInt < 10 ∧ ((0 ≤ k.toInt ∧ v_33.toInt = k.toInt % 10) ∨ (k.toInt < 0 ∧ v_33.toInt = -((-k.toInt) % 10))) := by
    rw [← ev_33]
    have : (10 : Int64).toInt = 10 := by decide
    have := c_lremM k (10 : Int64) 10 (by decide)
    have := rng64 (k % (10 : Int64))
    have := rng64 k
    omega
  refine Go.callS (pc' := 8) (argsL := [(.long v_33)]) (rest := []) (W := 0) (hw _ (List.mem_of_getElem? (i := 27) rfl)) (hw _ (List.mem_of_getElem? (i := 28) rfl)) (hw _ (List.mem_of_getElem? (i := 29) rfl)) (hw _ (List.mem_of_getElem? (i := 30) rfl)) (by decide) (m_abs l Z a0 hw v_33 h0 n0 z0 (by omega)) d4_5 rfl pd1 rfl rfl (Nat.le_of_eq rfl) (by decide) (by decide) (by decide) (by decide) rfl ?_
  rintro _ _ ⟨d, rfl, rfl, hd⟩
  show (Go false l ({ frames := 1, cells := 0, slots := 0, locals := 30 } : Room) Z (⟨"com/example/tenscale/tenscale/RoundingRoundsUpPinLaw", "expected", "(IZJJ)Z"⟩ : MethodName) method_3_code 10 (some .boolean) n0 0 0 (fun u h => ∃ r : Int32, u = some (.int r) ∧ h0 = h ∧ (r.toInt = 0 ∨ r.toInt = 1) ∧ (r.toInt = 1 ↔ (g.toInt = 1)))) h0 (0 + 0) (0 + 0) 8 #[.val (.int (2 : Int32)), .val (.int g), .val (.long k), .second, .val (.long v), .second, .unset, .unset, .unset, .unset] [(.long d)]
  have hd9 : 0 ≤ d.toInt ∧ d.toInt ≤ 9 := by omega
  refine Go.lstore (pc' := 10) (Ls' := #[.val (.int (2 : Int32)), .val (.int g), .val (.long k), .second, .val (.long v), .second, .val (.long d), .second, .unset, .unset]) d4_8 rfl rfl ?_
  refine Go.lload (pc' := 12) d4_10 rfl rfl ?_
  refine Go.lconst (pc' := 13) (v := (1 : Int64)) d4_12 rfl rfl ?_
  refine Go.lcmp (pc' := 14) d4_13 rfl ?_
  have J1 : ∀ b : Int32, ((b.toInt = 1 ∧ k.toInt % 2 = 1) ∨ (b.toInt = 0 ∧ k.toInt % 2 = 0)) → (Go false l ({ frames := 1, cells := 0, slots := 0, locals := 30 } : Room) Z (⟨"com/example/tenscale/tenscale/RoundingRoundsUpPinLaw", "expected", "(IZJJ)Z"⟩ : MethodName) method_3_code 10 (some .boolean) n0 0 0 (fun u h => ∃ r : Int32, u = some (.int r) ∧ h0 = h ∧ (r.toInt = 0 ∨ r.toInt = 1) ∧ (r.toInt = 1 ↔ (g.toInt = 1)))) h0 (0 + 0) (0 + 0) 58 #[.val (.int (2 : Int32)), .val (.int g), .val (.long k), .second, .val (.long v), .second, .val (.long d), .second, .unset, .unset] [(.int b)] := by
    intro b hb
    refine Go.istore (pc' := 60) (Ls' := #[.val (.int (2 : Int32)), .val (.int g), .val (.long k), .second, .val (.long v), .second, .val (.long d), .second, .val (.int b), .unset]) d4_58 rfl rfl ?_
    refine Go.lload (pc' := 62) d4_60 rfl rfl ?_
    refine Go.lconst (pc' := 63) (v := (0 : Int64)) d4_62 rfl rfl ?_
    refine Go.lcmp (pc' := 64) d4_63 rfl ?_
    have J2 : ∀ f : Int32, ((f.toInt = 1 ∧ k.toInt % 5 = 0) ∨ (f.toInt = 0 ∧ k.toInt % 5 ≠ 0)) → (Go false l ({ frames := 1, cells := 0, slots := 0, locals := 30 } : Room) Z (⟨"com/example/tenscale/tenscale/RoundingRoundsUpPinLaw", "expected", "(IZJJ)Z"⟩ : MethodName) method_3_code 10 (some .boolean) n0 0 0 (fun u h => ∃ r : Int32, u = some (.int r) ∧ h0 = h ∧ (r.toInt = 0 ∨ r.toInt = 1) ∧ (r.toInt = 1 ↔ (g.toInt = 1)))) h0 (0 + 0) (0 + 0) 81 #[.val (.int (2 : Int32)), .val (.int g), .val (.long k), .second, .val (.long v), .second, .val (.long d), .second, .val (.int b), .unset] [(.int f)] := by
      intro f hf
      refine Go.istore (pc' := 83) (Ls' := #[.val (.int (2 : Int32)), .val (.int g), .val (.long k), .second, .val (.long v), .second, .val (.long d), .second, .val (.int b), .val (.int f)]) d4_81 rfl rfl ?_
      refine Go.iloadN (pc' := 84) d4_83 rfl rfl ?_
      refine Go.ifc (pc1 := 97) (pc2 := 87) d4_84 (by decide) (by decide) rfl (fun (c_35 : (2 : Int) ≠ 0) => ?_) (fun (c_35 : (2 : Int) = 0) => ?_)
      rotate_left
      · exact absurd c_35 (by decide)
      refine Go.iloadN (pc' := 98) d4_97 rfl rfl ?_
      refine Go.iconst (pc' := 99) (v := (1 : Int32)) d4_98 rfl rfl ?_
      refine Go.icmp (pc1 := 104) (pc2 := 102) d4_99 (by decide) (by decide) rfl (fun (c_36 : (2 : Int) ≠ (1 : Int)) => ?_) (fun (c_36 : (2 : Int) = (1 : Int)) => ?_)
      rotate_left
      · exact absurd c_36 (by decide)
      refine Go.iloadN (pc' := 105) d4_104 rfl rfl ?_
      refine Go.iconst (pc' := 106) (v := (2 : Int32)) d4_105 rfl rfl ?_
      refine Go.icmp (pc1 := 111) (pc2 := 109) d4_106 (by decide) (by decide) rfl (fun (c_37 : (2 : Int) ≠ (2 : Int)) => ?_) (fun (c_37 : (2 : Int) = (2 : Int)) => ?_)
      · exact absurd c_37 (by decide)
      refine Go.iloadN (pc' := 110) d4_109 rfl rfl ?_
      exact Go.retN (t := .boolean) d4_110 rfl (by simp) (own_nar (by omega)) ⟨_, rfl, rfl, by omega, by omega⟩ (by decide) (by decide)
    refine Go.ifw (pc1 := 76) (pc2 := 67) d4_64 (by decide) (by decide) rfl (fun (c_38 : d.toInt = (0 : Int)) => ?_) (fun (c_38 : d.toInt ≠ (0 : Int)) => ?_)
    · refine Go.iconst (pc' := 77) (v := (1 : Int32)) d4_76 rfl rfl ?_
      refine Go.goto (pc' := 81) d4_77 (by decide) (by decide) ?_
      exact J2 _ (Or.inl ⟨rfl, by omega⟩)
    · refine Go.lload (pc' := 69) d4_67 rfl rfl ?_
      refine Go.ldcL (pc' := 72) (hw _ (List.mem_of_getElem? (i := 31) rfl)) d4_69 rfl ?_
      refine Go.lcmp (pc' := 73) d4_72 rfl ?_
      refine Go.ifw (pc1 := 80) (pc2 := 76) d4_73 (by decide) (by decide) rfl (fun (c_39 : d.toInt ≠ (5 : Int)) => ?_) (fun (c_39 : d.toInt = (5 : Int)) => ?_)
      · refine Go.iconst (pc' := 81) (v := (0 : Int32)) d4_80 rfl rfl ?_
        exact J2 _ (Or.inr ⟨rfl, by omega⟩)
      · refine Go.iconst (pc' := 77) (v := (1 : Int32)) d4_76 rfl rfl ?_
        refine Go.goto (pc' := 81) d4_77 (by decide) (by decide) ?_
        exact J2 _ (Or.inl ⟨rfl, by omega⟩)
  refine Go.ifw (pc1 := 53) (pc2 := 17) d4_14 (by decide) (by decide) rfl (fun (c_40 : d.toInt = (1 : Int)) => ?_) (fun (c_40 : d.toInt ≠ (1 : Int)) => ?_)
  · refine Go.iconst (pc' := 54) (v := (1 : Int32)) d4_53 rfl rfl ?_
    refine Go.goto (pc' := 58) d4_54 (by decide) (by decide) ?_
    exact J1 _ (Or.inl ⟨rfl, by omega⟩)
  · refine Go.lload (pc' := 19) d4_17 rfl rfl ?_
    refine Go.ldcL (pc' := 22) (hw _ (List.mem_of_getElem? (i := 34) rfl)) d4_19 rfl ?_
    refine Go.lcmp (pc' := 23) d4_22 rfl ?_
    refine Go.ifw (pc1 := 53) (pc2 := 26) d4_23 (by decide) (by decide) rfl (fun (c_41 : d.toInt = (3 : Int)) => ?_) (fun (c_41 : d.toInt ≠ (3 : Int)) => ?_)
    · refine Go.iconst (pc' := 54) (v := (1 : Int32)) d4_53 rfl rfl ?_
      refine Go.goto (pc' := 58) d4_54 (by decide) (by decide) ?_
      exact J1 _ (Or.inl ⟨rfl, by omega⟩)
    · refine Go.lload (pc' := 28) d4_26 rfl rfl ?_
      refine Go.ldcL (pc' := 31) (hw _ (List.mem_of_getElem? (i := 31) rfl)) d4_28 rfl ?_
      refine Go.lcmp (pc' := 32) d4_31 rfl ?_
      refine Go.ifw (pc1 := 53) (pc2 := 35) d4_32 (by decide) (by decide) rfl (fun (c_42 : d.toInt = (5 : Int)) => ?_) (fun (c_42 : d.toInt ≠ (5 : Int)) => ?_)
      · refine Go.iconst (pc' := 54) (v := (1 : Int32)) d4_53 rfl rfl ?_
        refine Go.goto (pc' := 58) d4_54 (by decide) (by decide) ?_
        exact J1 _ (Or.inl ⟨rfl, by omega⟩)
      · refine Go.lload (pc' := 37) d4_35 rfl rfl ?_
        refine Go.ldcL (pc' := 40) (hw _ (List.mem_of_getElem? (i := 35) rfl)) d4_37 rfl ?_
        refine Go.lcmp (pc' := 41) d4_40 rfl ?_
        refine Go.ifw (pc1 := 53) (pc2 := 44) d4_41 (by decide) (by decide) rfl (fun (c_43 : d.toInt = (7 : Int)) => ?_) (fun (c_43 : d.toInt ≠ (7 : Int)) => ?_)
        · refine Go.iconst (pc' := 54) (v := (1 : Int32)) d4_53 rfl rfl ?_
          refine Go.goto (pc' := 58) d4_54 (by decide) (by decide) ?_
          exact J1 _ (Or.inl ⟨rfl, by omega⟩)
        · refine Go.lload (pc' := 46) d4_44 rfl rfl ?_
          refine Go.ldcL (pc' := 49) (hw _ (List.mem_of_getElem? (i := 36) rfl)) d4_46 rfl ?_
          refine Go.lcmp (pc' := 50) d4_49 rfl ?_
          refine Go.ifw (pc1 := 57) (pc2 := 53) d4_50 (by decide) (by decide) rfl (fun (c_44 : d.toInt ≠ (9 : Int)) => ?_) (fun (c_44 : d.toInt = (9 : Int)) => ?_)
          · refine Go.iconst (pc' := 58) (v := (0 : Int32)) d4_57 rfl rfl ?_
            exact J1 _ (Or.inr ⟨rfl, by omega⟩)
          · refine Go.iconst (pc' := 54) (v := (1 : Int32)) d4_53 rfl rfl ?_
            refine Go.goto (pc' := 58) d4_54 (by decide) (by decide) ?_
            exact J1 _ (Or.inl ⟨rfl, by omega⟩)
set_option maxRecDepth 65536 in
set_option maxHeartbeats 40000000 in
theorem m_pick3 (l : Launch) (Z : State) (a0 : Array Value) (hw : ∀ d ∈ tables_1, d.before a0 Z = true) (a : Addr) (h0 : Heap) (n0 : Nat) (z0 : n0 ≤ h0.size) (hS : Sta Z h0 "com/example/tenscale/tenscale/Rounding" "HALF_DOWN" "Lcom/example/tenscale/tenscale/Rounding;" (.ref a)) : Mt false l Z (⟨"com/example/tenscale/tenscale/RoundingRoundsUpPinLaw", "pick", "(I)Lcom/example/tenscale/tenscale/Rounding;"⟩ : MethodName) method_2_code 1 (some (.object "com/example/tenscale/tenscale/Rounding")) ({ frames := 0, cells := 0, slots := 0, locals := 0 } : Room) n0 (fun v h => v = some (.ref a) ∧ h0 = h) h0 #[(.int (3 : Int32))] := by
  refine Mt.go (Ls := #[.val (.int (3 : Int32))]) (plainFor_of_name pn0) (fun m => by first | (simp [entryFrame, mkF, argsToLocals, Value.category]; done) | rfl) ?_
  show (Go false l ({ frames := 0, cells := 0, slots := 0, locals := 0 } : Room) Z (⟨"com/example/tenscale/tenscale/RoundingRoundsUpPinLaw", "pick", "(I)Lcom/example/tenscale/tenscale/Rounding;"⟩ : MethodName) method_2_code 1 (some (.object "com/example/tenscale/tenscale/Rounding")) n0 0 0 (fun v h => v = some (.ref a) ∧ h0 = h)) h0 0 0 0 #[.val (.int (3 : Int32))] []
  refine Go.iloadN (pc' := 1) d1_0 rfl rfl ?_
  refine Go.ifc (pc1 := 8) (pc2 := 4) d1_1 (by decide) (by decide) rfl (fun (c_45 : (3 : Int) ≠ 0) => ?_) (fun (c_45 : (3 : Int) = 0) => ?_)
  rotate_left
  · exact absurd c_45 (by decide)
  refine Go.iloadN (pc' := 9) d1_8 rfl rfl ?_
  refine Go.iconst (pc' := 10) (v := (1 : Int32)) d1_9 rfl rfl ?_
  refine Go.icmp (pc1 := 17) (pc2 := 13) d1_10 (by decide) (by decide) rfl (fun (c_46 : (3 : Int) ≠ (1 : Int)) => ?_) (fun (c_46 : (3 : Int) = (1 : Int)) => ?_)
  rotate_left
  · exact absurd c_46 (by decide)
  refine Go.iloadN (pc' := 18) d1_17 rfl rfl ?_
  refine Go.iconst (pc' := 19) (v := (2 : Int32)) d1_18 rfl rfl ?_
  refine Go.icmp (pc1 := 26) (pc2 := 22) d1_19 (by decide) (by decide) rfl (fun (c_47 : (3 : Int) ≠ (2 : Int)) => ?_) (fun (c_47 : (3 : Int) = (2 : Int)) => ?_)
  rotate_left
  · exact absurd c_47 (by decide)
  refine Go.iloadN (pc' := 27) d1_26 rfl rfl ?_
  refine Go.iconst (pc' := 28) (v := (3 : Int32)) d1_27 rfl rfl ?_
  refine Go.icmp (pc1 := 35) (pc2 := 31) d1_28 (by decide) (by decide) rfl (fun (c_48 : (3 : Int) ≠ (3 : Int)) => ?_) (fun (c_48 : (3 : Int) = (3 : Int)) => ?_)
  · exact absurd c_48 (by decide)
  refine Go.getS (pc' := 34) (hw _ (List.mem_of_getElem? (i := 39) rfl)) hS d1_31 rfl ?_
  exact Go.retA d1_34 rfl rfl rfl ⟨rfl, rfl⟩ (by decide) (by decide)
set_option maxRecDepth 65536 in
set_option maxHeartbeats 40000000 in
theorem m_up3 (l : Launch) (Z : State) (a0 : Array Value) (hw : ∀ d ∈ tables_1, d.before a0 Z = true) (a : Addr) (g : Int32) (k v : Int64) (h0 : Heap) (n0 : Nat) (z0 : n0 ≤ h0.size) (hE : Exa Z h0 a "com/example/tenscale/tenscale/Rounding") (hF : Fld Z h0 a "java/lang/Enum" "ordinal" "I" (.int (3 : Int32))) (hg : g.toInt = 0 ∨ g.toInt = 1) (hv : -9223372036854775808 < v.toInt ∧ v.toInt < 9223372036854775807) : Mt false l Z (⟨"com/example/tenscale/tenscale/Rounding", "roundsUp", "(ZJJ)Z"⟩ : MethodName) prog_15_method_4_code 6 (some .boolean) ({ frames := 1, cells := 0, slots := 0, locals := 30 } : Room) n0 (fun u h => ∃ r : Int32, u = some (.int r) ∧ h0 = h ∧ (r.toInt = 0 ∨ r.toInt = 1) ∧ (r.toInt = 1 ↔ (0 < v.toInt))) h0 #[(.ref a), (.int g), (.long k), (.long v)] := by
  refine Mt.go (Ls := #[.val (.ref a), .val (.int g), .val (.long k), .second, .val (.long v), .second]) (plainFor_of_name pn1) (fun m => by first | (simp [entryFrame, mkF, argsToLocals, Value.category]; done) | rfl) ?_
  show (Go false l ({ frames := 1, cells := 0, slots := 0, locals := 30 } : Room) Z (⟨"com/example/tenscale/tenscale/Rounding", "roundsUp", "(ZJJ)Z"⟩ : MethodName) prog_15_method_4_code 6 (some .boolean) n0 0 0 (fun u h => ∃ r : Int32, u = some (.int r) ∧ h0 = h ∧ (r.toInt = 0 ∨ r.toInt = 1) ∧ (r.toInt = 1 ↔ (0 < v.toInt)))) h0 0 0 0 #[.val (.ref a), .val (.int g), .val (.long k), .second, .val (.long v), .second] []
  refine Go.aloadN (pc' := 1) d2_0 rfl rfl rfl ?_
  refine Go.callU (pc' := 4) (argsL := []) (rest := []) (W := 0) (owner := "java/lang/Enum") (hw _ (List.mem_of_getElem? (i := 14) rfl)) (hw _ (List.mem_of_getElem? (i := 15) rfl)) (hw _ (List.mem_of_getElem? (i := 16) rfl)) (hw _ (List.mem_of_getElem? (i := 18) rfl)) (hw _ (List.mem_of_getElem? (i := 17) rfl)) (hw _ (List.mem_of_getElem? (i := 19) rfl)) (hw _ (List.mem_of_getElem? (i := 20) rfl)) (by decide) hE (m_o l Z a0 hw a (3 : Int32) h0 n0 z0 hF) d2_1 rfl pd0 rfl rfl (Nat.le_of_eq rfl) (by decide) (by decide) (by decide) (by decide) rfl ?_
  rintro _ _ ⟨rfl, rfl⟩
  show (Go false l ({ frames := 1, cells := 0, slots := 0, locals := 30 } : Room) Z (⟨"com/example/tenscale/tenscale/Rounding", "roundsUp", "(ZJJ)Z"⟩ : MethodName) prog_15_method_4_code 6 (some .boolean) n0 0 0 (fun u h => ∃ r : Int32, u = some (.int r) ∧ h0 = h ∧ (r.toInt = 0 ∨ r.toInt = 1) ∧ (r.toInt = 1 ↔ (0 < v.toInt)))) h0 (0 + 0) (0 + 0) 4 #[.val (.ref a), .val (.int g), .val (.long k), .second, .val (.long v), .second] [(.int (3 : Int32))]
  refine Go.tsw (pc' := 82) (o := 78) d2_4 (by decide) (by decide) (by decide) (by decide) ?_
  refine Go.lload (pc' := 84) d2_82 rfl rfl ?_
  refine Go.lconst (pc' := 85) (v := (0 : Int64)) d2_84 rfl rfl ?_
  refine Go.lcmp (pc' := 86) d2_85 rfl ?_
  refine Go.ifw (pc1 := 93) (pc2 := 89) d2_86 (by decide) (by decide) rfl (fun (c_49 : v.toInt ≤ (0 : Int)) => ?_) (fun (c_49 : (0 : Int) < v.toInt) => ?_)
  · refine Go.iconst (pc' := 94) (v := (0 : Int32)) d2_93 rfl rfl ?_
    refine Go.goto (pc' := 150) d2_94 (by decide) (by decide) ?_
    exact Go.retN (t := .boolean) d2_150 rfl (by simp) rfl ⟨_, rfl, rfl, by decide, by have z0 : (0 : Int32).toInt = 0 := rfl; have z1 : (1 : Int32).toInt = 1 := rfl; omega⟩ (by decide) (by decide)
  · refine Go.iconst (pc' := 90) (v := (1 : Int32)) d2_89 rfl rfl ?_
    refine Go.goto (pc' := 150) d2_90 (by decide) (by decide) ?_
    exact Go.retN (t := .boolean) d2_150 rfl (by simp) rfl ⟨_, rfl, rfl, by decide, by have z0 : (0 : Int32).toInt = 0 := rfl; have z1 : (1 : Int32).toInt = 1 := rfl; omega⟩ (by decide) (by decide)
set_option maxRecDepth 65536 in
set_option maxHeartbeats 40000000 in
theorem m_ex3 (l : Launch) (Z : State) (a0 : Array Value) (hw : ∀ d ∈ tables_1, d.before a0 Z = true) (g : Int32) (k v : Int64) (h0 : Heap) (n0 : Nat) (z0 : n0 ≤ h0.size) (hg : g.toInt = 0 ∨ g.toInt = 1) (hv : -9223372036854775808 < v.toInt ∧ v.toInt < 9223372036854775807) : Mt false l Z (⟨"com/example/tenscale/tenscale/RoundingRoundsUpPinLaw", "expected", "(IZJJ)Z"⟩ : MethodName) method_3_code 10 (some .boolean) ({ frames := 1, cells := 0, slots := 0, locals := 30 } : Room) n0 (fun u h => ∃ r : Int32, u = some (.int r) ∧ h0 = h ∧ (r.toInt = 0 ∨ r.toInt = 1) ∧ (r.toInt = 1 ↔ (0 < v.toInt))) h0 #[(.int (3 : Int32)), (.int g), (.long k), (.long v)] := by
  refine Mt.go (Ls := #[.val (.int (3 : Int32)), .val (.int g), .val (.long k), .second, .val (.long v), .second, .unset, .unset, .unset, .unset]) (plainFor_of_name pn0) (fun m => by first | (simp [entryFrame, mkF, argsToLocals, Value.category]; done) | rfl) ?_
  show (Go false l ({ frames := 1, cells := 0, slots := 0, locals := 30 } : Room) Z (⟨"com/example/tenscale/tenscale/RoundingRoundsUpPinLaw", "expected", "(IZJJ)Z"⟩ : MethodName) method_3_code 10 (some .boolean) n0 0 0 (fun u h => ∃ r : Int32, u = some (.int r) ∧ h0 = h ∧ (r.toInt = 0 ∨ r.toInt = 1) ∧ (r.toInt = 1 ↔ (0 < v.toInt)))) h0 0 0 0 #[.val (.int (3 : Int32)), .val (.int g), .val (.long k), .second, .val (.long v), .second, .unset, .unset, .unset, .unset] []
  refine Go.lloadN (pc' := 1) d4_0 rfl rfl ?_
  refine Go.ldcL (pc' := 4) (hw _ (List.mem_of_getElem? (i := 26) rfl)) d4_1 rfl ?_
  refine Go.lrem (pc' := 5) d4_4 (by decide) rfl ?_
  generalize ev_50 : k % (10 : Int64) = v_50
  have k_51 : -10 < v_50.toInt ∧ v_50.toInt < 10 ∧ ((0 ≤ k.toInt ∧ v_50.toInt = k.toInt % 10) ∨ (k.toInt < 0 ∧ v_50.toInt = -((-k.toInt) % 10))) := by
    rw [← ev_50]
    have : (10 : Int64).toInt = 10 := by decide
    have := c_lremM k (10 : Int64) 10 (by decide)
    have := rng64 (k % (10 : Int64))
    have := rng64 k
    omega
  refine Go.callS (pc' := 8) (argsL := [(.long v_50)]) (rest := []) (W := 0) (hw _ (List.mem_of_getElem? (i := 27) rfl)) (hw _ (List.mem_of_getElem? (i := 28) rfl)) (hw _ (List.mem_of_getElem? (i := 29) rfl)) (hw _ (List.mem_of_getElem? (i := 30) rfl)) (by decide) (m_abs l Z a0 hw v_50 h0 n0 z0 (by omega)) d4_5 rfl pd1 rfl rfl (Nat.le_of_eq rfl) (by decide) (by decide) (by decide) (by decide) rfl ?_
  rintro _ _ ⟨d, rfl, rfl, hd⟩
  show (Go false l ({ frames := 1, cells := 0, slots := 0, locals := 30 } : Room) Z (⟨"com/example/tenscale/tenscale/RoundingRoundsUpPinLaw", "expected", "(IZJJ)Z"⟩ : MethodName) method_3_code 10 (some .boolean) n0 0 0 (fun u h => ∃ r : Int32, u = some (.int r) ∧ h0 = h ∧ (r.toInt = 0 ∨ r.toInt = 1) ∧ (r.toInt = 1 ↔ (0 < v.toInt)))) h0 (0 + 0) (0 + 0) 8 #[.val (.int (3 : Int32)), .val (.int g), .val (.long k), .second, .val (.long v), .second, .unset, .unset, .unset, .unset] [(.long d)]
  have hd9 : 0 ≤ d.toInt ∧ d.toInt ≤ 9 := by omega
  refine Go.lstore (pc' := 10) (Ls' := #[.val (.int (3 : Int32)), .val (.int g), .val (.long k), .second, .val (.long v), .second, .val (.long d), .second, .unset, .unset]) d4_8 rfl rfl ?_
  refine Go.lload (pc' := 12) d4_10 rfl rfl ?_
  refine Go.lconst (pc' := 13) (v := (1 : Int64)) d4_12 rfl rfl ?_
  refine Go.lcmp (pc' := 14) d4_13 rfl ?_
  have J1 : ∀ b : Int32, ((b.toInt = 1 ∧ k.toInt % 2 = 1) ∨ (b.toInt = 0 ∧ k.toInt % 2 = 0)) → (Go false l ({ frames := 1, cells := 0, slots := 0, locals := 30 } : Room) Z (⟨"com/example/tenscale/tenscale/RoundingRoundsUpPinLaw", "expected", "(IZJJ)Z"⟩ : MethodName) method_3_code 10 (some .boolean) n0 0 0 (fun u h => ∃ r : Int32, u = some (.int r) ∧ h0 = h ∧ (r.toInt = 0 ∨ r.toInt = 1) ∧ (r.toInt = 1 ↔ (0 < v.toInt)))) h0 (0 + 0) (0 + 0) 58 #[.val (.int (3 : Int32)), .val (.int g), .val (.long k), .second, .val (.long v), .second, .val (.long d), .second, .unset, .unset] [(.int b)] := by
    intro b hb
    refine Go.istore (pc' := 60) (Ls' := #[.val (.int (3 : Int32)), .val (.int g), .val (.long k), .second, .val (.long v), .second, .val (.long d), .second, .val (.int b), .unset]) d4_58 rfl rfl ?_
    refine Go.lload (pc' := 62) d4_60 rfl rfl ?_
    refine Go.lconst (pc' := 63) (v := (0 : Int64)) d4_62 rfl rfl ?_
    refine Go.lcmp (pc' := 64) d4_63 rfl ?_
    have J2 : ∀ f : Int32, ((f.toInt = 1 ∧ k.toInt % 5 = 0) ∨ (f.toInt = 0 ∧ k.toInt % 5 ≠ 0)) → (Go false l ({ frames := 1, cells := 0, slots := 0, locals := 30 } : Room) Z (⟨"com/example/tenscale/tenscale/RoundingRoundsUpPinLaw", "expected", "(IZJJ)Z"⟩ : MethodName) method_3_code 10 (some .boolean) n0 0 0 (fun u h => ∃ r : Int32, u = some (.int r) ∧ h0 = h ∧ (r.toInt = 0 ∨ r.toInt = 1) ∧ (r.toInt = 1 ↔ (0 < v.toInt)))) h0 (0 + 0) (0 + 0) 81 #[.val (.int (3 : Int32)), .val (.int g), .val (.long k), .second, .val (.long v), .second, .val (.long d), .second, .val (.int b), .unset] [(.int f)] := by
      intro f hf
      refine Go.istore (pc' := 83) (Ls' := #[.val (.int (3 : Int32)), .val (.int g), .val (.long k), .second, .val (.long v), .second, .val (.long d), .second, .val (.int b), .val (.int f)]) d4_81 rfl rfl ?_
      refine Go.iloadN (pc' := 84) d4_83 rfl rfl ?_
      refine Go.ifc (pc1 := 97) (pc2 := 87) d4_84 (by decide) (by decide) rfl (fun (c_52 : (3 : Int) ≠ 0) => ?_) (fun (c_52 : (3 : Int) = 0) => ?_)
      rotate_left
      · exact absurd c_52 (by decide)
      refine Go.iloadN (pc' := 98) d4_97 rfl rfl ?_
      refine Go.iconst (pc' := 99) (v := (1 : Int32)) d4_98 rfl rfl ?_
      refine Go.icmp (pc1 := 104) (pc2 := 102) d4_99 (by decide) (by decide) rfl (fun (c_53 : (3 : Int) ≠ (1 : Int)) => ?_) (fun (c_53 : (3 : Int) = (1 : Int)) => ?_)
      rotate_left
      · exact absurd c_53 (by decide)
      refine Go.iloadN (pc' := 105) d4_104 rfl rfl ?_
      refine Go.iconst (pc' := 106) (v := (2 : Int32)) d4_105 rfl rfl ?_
      refine Go.icmp (pc1 := 111) (pc2 := 109) d4_106 (by decide) (by decide) rfl (fun (c_54 : (3 : Int) ≠ (2 : Int)) => ?_) (fun (c_54 : (3 : Int) = (2 : Int)) => ?_)
      rotate_left
      · exact absurd c_54 (by decide)
      refine Go.iloadN (pc' := 112) d4_111 rfl rfl ?_
      refine Go.iconst (pc' := 113) (v := (3 : Int32)) d4_112 rfl rfl ?_
      refine Go.icmp (pc1 := 129) (pc2 := 116) d4_113 (by decide) (by decide) rfl (fun (c_55 : (3 : Int) ≠ (3 : Int)) => ?_) (fun (c_55 : (3 : Int) = (3 : Int)) => ?_)
      · exact absurd c_55 (by decide)
      refine Go.lload (pc' := 118) d4_116 rfl rfl ?_
      refine Go.lconst (pc' := 119) (v := (0 : Int64)) d4_118 rfl rfl ?_
      refine Go.lcmp (pc' := 120) d4_119 rfl ?_
      refine Go.ifw (pc1 := 127) (pc2 := 123) d4_120 (by decide) (by decide) rfl (fun (c_56 : v.toInt ≤ (0 : Int)) => ?_) (fun (c_56 : (0 : Int) < v.toInt) => ?_)
      · refine Go.iconst (pc' := 128) (v := (0 : Int32)) d4_127 rfl rfl ?_
        exact Go.retN (t := .boolean) d4_128 rfl (by simp) rfl ⟨_, rfl, rfl, by decide, by have z0 : (0 : Int32).toInt = 0 := rfl; have z1 : (1 : Int32).toInt = 1 := rfl; omega⟩ (by decide) (by decide)
      · refine Go.iconst (pc' := 124) (v := (1 : Int32)) d4_123 rfl rfl ?_
        refine Go.goto (pc' := 128) d4_124 (by decide) (by decide) ?_
        exact Go.retN (t := .boolean) d4_128 rfl (by simp) rfl ⟨_, rfl, rfl, by decide, by have z0 : (0 : Int32).toInt = 0 := rfl; have z1 : (1 : Int32).toInt = 1 := rfl; omega⟩ (by decide) (by decide)
    refine Go.ifw (pc1 := 76) (pc2 := 67) d4_64 (by decide) (by decide) rfl (fun (c_57 : d.toInt = (0 : Int)) => ?_) (fun (c_57 : d.toInt ≠ (0 : Int)) => ?_)
    · refine Go.iconst (pc' := 77) (v := (1 : Int32)) d4_76 rfl rfl ?_
      refine Go.goto (pc' := 81) d4_77 (by decide) (by decide) ?_
      exact J2 _ (Or.inl ⟨rfl, by omega⟩)
    · refine Go.lload (pc' := 69) d4_67 rfl rfl ?_
      refine Go.ldcL (pc' := 72) (hw _ (List.mem_of_getElem? (i := 31) rfl)) d4_69 rfl ?_
      refine Go.lcmp (pc' := 73) d4_72 rfl ?_
      refine Go.ifw (pc1 := 80) (pc2 := 76) d4_73 (by decide) (by decide) rfl (fun (c_58 : d.toInt ≠ (5 : Int)) => ?_) (fun (c_58 : d.toInt = (5 : Int)) => ?_)
      · refine Go.iconst (pc' := 81) (v := (0 : Int32)) d4_80 rfl rfl ?_
        exact J2 _ (Or.inr ⟨rfl, by omega⟩)
      · refine Go.iconst (pc' := 77) (v := (1 : Int32)) d4_76 rfl rfl ?_
        refine Go.goto (pc' := 81) d4_77 (by decide) (by decide) ?_
        exact J2 _ (Or.inl ⟨rfl, by omega⟩)
  refine Go.ifw (pc1 := 53) (pc2 := 17) d4_14 (by decide) (by decide) rfl (fun (c_59 : d.toInt = (1 : Int)) => ?_) (fun (c_59 : d.toInt ≠ (1 : Int)) => ?_)
  · refine Go.iconst (pc' := 54) (v := (1 : Int32)) d4_53 rfl rfl ?_
    refine Go.goto (pc' := 58) d4_54 (by decide) (by decide) ?_
    exact J1 _ (Or.inl ⟨rfl, by omega⟩)
  · refine Go.lload (pc' := 19) d4_17 rfl rfl ?_
    refine Go.ldcL (pc' := 22) (hw _ (List.mem_of_getElem? (i := 34) rfl)) d4_19 rfl ?_
    refine Go.lcmp (pc' := 23) d4_22 rfl ?_
    refine Go.ifw (pc1 := 53) (pc2 := 26) d4_23 (by decide) (by decide) rfl (fun (c_60 : d.toInt = (3 : Int)) => ?_) (fun (c_60 : d.toInt ≠ (3 : Int)) => ?_)
    · refine Go.iconst (pc' := 54) (v := (1 : Int32)) d4_53 rfl rfl ?_
      refine Go.goto (pc' := 58) d4_54 (by decide) (by decide) ?_
      exact J1 _ (Or.inl ⟨rfl, by omega⟩)
    · refine Go.lload (pc' := 28) d4_26 rfl rfl ?_
      refine Go.ldcL (pc' := 31) (hw _ (List.mem_of_getElem? (i := 31) rfl)) d4_28 rfl ?_
      refine Go.lcmp (pc' := 32) d4_31 rfl ?_
      refine Go.ifw (pc1 := 53) (pc2 := 35) d4_32 (by decide) (by decide) rfl (fun (c_61 : d.toInt = (5 : Int)) => ?_) (fun (c_61 : d.toInt ≠ (5 : Int)) => ?_)
      · refine Go.iconst (pc' := 54) (v := (1 : Int32)) d4_53 rfl rfl ?_
        refine Go.goto (pc' := 58) d4_54 (by decide) (by decide) ?_
        exact J1 _ (Or.inl ⟨rfl, by omega⟩)
      · refine Go.lload (pc' := 37) d4_35 rfl rfl ?_
        refine Go.ldcL (pc' := 40) (hw _ (List.mem_of_getElem? (i := 35) rfl)) d4_37 rfl ?_
        refine Go.lcmp (pc' := 41) d4_40 rfl ?_
        refine Go.ifw (pc1 := 53) (pc2 := 44) d4_41 (by decide) (by decide) rfl (fun (c_62 : d.toInt = (7 : Int)) => ?_) (fun (c_62 : d.toInt ≠ (7 : Int)) => ?_)
        · refine Go.iconst (pc' := 54) (v := (1 : Int32)) d4_53 rfl rfl ?_
          refine Go.goto (pc' := 58) d4_54 (by decide) (by decide) ?_
          exact J1 _ (Or.inl ⟨rfl, by omega⟩)
        · refine Go.lload (pc' := 46) d4_44 rfl rfl ?_
          refine Go.ldcL (pc' := 49) (hw _ (List.mem_of_getElem? (i := 36) rfl)) d4_46 rfl ?_
          refine Go.lcmp (pc' := 50) d4_49 rfl ?_
          refine Go.ifw (pc1 := 57) (pc2 := 53) d4_50 (by decide) (by decide) rfl (fun (c_63 : d.toInt ≠ (9 : Int)) => ?_) (fun (c_63 : d.toInt = (9 : Int)) => ?_)
          · refine Go.iconst (pc' := 58) (v := (0 : Int32)) d4_57 rfl rfl ?_
            exact J1 _ (Or.inr ⟨rfl, by omega⟩)
          · refine Go.iconst (pc' := 54) (v := (1 : Int32)) d4_53 rfl rfl ?_
            refine Go.goto (pc' := 58) d4_54 (by decide) (by decide) ?_
            exact J1 _ (Or.inl ⟨rfl, by omega⟩)
set_option maxRecDepth 65536 in
set_option maxHeartbeats 40000000 in
theorem m_pick4 (l : Launch) (Z : State) (a0 : Array Value) (hw : ∀ d ∈ tables_1, d.before a0 Z = true) (a : Addr) (h0 : Heap) (n0 : Nat) (z0 : n0 ≤ h0.size) (hS : Sta Z h0 "com/example/tenscale/tenscale/Rounding" "HALF_EVEN" "Lcom/example/tenscale/tenscale/Rounding;" (.ref a)) : Mt false l Z (⟨"com/example/tenscale/tenscale/RoundingRoundsUpPinLaw", "pick", "(I)Lcom/example/tenscale/tenscale/Rounding;"⟩ : MethodName) method_2_code 1 (some (.object "com/example/tenscale/tenscale/Rounding")) ({ frames := 0, cells := 0, slots := 0, locals := 0 } : Room) n0 (fun v h => v = some (.ref a) ∧ h0 = h) h0 #[(.int (4 : Int32))] := by
  refine Mt.go (Ls := #[.val (.int (4 : Int32))]) (plainFor_of_name pn0) (fun m => by first | (simp [entryFrame, mkF, argsToLocals, Value.category]; done) | rfl) ?_
  show (Go false l ({ frames := 0, cells := 0, slots := 0, locals := 0 } : Room) Z (⟨"com/example/tenscale/tenscale/RoundingRoundsUpPinLaw", "pick", "(I)Lcom/example/tenscale/tenscale/Rounding;"⟩ : MethodName) method_2_code 1 (some (.object "com/example/tenscale/tenscale/Rounding")) n0 0 0 (fun v h => v = some (.ref a) ∧ h0 = h)) h0 0 0 0 #[.val (.int (4 : Int32))] []
  refine Go.iloadN (pc' := 1) d1_0 rfl rfl ?_
  refine Go.ifc (pc1 := 8) (pc2 := 4) d1_1 (by decide) (by decide) rfl (fun (c_64 : (4 : Int) ≠ 0) => ?_) (fun (c_64 : (4 : Int) = 0) => ?_)
  rotate_left
  · exact absurd c_64 (by decide)
  refine Go.iloadN (pc' := 9) d1_8 rfl rfl ?_
  refine Go.iconst (pc' := 10) (v := (1 : Int32)) d1_9 rfl rfl ?_
  refine Go.icmp (pc1 := 17) (pc2 := 13) d1_10 (by decide) (by decide) rfl (fun (c_65 : (4 : Int) ≠ (1 : Int)) => ?_) (fun (c_65 : (4 : Int) = (1 : Int)) => ?_)
  rotate_left
  · exact absurd c_65 (by decide)
  refine Go.iloadN (pc' := 18) d1_17 rfl rfl ?_
  refine Go.iconst (pc' := 19) (v := (2 : Int32)) d1_18 rfl rfl ?_
  refine Go.icmp (pc1 := 26) (pc2 := 22) d1_19 (by decide) (by decide) rfl (fun (c_66 : (4 : Int) ≠ (2 : Int)) => ?_) (fun (c_66 : (4 : Int) = (2 : Int)) => ?_)
  rotate_left
  · exact absurd c_66 (by decide)
  refine Go.iloadN (pc' := 27) d1_26 rfl rfl ?_
  refine Go.iconst (pc' := 28) (v := (3 : Int32)) d1_27 rfl rfl ?_
  refine Go.icmp (pc1 := 35) (pc2 := 31) d1_28 (by decide) (by decide) rfl (fun (c_67 : (4 : Int) ≠ (3 : Int)) => ?_) (fun (c_67 : (4 : Int) = (3 : Int)) => ?_)
  rotate_left
  · exact absurd c_67 (by decide)
  refine Go.iloadN (pc' := 36) d1_35 rfl rfl ?_
  refine Go.iconst (pc' := 37) (v := (4 : Int32)) d1_36 rfl rfl ?_
  refine Go.icmp (pc1 := 44) (pc2 := 40) d1_37 (by decide) (by decide) rfl (fun (c_68 : (4 : Int) ≠ (4 : Int)) => ?_) (fun (c_68 : (4 : Int) = (4 : Int)) => ?_)
  · exact absurd c_68 (by decide)
  refine Go.getS (pc' := 43) (hw _ (List.mem_of_getElem? (i := 44) rfl)) hS d1_40 rfl ?_
  exact Go.retA d1_43 rfl rfl rfl ⟨rfl, rfl⟩ (by decide) (by decide)
set_option maxRecDepth 65536 in
set_option maxHeartbeats 40000000 in
theorem m_up4 (l : Launch) (Z : State) (a0 : Array Value) (hw : ∀ d ∈ tables_1, d.before a0 Z = true) (a : Addr) (g : Int32) (k v : Int64) (h0 : Heap) (n0 : Nat) (z0 : n0 ≤ h0.size) (hE : Exa Z h0 a "com/example/tenscale/tenscale/Rounding") (hF : Fld Z h0 a "java/lang/Enum" "ordinal" "I" (.int (4 : Int32))) (hg : g.toInt = 0 ∨ g.toInt = 1) (hv : -9223372036854775808 < v.toInt ∧ v.toInt < 9223372036854775807) : Mt false l Z (⟨"com/example/tenscale/tenscale/Rounding", "roundsUp", "(ZJJ)Z"⟩ : MethodName) prog_15_method_4_code 6 (some .boolean) ({ frames := 1, cells := 0, slots := 0, locals := 30 } : Room) n0 (fun u h => ∃ r : Int32, u = some (.int r) ∧ h0 = h ∧ (r.toInt = 0 ∨ r.toInt = 1) ∧ (r.toInt = 1 ↔ (0 < v.toInt ∨ (v.toInt = 0 ∧ k.toInt % 2 = 1)))) h0 #[(.ref a), (.int g), (.long k), (.long v)] := by
  refine Mt.go (Ls := #[.val (.ref a), .val (.int g), .val (.long k), .second, .val (.long v), .second]) (plainFor_of_name pn1) (fun m => by first | (simp [entryFrame, mkF, argsToLocals, Value.category]; done) | rfl) ?_
  show (Go false l ({ frames := 1, cells := 0, slots := 0, locals := 30 } : Room) Z (⟨"com/example/tenscale/tenscale/Rounding", "roundsUp", "(ZJJ)Z"⟩ : MethodName) prog_15_method_4_code 6 (some .boolean) n0 0 0 (fun u h => ∃ r : Int32, u = some (.int r) ∧ h0 = h ∧ (r.toInt = 0 ∨ r.toInt = 1) ∧ (r.toInt = 1 ↔ (0 < v.toInt ∨ (v.toInt = 0 ∧ k.toInt % 2 = 1))))) h0 0 0 0 #[.val (.ref a), .val (.int g), .val (.long k), .second, .val (.long v), .second] []
  refine Go.aloadN (pc' := 1) d2_0 rfl rfl rfl ?_
  refine Go.callU (pc' := 4) (argsL := []) (rest := []) (W := 0) (owner := "java/lang/Enum") (hw _ (List.mem_of_getElem? (i := 14) rfl)) (hw _ (List.mem_of_getElem? (i := 15) rfl)) (hw _ (List.mem_of_getElem? (i := 16) rfl)) (hw _ (List.mem_of_getElem? (i := 18) rfl)) (hw _ (List.mem_of_getElem? (i := 17) rfl)) (hw _ (List.mem_of_getElem? (i := 19) rfl)) (hw _ (List.mem_of_getElem? (i := 20) rfl)) (by decide) hE (m_o l Z a0 hw a (4 : Int32) h0 n0 z0 hF) d2_1 rfl pd0 rfl rfl (Nat.le_of_eq rfl) (by decide) (by decide) (by decide) (by decide) rfl ?_
  rintro _ _ ⟨rfl, rfl⟩
  show (Go false l ({ frames := 1, cells := 0, slots := 0, locals := 30 } : Room) Z (⟨"com/example/tenscale/tenscale/Rounding", "roundsUp", "(ZJJ)Z"⟩ : MethodName) prog_15_method_4_code 6 (some .boolean) n0 0 0 (fun u h => ∃ r : Int32, u = some (.int r) ∧ h0 = h ∧ (r.toInt = 0 ∨ r.toInt = 1) ∧ (r.toInt = 1 ↔ (0 < v.toInt ∨ (v.toInt = 0 ∧ k.toInt % 2 = 1))))) h0 (0 + 0) (0 + 0) 4 #[.val (.ref a), .val (.int g), .val (.long k), .second, .val (.long v), .second] [(.int (4 : Int32))]
  refine Go.tsw (pc' := 97) (o := 93) d2_4 (by decide) (by decide) (by decide) (by decide) ?_
  refine Go.lload (pc' := 99) d2_97 rfl rfl ?_
  refine Go.lloadN (pc' := 100) d2_99 rfl rfl ?_
  refine Go.lconst (pc' := 101) (v := (1 : Int64)) d2_100 rfl rfl ?_
  refine Go.land (pc' := 102) d2_101 rfl ?_
  refine Go.ladd (pc' := 103) d2_102 rfl ?_
  generalize ev_69 : v + (k &&& (1 : Int64)) = v_69
  have k_70 : v_69.toInt = v.toInt + k.toInt % 2 := by
    rw [← ev_69]
    have : (1 : Int64).toInt = 1 := by decide
    have := c_maskL k (1 : Int64) 1 (by decide) (by decide)
    have := rng64 (k &&& (1 : Int64))
    have := rng64 k
    have := c_ladd v (k &&& (1 : Int64))
    have := rng64 (v + (k &&& (1 : Int64)))
    have := rng64 v
    omega
  refine Go.lconst (pc' := 104) (v := (0 : Int64)) d2_103 rfl rfl ?_
  refine Go.lcmp (pc' := 105) d2_104 rfl ?_
  refine Go.ifw (pc1 := 112) (pc2 := 108) d2_105 (by decide) (by decide) rfl (fun (c_71 : v_69.toInt ≤ (0 : Int)) => ?_) (fun (c_71 : (0 : Int) < v_69.toInt) => ?_)
  · refine Go.iconst (pc' := 113) (v := (0 : Int32)) d2_112 rfl rfl ?_
    refine Go.goto (pc' := 150) d2_113 (by decide) (by decide) ?_
    exact Go.retN (t := .boolean) d2_150 rfl (by simp) rfl ⟨_, rfl, rfl, by decide, by have z0 : (0 : Int32).toInt = 0 := rfl; have z1 : (1 : Int32).toInt = 1 := rfl; omega⟩ (by decide) (by decide)
  · refine Go.iconst (pc' := 109) (v := (1 : Int32)) d2_108 rfl rfl ?_
    refine Go.goto (pc' := 150) d2_109 (by decide) (by decide) ?_
    exact Go.retN (t := .boolean) d2_150 rfl (by simp) rfl ⟨_, rfl, rfl, by decide, by have z0 : (0 : Int32).toInt = 0 := rfl; have z1 : (1 : Int32).toInt = 1 := rfl; omega⟩ (by decide) (by decide)
set_option maxRecDepth 65536 in
set_option maxHeartbeats 40000000 in
theorem m_ex4 (l : Launch) (Z : State) (a0 : Array Value) (hw : ∀ d ∈ tables_1, d.before a0 Z = true) (g : Int32) (k v : Int64) (h0 : Heap) (n0 : Nat) (z0 : n0 ≤ h0.size) (hg : g.toInt = 0 ∨ g.toInt = 1) (hv : -9223372036854775808 < v.toInt ∧ v.toInt < 9223372036854775807) : Mt false l Z (⟨"com/example/tenscale/tenscale/RoundingRoundsUpPinLaw", "expected", "(IZJJ)Z"⟩ : MethodName) method_3_code 10 (some .boolean) ({ frames := 1, cells := 0, slots := 0, locals := 30 } : Room) n0 (fun u h => ∃ r : Int32, u = some (.int r) ∧ h0 = h ∧ (r.toInt = 0 ∨ r.toInt = 1) ∧ (r.toInt = 1 ↔ (0 < v.toInt ∨ (v.toInt = 0 ∧ k.toInt % 2 = 1)))) h0 #[(.int (4 : Int32)), (.int g), (.long k), (.long v)] := by
  refine Mt.go (Ls := #[.val (.int (4 : Int32)), .val (.int g), .val (.long k), .second, .val (.long v), .second, .unset, .unset, .unset, .unset]) (plainFor_of_name pn0) (fun m => by first | (simp [entryFrame, mkF, argsToLocals, Value.category]; done) | rfl) ?_
  show (Go false l ({ frames := 1, cells := 0, slots := 0, locals := 30 } : Room) Z (⟨"com/example/tenscale/tenscale/RoundingRoundsUpPinLaw", "expected", "(IZJJ)Z"⟩ : MethodName) method_3_code 10 (some .boolean) n0 0 0 (fun u h => ∃ r : Int32, u = some (.int r) ∧ h0 = h ∧ (r.toInt = 0 ∨ r.toInt = 1) ∧ (r.toInt = 1 ↔ (0 < v.toInt ∨ (v.toInt = 0 ∧ k.toInt % 2 = 1))))) h0 0 0 0 #[.val (.int (4 : Int32)), .val (.int g), .val (.long k), .second, .val (.long v), .second, .unset, .unset, .unset, .unset] []
  refine Go.lloadN (pc' := 1) d4_0 rfl rfl ?_
  refine Go.ldcL (pc' := 4) (hw _ (List.mem_of_getElem? (i := 26) rfl)) d4_1 rfl ?_
  refine Go.lrem (pc' := 5) d4_4 (by decide) rfl ?_
  generalize ev_72 : k % (10 : Int64) = v_72
  have k_73 : -10 < v_72.toInt ∧ v_72.toInt < 10 ∧ ((0 ≤ k.toInt ∧ v_72.toInt = k.toInt % 10) ∨ (k.toInt < 0 ∧ v_72.toInt = -((-k.toInt) % 10))) := by
    rw [← ev_72]
    have : (10 : Int64).toInt = 10 := by decide
    have := c_lremM k (10 : Int64) 10 (by decide)
    have := rng64 (k % (10 : Int64))
    have := rng64 k
    omega
  refine Go.callS (pc' := 8) (argsL := [(.long v_72)]) (rest := []) (W := 0) (hw _ (List.mem_of_getElem? (i := 27) rfl)) (hw _ (List.mem_of_getElem? (i := 28) rfl)) (hw _ (List.mem_of_getElem? (i := 29) rfl)) (hw _ (List.mem_of_getElem? (i := 30) rfl)) (by decide) (m_abs l Z a0 hw v_72 h0 n0 z0 (by omega)) d4_5 rfl pd1 rfl rfl (Nat.le_of_eq rfl) (by decide) (by decide) (by decide) (by decide) rfl ?_
  rintro _ _ ⟨d, rfl, rfl, hd⟩
  show (Go false l ({ frames := 1, cells := 0, slots := 0, locals := 30 } : Room) Z (⟨"com/example/tenscale/tenscale/RoundingRoundsUpPinLaw", "expected", "(IZJJ)Z"⟩ : MethodName) method_3_code 10 (some .boolean) n0 0 0 (fun u h => ∃ r : Int32, u = some (.int r) ∧ h0 = h ∧ (r.toInt = 0 ∨ r.toInt = 1) ∧ (r.toInt = 1 ↔ (0 < v.toInt ∨ (v.toInt = 0 ∧ k.toInt % 2 = 1))))) h0 (0 + 0) (0 + 0) 8 #[.val (.int (4 : Int32)), .val (.int g), .val (.long k), .second, .val (.long v), .second, .unset, .unset, .unset, .unset] [(.long d)]
  have hd9 : 0 ≤ d.toInt ∧ d.toInt ≤ 9 := by omega
  refine Go.lstore (pc' := 10) (Ls' := #[.val (.int (4 : Int32)), .val (.int g), .val (.long k), .second, .val (.long v), .second, .val (.long d), .second, .unset, .unset]) d4_8 rfl rfl ?_
  refine Go.lload (pc' := 12) d4_10 rfl rfl ?_
  refine Go.lconst (pc' := 13) (v := (1 : Int64)) d4_12 rfl rfl ?_
  refine Go.lcmp (pc' := 14) d4_13 rfl ?_
  have J1 : ∀ b : Int32, ((b.toInt = 1 ∧ k.toInt % 2 = 1) ∨ (b.toInt = 0 ∧ k.toInt % 2 = 0)) → (Go false l ({ frames := 1, cells := 0, slots := 0, locals := 30 } : Room) Z (⟨"com/example/tenscale/tenscale/RoundingRoundsUpPinLaw", "expected", "(IZJJ)Z"⟩ : MethodName) method_3_code 10 (some .boolean) n0 0 0 (fun u h => ∃ r : Int32, u = some (.int r) ∧ h0 = h ∧ (r.toInt = 0 ∨ r.toInt = 1) ∧ (r.toInt = 1 ↔ (0 < v.toInt ∨ (v.toInt = 0 ∧ k.toInt % 2 = 1))))) h0 (0 + 0) (0 + 0) 58 #[.val (.int (4 : Int32)), .val (.int g), .val (.long k), .second, .val (.long v), .second, .val (.long d), .second, .unset, .unset] [(.int b)] := by
    intro b hb
    refine Go.istore (pc' := 60) (Ls' := #[.val (.int (4 : Int32)), .val (.int g), .val (.long k), .second, .val (.long v), .second, .val (.long d), .second, .val (.int b), .unset]) d4_58 rfl rfl ?_
    refine Go.lload (pc' := 62) d4_60 rfl rfl ?_
    refine Go.lconst (pc' := 63) (v := (0 : Int64)) d4_62 rfl rfl ?_
    refine Go.lcmp (pc' := 64) d4_63 rfl ?_
    have J2 : ∀ f : Int32, ((f.toInt = 1 ∧ k.toInt % 5 = 0) ∨ (f.toInt = 0 ∧ k.toInt % 5 ≠ 0)) → (Go false l ({ frames := 1, cells := 0, slots := 0, locals := 30 } : Room) Z (⟨"com/example/tenscale/tenscale/RoundingRoundsUpPinLaw", "expected", "(IZJJ)Z"⟩ : MethodName) method_3_code 10 (some .boolean) n0 0 0 (fun u h => ∃ r : Int32, u = some (.int r) ∧ h0 = h ∧ (r.toInt = 0 ∨ r.toInt = 1) ∧ (r.toInt = 1 ↔ (0 < v.toInt ∨ (v.toInt = 0 ∧ k.toInt % 2 = 1))))) h0 (0 + 0) (0 + 0) 81 #[.val (.int (4 : Int32)), .val (.int g), .val (.long k), .second, .val (.long v), .second, .val (.long d), .second, .val (.int b), .unset] [(.int f)] := by
      intro f hf
      refine Go.istore (pc' := 83) (Ls' := #[.val (.int (4 : Int32)), .val (.int g), .val (.long k), .second, .val (.long v), .second, .val (.long d), .second, .val (.int b), .val (.int f)]) d4_81 rfl rfl ?_
      refine Go.iloadN (pc' := 84) d4_83 rfl rfl ?_
      refine Go.ifc (pc1 := 97) (pc2 := 87) d4_84 (by decide) (by decide) rfl (fun (c_74 : (4 : Int) ≠ 0) => ?_) (fun (c_74 : (4 : Int) = 0) => ?_)
      rotate_left
      · exact absurd c_74 (by decide)
      refine Go.iloadN (pc' := 98) d4_97 rfl rfl ?_
      refine Go.iconst (pc' := 99) (v := (1 : Int32)) d4_98 rfl rfl ?_
      refine Go.icmp (pc1 := 104) (pc2 := 102) d4_99 (by decide) (by decide) rfl (fun (c_75 : (4 : Int) ≠ (1 : Int)) => ?_) (fun (c_75 : (4 : Int) = (1 : Int)) => ?_)
      rotate_left
      · exact absurd c_75 (by decide)
      refine Go.iloadN (pc' := 105) d4_104 rfl rfl ?_
      refine Go.iconst (pc' := 106) (v := (2 : Int32)) d4_105 rfl rfl ?_
      refine Go.icmp (pc1 := 111) (pc2 := 109) d4_106 (by decide) (by decide) rfl (fun (c_76 : (4 : Int) ≠ (2 : Int)) => ?_) (fun (c_76 : (4 : Int) = (2 : Int)) => ?_)
      rotate_left
      · exact absurd c_76 (by decide)
      refine Go.iloadN (pc' := 112) d4_111 rfl rfl ?_
      refine Go.iconst (pc' := 113) (v := (3 : Int32)) d4_112 rfl rfl ?_
      refine Go.icmp (pc1 := 129) (pc2 := 116) d4_113 (by decide) (by decide) rfl (fun (c_77 : (4 : Int) ≠ (3 : Int)) => ?_) (fun (c_77 : (4 : Int) = (3 : Int)) => ?_)
      rotate_left
      · exact absurd c_77 (by decide)
      refine Go.iloadN (pc' := 130) d4_129 rfl rfl ?_
      refine Go.iconst (pc' := 131) (v := (4 : Int32)) d4_130 rfl rfl ?_
      refine Go.icmp (pc1 := 155) (pc2 := 134) d4_131 (by decide) (by decide) rfl (fun (c_78 : (4 : Int) ≠ (4 : Int)) => ?_) (fun (c_78 : (4 : Int) = (4 : Int)) => ?_)
      · exact absurd c_78 (by decide)
      refine Go.lload (pc' := 136) d4_134 rfl rfl ?_
      refine Go.lconst (pc' := 137) (v := (0 : Int64)) d4_136 rfl rfl ?_
      refine Go.lcmp (pc' := 138) d4_137 rfl ?_
      refine Go.ifw (pc1 := 143) (pc2 := 141) d4_138 (by decide) (by decide) rfl (fun (c_79 : v.toInt ≤ (0 : Int)) => ?_) (fun (c_79 : (0 : Int) < v.toInt) => ?_)
      · refine Go.lload (pc' := 145) d4_143 rfl rfl ?_
        refine Go.lconst (pc' := 146) (v := (0 : Int64)) d4_145 rfl rfl ?_
        refine Go.lcmp (pc' := 147) d4_146 rfl ?_
        refine Go.ifw (pc1 := 152) (pc2 := 150) d4_147 (by decide) (by decide) rfl (fun (c_80 : (0 : Int) ≤ v.toInt) => ?_) (fun (c_80 : v.toInt < (0 : Int)) => ?_)
        · refine Go.iload (pc' := 154) d4_152 rfl rfl ?_
          exact Go.retN (t := .boolean) d4_154 rfl (by simp) (own_nar (by omega)) ⟨_, rfl, rfl, by omega, by omega⟩ (by decide) (by decide)
        · refine Go.iconst (pc' := 151) (v := (0 : Int32)) d4_150 rfl rfl ?_
          exact Go.retN (t := .boolean) d4_151 rfl (by simp) rfl ⟨_, rfl, rfl, by decide, by have z0 : (0 : Int32).toInt = 0 := rfl; have z1 : (1 : Int32).toInt = 1 := rfl; omega⟩ (by decide) (by decide)
      · refine Go.iconst (pc' := 142) (v := (1 : Int32)) d4_141 rfl rfl ?_
        exact Go.retN (t := .boolean) d4_142 rfl (by simp) rfl ⟨_, rfl, rfl, by decide, by have z0 : (0 : Int32).toInt = 0 := rfl; have z1 : (1 : Int32).toInt = 1 := rfl; omega⟩ (by decide) (by decide)
    refine Go.ifw (pc1 := 76) (pc2 := 67) d4_64 (by decide) (by decide) rfl (fun (c_81 : d.toInt = (0 : Int)) => ?_) (fun (c_81 : d.toInt ≠ (0 : Int)) => ?_)
    · refine Go.iconst (pc' := 77) (v := (1 : Int32)) d4_76 rfl rfl ?_
      refine Go.goto (pc' := 81) d4_77 (by decide) (by decide) ?_
      exact J2 _ (Or.inl ⟨rfl, by omega⟩)
    · refine Go.lload (pc' := 69) d4_67 rfl rfl ?_
      refine Go.ldcL (pc' := 72) (hw _ (List.mem_of_getElem? (i := 31) rfl)) d4_69 rfl ?_
      refine Go.lcmp (pc' := 73) d4_72 rfl ?_
      refine Go.ifw (pc1 := 80) (pc2 := 76) d4_73 (by decide) (by decide) rfl (fun (c_82 : d.toInt ≠ (5 : Int)) => ?_) (fun (c_82 : d.toInt = (5 : Int)) => ?_)
      · refine Go.iconst (pc' := 81) (v := (0 : Int32)) d4_80 rfl rfl ?_
        exact J2 _ (Or.inr ⟨rfl, by omega⟩)
      · refine Go.iconst (pc' := 77) (v := (1 : Int32)) d4_76 rfl rfl ?_
        refine Go.goto (pc' := 81) d4_77 (by decide) (by decide) ?_
        exact J2 _ (Or.inl ⟨rfl, by omega⟩)
  refine Go.ifw (pc1 := 53) (pc2 := 17) d4_14 (by decide) (by decide) rfl (fun (c_83 : d.toInt = (1 : Int)) => ?_) (fun (c_83 : d.toInt ≠ (1 : Int)) => ?_)
  · refine Go.iconst (pc' := 54) (v := (1 : Int32)) d4_53 rfl rfl ?_
    refine Go.goto (pc' := 58) d4_54 (by decide) (by decide) ?_
    exact J1 _ (Or.inl ⟨rfl, by omega⟩)
  · refine Go.lload (pc' := 19) d4_17 rfl rfl ?_
    refine Go.ldcL (pc' := 22) (hw _ (List.mem_of_getElem? (i := 34) rfl)) d4_19 rfl ?_
    refine Go.lcmp (pc' := 23) d4_22 rfl ?_
    refine Go.ifw (pc1 := 53) (pc2 := 26) d4_23 (by decide) (by decide) rfl (fun (c_84 : d.toInt = (3 : Int)) => ?_) (fun (c_84 : d.toInt ≠ (3 : Int)) => ?_)
    · refine Go.iconst (pc' := 54) (v := (1 : Int32)) d4_53 rfl rfl ?_
      refine Go.goto (pc' := 58) d4_54 (by decide) (by decide) ?_
      exact J1 _ (Or.inl ⟨rfl, by omega⟩)
    · refine Go.lload (pc' := 28) d4_26 rfl rfl ?_
      refine Go.ldcL (pc' := 31) (hw _ (List.mem_of_getElem? (i := 31) rfl)) d4_28 rfl ?_
      refine Go.lcmp (pc' := 32) d4_31 rfl ?_
      refine Go.ifw (pc1 := 53) (pc2 := 35) d4_32 (by decide) (by decide) rfl (fun (c_85 : d.toInt = (5 : Int)) => ?_) (fun (c_85 : d.toInt ≠ (5 : Int)) => ?_)
      · refine Go.iconst (pc' := 54) (v := (1 : Int32)) d4_53 rfl rfl ?_
        refine Go.goto (pc' := 58) d4_54 (by decide) (by decide) ?_
        exact J1 _ (Or.inl ⟨rfl, by omega⟩)
      · refine Go.lload (pc' := 37) d4_35 rfl rfl ?_
        refine Go.ldcL (pc' := 40) (hw _ (List.mem_of_getElem? (i := 35) rfl)) d4_37 rfl ?_
        refine Go.lcmp (pc' := 41) d4_40 rfl ?_
        refine Go.ifw (pc1 := 53) (pc2 := 44) d4_41 (by decide) (by decide) rfl (fun (c_86 : d.toInt = (7 : Int)) => ?_) (fun (c_86 : d.toInt ≠ (7 : Int)) => ?_)
        · refine Go.iconst (pc' := 54) (v := (1 : Int32)) d4_53 rfl rfl ?_
          refine Go.goto (pc' := 58) d4_54 (by decide) (by decide) ?_
          exact J1 _ (Or.inl ⟨rfl, by omega⟩)
        · refine Go.lload (pc' := 46) d4_44 rfl rfl ?_
          refine Go.ldcL (pc' := 49) (hw _ (List.mem_of_getElem? (i := 36) rfl)) d4_46 rfl ?_
          refine Go.lcmp (pc' := 50) d4_49 rfl ?_
          refine Go.ifw (pc1 := 57) (pc2 := 53) d4_50 (by decide) (by decide) rfl (fun (c_87 : d.toInt ≠ (9 : Int)) => ?_) (fun (c_87 : d.toInt = (9 : Int)) => ?_)
          · refine Go.iconst (pc' := 58) (v := (0 : Int32)) d4_57 rfl rfl ?_
            exact J1 _ (Or.inr ⟨rfl, by omega⟩)
          · refine Go.iconst (pc' := 54) (v := (1 : Int32)) d4_53 rfl rfl ?_
            refine Go.goto (pc' := 58) d4_54 (by decide) (by decide) ?_
            exact J1 _ (Or.inl ⟨rfl, by omega⟩)
set_option maxRecDepth 65536 in
set_option maxHeartbeats 40000000 in
theorem m_pick5 (l : Launch) (Z : State) (a0 : Array Value) (hw : ∀ d ∈ tables_1, d.before a0 Z = true) (a : Addr) (h0 : Heap) (n0 : Nat) (z0 : n0 ≤ h0.size) (hS : Sta Z h0 "com/example/tenscale/tenscale/Rounding" "HALF_UP" "Lcom/example/tenscale/tenscale/Rounding;" (.ref a)) : Mt false l Z (⟨"com/example/tenscale/tenscale/RoundingRoundsUpPinLaw", "pick", "(I)Lcom/example/tenscale/tenscale/Rounding;"⟩ : MethodName) method_2_code 1 (some (.object "com/example/tenscale/tenscale/Rounding")) ({ frames := 0, cells := 0, slots := 0, locals := 0 } : Room) n0 (fun v h => v = some (.ref a) ∧ h0 = h) h0 #[(.int (5 : Int32))] := by
  refine Mt.go (Ls := #[.val (.int (5 : Int32))]) (plainFor_of_name pn0) (fun m => by first | (simp [entryFrame, mkF, argsToLocals, Value.category]; done) | rfl) ?_
  show (Go false l ({ frames := 0, cells := 0, slots := 0, locals := 0 } : Room) Z (⟨"com/example/tenscale/tenscale/RoundingRoundsUpPinLaw", "pick", "(I)Lcom/example/tenscale/tenscale/Rounding;"⟩ : MethodName) method_2_code 1 (some (.object "com/example/tenscale/tenscale/Rounding")) n0 0 0 (fun v h => v = some (.ref a) ∧ h0 = h)) h0 0 0 0 #[.val (.int (5 : Int32))] []
  refine Go.iloadN (pc' := 1) d1_0 rfl rfl ?_
  refine Go.ifc (pc1 := 8) (pc2 := 4) d1_1 (by decide) (by decide) rfl (fun (c_88 : (5 : Int) ≠ 0) => ?_) (fun (c_88 : (5 : Int) = 0) => ?_)
  rotate_left
  · exact absurd c_88 (by decide)
  refine Go.iloadN (pc' := 9) d1_8 rfl rfl ?_
  refine Go.iconst (pc' := 10) (v := (1 : Int32)) d1_9 rfl rfl ?_
  refine Go.icmp (pc1 := 17) (pc2 := 13) d1_10 (by decide) (by decide) rfl (fun (c_89 : (5 : Int) ≠ (1 : Int)) => ?_) (fun (c_89 : (5 : Int) = (1 : Int)) => ?_)
  rotate_left
  · exact absurd c_89 (by decide)
  refine Go.iloadN (pc' := 18) d1_17 rfl rfl ?_
  refine Go.iconst (pc' := 19) (v := (2 : Int32)) d1_18 rfl rfl ?_
  refine Go.icmp (pc1 := 26) (pc2 := 22) d1_19 (by decide) (by decide) rfl (fun (c_90 : (5 : Int) ≠ (2 : Int)) => ?_) (fun (c_90 : (5 : Int) = (2 : Int)) => ?_)
  rotate_left
  · exact absurd c_90 (by decide)
  refine Go.iloadN (pc' := 27) d1_26 rfl rfl ?_
  refine Go.iconst (pc' := 28) (v := (3 : Int32)) d1_27 rfl rfl ?_
  refine Go.icmp (pc1 := 35) (pc2 := 31) d1_28 (by decide) (by decide) rfl (fun (c_91 : (5 : Int) ≠ (3 : Int)) => ?_) (fun (c_91 : (5 : Int) = (3 : Int)) => ?_)
  rotate_left
  · exact absurd c_91 (by decide)
  refine Go.iloadN (pc' := 36) d1_35 rfl rfl ?_
  refine Go.iconst (pc' := 37) (v := (4 : Int32)) d1_36 rfl rfl ?_
  refine Go.icmp (pc1 := 44) (pc2 := 40) d1_37 (by decide) (by decide) rfl (fun (c_92 : (5 : Int) ≠ (4 : Int)) => ?_) (fun (c_92 : (5 : Int) = (4 : Int)) => ?_)
  rotate_left
  · exact absurd c_92 (by decide)
  refine Go.iloadN (pc' := 45) d1_44 rfl rfl ?_
  refine Go.iconst (pc' := 46) (v := (5 : Int32)) d1_45 rfl rfl ?_
  refine Go.icmp (pc1 := 53) (pc2 := 49) d1_46 (by decide) (by decide) rfl (fun (c_93 : (5 : Int) ≠ (5 : Int)) => ?_) (fun (c_93 : (5 : Int) = (5 : Int)) => ?_)
  · exact absurd c_93 (by decide)
  refine Go.getS (pc' := 52) (hw _ (List.mem_of_getElem? (i := 46) rfl)) hS d1_49 rfl ?_
  exact Go.retA d1_52 rfl rfl rfl ⟨rfl, rfl⟩ (by decide) (by decide)
set_option maxRecDepth 65536 in
set_option maxHeartbeats 40000000 in
theorem m_up5 (l : Launch) (Z : State) (a0 : Array Value) (hw : ∀ d ∈ tables_1, d.before a0 Z = true) (a : Addr) (g : Int32) (k v : Int64) (h0 : Heap) (n0 : Nat) (z0 : n0 ≤ h0.size) (hE : Exa Z h0 a "com/example/tenscale/tenscale/Rounding") (hF : Fld Z h0 a "java/lang/Enum" "ordinal" "I" (.int (5 : Int32))) (hg : g.toInt = 0 ∨ g.toInt = 1) (hv : -9223372036854775808 < v.toInt ∧ v.toInt < 9223372036854775807) : Mt false l Z (⟨"com/example/tenscale/tenscale/Rounding", "roundsUp", "(ZJJ)Z"⟩ : MethodName) prog_15_method_4_code 6 (some .boolean) ({ frames := 1, cells := 0, slots := 0, locals := 30 } : Room) n0 (fun u h => ∃ r : Int32, u = some (.int r) ∧ h0 = h ∧ (r.toInt = 0 ∨ r.toInt = 1) ∧ (r.toInt = 1 ↔ (0 ≤ v.toInt))) h0 #[(.ref a), (.int g), (.long k), (.long v)] := by
  refine Mt.go (Ls := #[.val (.ref a), .val (.int g), .val (.long k), .second, .val (.long v), .second]) (plainFor_of_name pn1) (fun m => by first | (simp [entryFrame, mkF, argsToLocals, Value.category]; done) | rfl) ?_
  show (Go false l ({ frames := 1, cells := 0, slots := 0, locals := 30 } : Room) Z (⟨"com/example/tenscale/tenscale/Rounding", "roundsUp", "(ZJJ)Z"⟩ : MethodName) prog_15_method_4_code 6 (some .boolean) n0 0 0 (fun u h => ∃ r : Int32, u = some (.int r) ∧ h0 = h ∧ (r.toInt = 0 ∨ r.toInt = 1) ∧ (r.toInt = 1 ↔ (0 ≤ v.toInt)))) h0 0 0 0 #[.val (.ref a), .val (.int g), .val (.long k), .second, .val (.long v), .second] []
  refine Go.aloadN (pc' := 1) d2_0 rfl rfl rfl ?_
  refine Go.callU (pc' := 4) (argsL := []) (rest := []) (W := 0) (owner := "java/lang/Enum") (hw _ (List.mem_of_getElem? (i := 14) rfl)) (hw _ (List.mem_of_getElem? (i := 15) rfl)) (hw _ (List.mem_of_getElem? (i := 16) rfl)) (hw _ (List.mem_of_getElem? (i := 18) rfl)) (hw _ (List.mem_of_getElem? (i := 17) rfl)) (hw _ (List.mem_of_getElem? (i := 19) rfl)) (hw _ (List.mem_of_getElem? (i := 20) rfl)) (by decide) hE (m_o l Z a0 hw a (5 : Int32) h0 n0 z0 hF) d2_1 rfl pd0 rfl rfl (Nat.le_of_eq rfl) (by decide) (by decide) (by decide) (by decide) rfl ?_
  rintro _ _ ⟨rfl, rfl⟩
  show (Go false l ({ frames := 1, cells := 0, slots := 0, locals := 30 } : Room) Z (⟨"com/example/tenscale/tenscale/Rounding", "roundsUp", "(ZJJ)Z"⟩ : MethodName) prog_15_method_4_code 6 (some .boolean) n0 0 0 (fun u h => ∃ r : Int32, u = some (.int r) ∧ h0 = h ∧ (r.toInt = 0 ∨ r.toInt = 1) ∧ (r.toInt = 1 ↔ (0 ≤ v.toInt)))) h0 (0 + 0) (0 + 0) 4 #[.val (.ref a), .val (.int g), .val (.long k), .second, .val (.long v), .second] [(.int (5 : Int32))]
  refine Go.tsw (pc' := 116) (o := 112) d2_4 (by decide) (by decide) (by decide) (by decide) ?_
  refine Go.lload (pc' := 118) d2_116 rfl rfl ?_
  refine Go.lconst (pc' := 119) (v := (0 : Int64)) d2_118 rfl rfl ?_
  refine Go.lcmp (pc' := 120) d2_119 rfl ?_
  refine Go.ifw (pc1 := 127) (pc2 := 123) d2_120 (by decide) (by decide) rfl (fun (c_94 : v.toInt < (0 : Int)) => ?_) (fun (c_94 : (0 : Int) ≤ v.toInt) => ?_)
  · refine Go.iconst (pc' := 128) (v := (0 : Int32)) d2_127 rfl rfl ?_
    refine Go.goto (pc' := 150) d2_128 (by decide) (by decide) ?_
    exact Go.retN (t := .boolean) d2_150 rfl (by simp) rfl ⟨_, rfl, rfl, by decide, by have z0 : (0 : Int32).toInt = 0 := rfl; have z1 : (1 : Int32).toInt = 1 := rfl; omega⟩ (by decide) (by decide)
  · refine Go.iconst (pc' := 124) (v := (1 : Int32)) d2_123 rfl rfl ?_
    refine Go.goto (pc' := 150) d2_124 (by decide) (by decide) ?_
    exact Go.retN (t := .boolean) d2_150 rfl (by simp) rfl ⟨_, rfl, rfl, by decide, by have z0 : (0 : Int32).toInt = 0 := rfl; have z1 : (1 : Int32).toInt = 1 := rfl; omega⟩ (by decide) (by decide)
set_option maxRecDepth 65536 in
set_option maxHeartbeats 40000000 in
theorem m_ex5 (l : Launch) (Z : State) (a0 : Array Value) (hw : ∀ d ∈ tables_1, d.before a0 Z = true) (g : Int32) (k v : Int64) (h0 : Heap) (n0 : Nat) (z0 : n0 ≤ h0.size) (hg : g.toInt = 0 ∨ g.toInt = 1) (hv : -9223372036854775808 < v.toInt ∧ v.toInt < 9223372036854775807) : Mt false l Z (⟨"com/example/tenscale/tenscale/RoundingRoundsUpPinLaw", "expected", "(IZJJ)Z"⟩ : MethodName) method_3_code 10 (some .boolean) ({ frames := 1, cells := 0, slots := 0, locals := 30 } : Room) n0 (fun u h => ∃ r : Int32, u = some (.int r) ∧ h0 = h ∧ (r.toInt = 0 ∨ r.toInt = 1) ∧ (r.toInt = 1 ↔ (0 ≤ v.toInt))) h0 #[(.int (5 : Int32)), (.int g), (.long k), (.long v)] := by
  refine Mt.go (Ls := #[.val (.int (5 : Int32)), .val (.int g), .val (.long k), .second, .val (.long v), .second, .unset, .unset, .unset, .unset]) (plainFor_of_name pn0) (fun m => by first | (simp [entryFrame, mkF, argsToLocals, Value.category]; done) | rfl) ?_
  show (Go false l ({ frames := 1, cells := 0, slots := 0, locals := 30 } : Room) Z (⟨"com/example/tenscale/tenscale/RoundingRoundsUpPinLaw", "expected", "(IZJJ)Z"⟩ : MethodName) method_3_code 10 (some .boolean) n0 0 0 (fun u h => ∃ r : Int32, u = some (.int r) ∧ h0 = h ∧ (r.toInt = 0 ∨ r.toInt = 1) ∧ (r.toInt = 1 ↔ (0 ≤ v.toInt)))) h0 0 0 0 #[.val (.int (5 : Int32)), .val (.int g), .val (.long k), .second, .val (.long v), .second, .unset, .unset, .unset, .unset] []
  refine Go.lloadN (pc' := 1) d4_0 rfl rfl ?_
  refine Go.ldcL (pc' := 4) (hw _ (List.mem_of_getElem? (i := 26) rfl)) d4_1 rfl ?_
  refine Go.lrem (pc' := 5) d4_4 (by decide) rfl ?_
  generalize ev_95 : k % (10 : Int64) = v_95
  have k_96 : -10 < v_95.toInt ∧ v_95.toInt < 10 ∧ ((0 ≤ k.toInt ∧ v_95.toInt = k.toInt % 10) ∨ (k.toInt < 0 ∧ v_95.toInt = -((-k.toInt) % 10))) := by
    rw [← ev_95]
    have : (10 : Int64).toInt = 10 := by decide
    have := c_lremM k (10 : Int64) 10 (by decide)
    have := rng64 (k % (10 : Int64))
    have := rng64 k
    omega
  refine Go.callS (pc' := 8) (argsL := [(.long v_95)]) (rest := []) (W := 0) (hw _ (List.mem_of_getElem? (i := 27) rfl)) (hw _ (List.mem_of_getElem? (i := 28) rfl)) (hw _ (List.mem_of_getElem? (i := 29) rfl)) (hw _ (List.mem_of_getElem? (i := 30) rfl)) (by decide) (m_abs l Z a0 hw v_95 h0 n0 z0 (by omega)) d4_5 rfl pd1 rfl rfl (Nat.le_of_eq rfl) (by decide) (by decide) (by decide) (by decide) rfl ?_
  rintro _ _ ⟨d, rfl, rfl, hd⟩
  show (Go false l ({ frames := 1, cells := 0, slots := 0, locals := 30 } : Room) Z (⟨"com/example/tenscale/tenscale/RoundingRoundsUpPinLaw", "expected", "(IZJJ)Z"⟩ : MethodName) method_3_code 10 (some .boolean) n0 0 0 (fun u h => ∃ r : Int32, u = some (.int r) ∧ h0 = h ∧ (r.toInt = 0 ∨ r.toInt = 1) ∧ (r.toInt = 1 ↔ (0 ≤ v.toInt)))) h0 (0 + 0) (0 + 0) 8 #[.val (.int (5 : Int32)), .val (.int g), .val (.long k), .second, .val (.long v), .second, .unset, .unset, .unset, .unset] [(.long d)]
  have hd9 : 0 ≤ d.toInt ∧ d.toInt ≤ 9 := by omega
  refine Go.lstore (pc' := 10) (Ls' := #[.val (.int (5 : Int32)), .val (.int g), .val (.long k), .second, .val (.long v), .second, .val (.long d), .second, .unset, .unset]) d4_8 rfl rfl ?_
  refine Go.lload (pc' := 12) d4_10 rfl rfl ?_
  refine Go.lconst (pc' := 13) (v := (1 : Int64)) d4_12 rfl rfl ?_
  refine Go.lcmp (pc' := 14) d4_13 rfl ?_
  have J1 : ∀ b : Int32, ((b.toInt = 1 ∧ k.toInt % 2 = 1) ∨ (b.toInt = 0 ∧ k.toInt % 2 = 0)) → (Go false l ({ frames := 1, cells := 0, slots := 0, locals := 30 } : Room) Z (⟨"com/example/tenscale/tenscale/RoundingRoundsUpPinLaw", "expected", "(IZJJ)Z"⟩ : MethodName) method_3_code 10 (some .boolean) n0 0 0 (fun u h => ∃ r : Int32, u = some (.int r) ∧ h0 = h ∧ (r.toInt = 0 ∨ r.toInt = 1) ∧ (r.toInt = 1 ↔ (0 ≤ v.toInt)))) h0 (0 + 0) (0 + 0) 58 #[.val (.int (5 : Int32)), .val (.int g), .val (.long k), .second, .val (.long v), .second, .val (.long d), .second, .unset, .unset] [(.int b)] := by
    intro b hb
    refine Go.istore (pc' := 60) (Ls' := #[.val (.int (5 : Int32)), .val (.int g), .val (.long k), .second, .val (.long v), .second, .val (.long d), .second, .val (.int b), .unset]) d4_58 rfl rfl ?_
    refine Go.lload (pc' := 62) d4_60 rfl rfl ?_
    refine Go.lconst (pc' := 63) (v := (0 : Int64)) d4_62 rfl rfl ?_
    refine Go.lcmp (pc' := 64) d4_63 rfl ?_
    have J2 : ∀ f : Int32, ((f.toInt = 1 ∧ k.toInt % 5 = 0) ∨ (f.toInt = 0 ∧ k.toInt % 5 ≠ 0)) → (Go false l ({ frames := 1, cells := 0, slots := 0, locals := 30 } : Room) Z (⟨"com/example/tenscale/tenscale/RoundingRoundsUpPinLaw", "expected", "(IZJJ)Z"⟩ : MethodName) method_3_code 10 (some .boolean) n0 0 0 (fun u h => ∃ r : Int32, u = some (.int r) ∧ h0 = h ∧ (r.toInt = 0 ∨ r.toInt = 1) ∧ (r.toInt = 1 ↔ (0 ≤ v.toInt)))) h0 (0 + 0) (0 + 0) 81 #[.val (.int (5 : Int32)), .val (.int g), .val (.long k), .second, .val (.long v), .second, .val (.long d), .second, .val (.int b), .unset] [(.int f)] := by
      intro f hf
      refine Go.istore (pc' := 83) (Ls' := #[.val (.int (5 : Int32)), .val (.int g), .val (.long k), .second, .val (.long v), .second, .val (.long d), .second, .val (.int b), .val (.int f)]) d4_81 rfl rfl ?_
      refine Go.iloadN (pc' := 84) d4_83 rfl rfl ?_
      refine Go.ifc (pc1 := 97) (pc2 := 87) d4_84 (by decide) (by decide) rfl (fun (c_97 : (5 : Int) ≠ 0) => ?_) (fun (c_97 : (5 : Int) = 0) => ?_)
      rotate_left
      · exact absurd c_97 (by decide)
      refine Go.iloadN (pc' := 98) d4_97 rfl rfl ?_
      refine Go.iconst (pc' := 99) (v := (1 : Int32)) d4_98 rfl rfl ?_
      refine Go.icmp (pc1 := 104) (pc2 := 102) d4_99 (by decide) (by decide) rfl (fun (c_98 : (5 : Int) ≠ (1 : Int)) => ?_) (fun (c_98 : (5 : Int) = (1 : Int)) => ?_)
      rotate_left
      · exact absurd c_98 (by decide)
      refine Go.iloadN (pc' := 105) d4_104 rfl rfl ?_
      refine Go.iconst (pc' := 106) (v := (2 : Int32)) d4_105 rfl rfl ?_
      refine Go.icmp (pc1 := 111) (pc2 := 109) d4_106 (by decide) (by decide) rfl (fun (c_99 : (5 : Int) ≠ (2 : Int)) => ?_) (fun (c_99 : (5 : Int) = (2 : Int)) => ?_)
      rotate_left
      · exact absurd c_99 (by decide)
      refine Go.iloadN (pc' := 112) d4_111 rfl rfl ?_
      refine Go.iconst (pc' := 113) (v := (3 : Int32)) d4_112 rfl rfl ?_
      refine Go.icmp (pc1 := 129) (pc2 := 116) d4_113 (by decide) (by decide) rfl (fun (c_100 : (5 : Int) ≠ (3 : Int)) => ?_) (fun (c_100 : (5 : Int) = (3 : Int)) => ?_)
      rotate_left
      · exact absurd c_100 (by decide)
      refine Go.iloadN (pc' := 130) d4_129 rfl rfl ?_
      refine Go.iconst (pc' := 131) (v := (4 : Int32)) d4_130 rfl rfl ?_
      refine Go.icmp (pc1 := 155) (pc2 := 134) d4_131 (by decide) (by decide) rfl (fun (c_101 : (5 : Int) ≠ (4 : Int)) => ?_) (fun (c_101 : (5 : Int) = (4 : Int)) => ?_)
      rotate_left
      · exact absurd c_101 (by decide)
      refine Go.iloadN (pc' := 156) d4_155 rfl rfl ?_
      refine Go.iconst (pc' := 157) (v := (5 : Int32)) d4_156 rfl rfl ?_
      refine Go.icmp (pc1 := 173) (pc2 := 160) d4_157 (by decide) (by decide) rfl (fun (c_102 : (5 : Int) ≠ (5 : Int)) => ?_) (fun (c_102 : (5 : Int) = (5 : Int)) => ?_)
      · exact absurd c_102 (by decide)
      refine Go.lload (pc' := 162) d4_160 rfl rfl ?_
      refine Go.lconst (pc' := 163) (v := (0 : Int64)) d4_162 rfl rfl ?_
      refine Go.lcmp (pc' := 164) d4_163 rfl ?_
      refine Go.ifw (pc1 := 171) (pc2 := 167) d4_164 (by decide) (by decide) rfl (fun (c_103 : v.toInt < (0 : Int)) => ?_) (fun (c_103 : (0 : Int) ≤ v.toInt) => ?_)
      · refine Go.iconst (pc' := 172) (v := (0 : Int32)) d4_171 rfl rfl ?_
        exact Go.retN (t := .boolean) d4_172 rfl (by simp) rfl ⟨_, rfl, rfl, by decide, by have z0 : (0 : Int32).toInt = 0 := rfl; have z1 : (1 : Int32).toInt = 1 := rfl; omega⟩ (by decide) (by decide)
      · refine Go.iconst (pc' := 168) (v := (1 : Int32)) d4_167 rfl rfl ?_
        refine Go.goto (pc' := 172) d4_168 (by decide) (by decide) ?_
        exact Go.retN (t := .boolean) d4_172 rfl (by simp) rfl ⟨_, rfl, rfl, by decide, by have z0 : (0 : Int32).toInt = 0 := rfl; have z1 : (1 : Int32).toInt = 1 := rfl; omega⟩ (by decide) (by decide)
    refine Go.ifw (pc1 := 76) (pc2 := 67) d4_64 (by decide) (by decide) rfl (fun (c_104 : d.toInt = (0 : Int)) => ?_) (fun (c_104 : d.toInt ≠ (0 : Int)) => ?_)
    · refine Go.iconst (pc' := 77) (v := (1 : Int32)) d4_76 rfl rfl ?_
      refine Go.goto (pc' := 81) d4_77 (by decide) (by decide) ?_
      exact J2 _ (Or.inl ⟨rfl, by omega⟩)
    · refine Go.lload (pc' := 69) d4_67 rfl rfl ?_
      refine Go.ldcL (pc' := 72) (hw _ (List.mem_of_getElem? (i := 31) rfl)) d4_69 rfl ?_
      refine Go.lcmp (pc' := 73) d4_72 rfl ?_
      refine Go.ifw (pc1 := 80) (pc2 := 76) d4_73 (by decide) (by decide) rfl (fun (c_105 : d.toInt ≠ (5 : Int)) => ?_) (fun (c_105 : d.toInt = (5 : Int)) => ?_)
      · refine Go.iconst (pc' := 81) (v := (0 : Int32)) d4_80 rfl rfl ?_
        exact J2 _ (Or.inr ⟨rfl, by omega⟩)
      · refine Go.iconst (pc' := 77) (v := (1 : Int32)) d4_76 rfl rfl ?_
        refine Go.goto (pc' := 81) d4_77 (by decide) (by decide) ?_
        exact J2 _ (Or.inl ⟨rfl, by omega⟩)
  refine Go.ifw (pc1 := 53) (pc2 := 17) d4_14 (by decide) (by decide) rfl (fun (c_106 : d.toInt = (1 : Int)) => ?_) (fun (c_106 : d.toInt ≠ (1 : Int)) => ?_)
  · refine Go.iconst (pc' := 54) (v := (1 : Int32)) d4_53 rfl rfl ?_
    refine Go.goto (pc' := 58) d4_54 (by decide) (by decide) ?_
    exact J1 _ (Or.inl ⟨rfl, by omega⟩)
  · refine Go.lload (pc' := 19) d4_17 rfl rfl ?_
    refine Go.ldcL (pc' := 22) (hw _ (List.mem_of_getElem? (i := 34) rfl)) d4_19 rfl ?_
    refine Go.lcmp (pc' := 23) d4_22 rfl ?_
    refine Go.ifw (pc1 := 53) (pc2 := 26) d4_23 (by decide) (by decide) rfl (fun (c_107 : d.toInt = (3 : Int)) => ?_) (fun (c_107 : d.toInt ≠ (3 : Int)) => ?_)
    · refine Go.iconst (pc' := 54) (v := (1 : Int32)) d4_53 rfl rfl ?_
      refine Go.goto (pc' := 58) d4_54 (by decide) (by decide) ?_
      exact J1 _ (Or.inl ⟨rfl, by omega⟩)
    · refine Go.lload (pc' := 28) d4_26 rfl rfl ?_
      refine Go.ldcL (pc' := 31) (hw _ (List.mem_of_getElem? (i := 31) rfl)) d4_28 rfl ?_
      refine Go.lcmp (pc' := 32) d4_31 rfl ?_
      refine Go.ifw (pc1 := 53) (pc2 := 35) d4_32 (by decide) (by decide) rfl (fun (c_108 : d.toInt = (5 : Int)) => ?_) (fun (c_108 : d.toInt ≠ (5 : Int)) => ?_)
      · refine Go.iconst (pc' := 54) (v := (1 : Int32)) d4_53 rfl rfl ?_
        refine Go.goto (pc' := 58) d4_54 (by decide) (by decide) ?_
        exact J1 _ (Or.inl ⟨rfl, by omega⟩)
      · refine Go.lload (pc' := 37) d4_35 rfl rfl ?_
        refine Go.ldcL (pc' := 40) (hw _ (List.mem_of_getElem? (i := 35) rfl)) d4_37 rfl ?_
        refine Go.lcmp (pc' := 41) d4_40 rfl ?_
        refine Go.ifw (pc1 := 53) (pc2 := 44) d4_41 (by decide) (by decide) rfl (fun (c_109 : d.toInt = (7 : Int)) => ?_) (fun (c_109 : d.toInt ≠ (7 : Int)) => ?_)
        · refine Go.iconst (pc' := 54) (v := (1 : Int32)) d4_53 rfl rfl ?_
          refine Go.goto (pc' := 58) d4_54 (by decide) (by decide) ?_
          exact J1 _ (Or.inl ⟨rfl, by omega⟩)
        · refine Go.lload (pc' := 46) d4_44 rfl rfl ?_
          refine Go.ldcL (pc' := 49) (hw _ (List.mem_of_getElem? (i := 36) rfl)) d4_46 rfl ?_
          refine Go.lcmp (pc' := 50) d4_49 rfl ?_
          refine Go.ifw (pc1 := 57) (pc2 := 53) d4_50 (by decide) (by decide) rfl (fun (c_110 : d.toInt ≠ (9 : Int)) => ?_) (fun (c_110 : d.toInt = (9 : Int)) => ?_)
          · refine Go.iconst (pc' := 58) (v := (0 : Int32)) d4_57 rfl rfl ?_
            exact J1 _ (Or.inr ⟨rfl, by omega⟩)
          · refine Go.iconst (pc' := 54) (v := (1 : Int32)) d4_53 rfl rfl ?_
            refine Go.goto (pc' := 58) d4_54 (by decide) (by decide) ?_
            exact J1 _ (Or.inl ⟨rfl, by omega⟩)
set_option maxRecDepth 65536 in
set_option maxHeartbeats 40000000 in
theorem m_pick6 (l : Launch) (Z : State) (a0 : Array Value) (hw : ∀ d ∈ tables_1, d.before a0 Z = true) (a : Addr) (h0 : Heap) (n0 : Nat) (z0 : n0 ≤ h0.size) (hS : Sta Z h0 "com/example/tenscale/tenscale/Rounding" "UP" "Lcom/example/tenscale/tenscale/Rounding;" (.ref a)) : Mt false l Z (⟨"com/example/tenscale/tenscale/RoundingRoundsUpPinLaw", "pick", "(I)Lcom/example/tenscale/tenscale/Rounding;"⟩ : MethodName) method_2_code 1 (some (.object "com/example/tenscale/tenscale/Rounding")) ({ frames := 0, cells := 0, slots := 0, locals := 0 } : Room) n0 (fun v h => v = some (.ref a) ∧ h0 = h) h0 #[(.int (6 : Int32))] := by
  refine Mt.go (Ls := #[.val (.int (6 : Int32))]) (plainFor_of_name pn0) (fun m => by first | (simp [entryFrame, mkF, argsToLocals, Value.category]; done) | rfl) ?_
  show (Go false l ({ frames := 0, cells := 0, slots := 0, locals := 0 } : Room) Z (⟨"com/example/tenscale/tenscale/RoundingRoundsUpPinLaw", "pick", "(I)Lcom/example/tenscale/tenscale/Rounding;"⟩ : MethodName) method_2_code 1 (some (.object "com/example/tenscale/tenscale/Rounding")) n0 0 0 (fun v h => v = some (.ref a) ∧ h0 = h)) h0 0 0 0 #[.val (.int (6 : Int32))] []
  refine Go.iloadN (pc' := 1) d1_0 rfl rfl ?_
  refine Go.ifc (pc1 := 8) (pc2 := 4) d1_1 (by decide) (by decide) rfl (fun (c_111 : (6 : Int) ≠ 0) => ?_) (fun (c_111 : (6 : Int) = 0) => ?_)
  rotate_left
  · exact absurd c_111 (by decide)
  refine Go.iloadN (pc' := 9) d1_8 rfl rfl ?_
  refine Go.iconst (pc' := 10) (v := (1 : Int32)) d1_9 rfl rfl ?_
  refine Go.icmp (pc1 := 17) (pc2 := 13) d1_10 (by decide) (by decide) rfl (fun (c_112 : (6 : Int) ≠ (1 : Int)) => ?_) (fun (c_112 : (6 : Int) = (1 : Int)) => ?_)
  rotate_left
  · exact absurd c_112 (by decide)
  refine Go.iloadN (pc' := 18) d1_17 rfl rfl ?_
  refine Go.iconst (pc' := 19) (v := (2 : Int32)) d1_18 rfl rfl ?_
  refine Go.icmp (pc1 := 26) (pc2 := 22) d1_19 (by decide) (by decide) rfl (fun (c_113 : (6 : Int) ≠ (2 : Int)) => ?_) (fun (c_113 : (6 : Int) = (2 : Int)) => ?_)
  rotate_left
  · exact absurd c_113 (by decide)
  refine Go.iloadN (pc' := 27) d1_26 rfl rfl ?_
  refine Go.iconst (pc' := 28) (v := (3 : Int32)) d1_27 rfl rfl ?_
  refine Go.icmp (pc1 := 35) (pc2 := 31) d1_28 (by decide) (by decide) rfl (fun (c_114 : (6 : Int) ≠ (3 : Int)) => ?_) (fun (c_114 : (6 : Int) = (3 : Int)) => ?_)
  rotate_left
  · exact absurd c_114 (by decide)
  refine Go.iloadN (pc' := 36) d1_35 rfl rfl ?_
  refine Go.iconst (pc' := 37) (v := (4 : Int32)) d1_36 rfl rfl ?_
  refine Go.icmp (pc1 := 44) (pc2 := 40) d1_37 (by decide) (by decide) rfl (fun (c_115 : (6 : Int) ≠ (4 : Int)) => ?_) (fun (c_115 : (6 : Int) = (4 : Int)) => ?_)
  rotate_left
  · exact absurd c_115 (by decide)
  refine Go.iloadN (pc' := 45) d1_44 rfl rfl ?_
  refine Go.iconst (pc' := 46) (v := (5 : Int32)) d1_45 rfl rfl ?_
  refine Go.icmp (pc1 := 53) (pc2 := 49) d1_46 (by decide) (by decide) rfl (fun (c_116 : (6 : Int) ≠ (5 : Int)) => ?_) (fun (c_116 : (6 : Int) = (5 : Int)) => ?_)
  rotate_left
  · exact absurd c_116 (by decide)
  refine Go.iloadN (pc' := 54) d1_53 rfl rfl ?_
  refine Go.bipush (pc' := 56) (v := (6 : Int32)) d1_54 rfl rfl ?_
  refine Go.icmp (pc1 := 63) (pc2 := 59) d1_56 (by decide) (by decide) rfl (fun (c_117 : (6 : Int) ≠ (6 : Int)) => ?_) (fun (c_117 : (6 : Int) = (6 : Int)) => ?_)
  · exact absurd c_117 (by decide)
  refine Go.getS (pc' := 62) (hw _ (List.mem_of_getElem? (i := 48) rfl)) hS d1_59 rfl ?_
  exact Go.retA d1_62 rfl rfl rfl ⟨rfl, rfl⟩ (by decide) (by decide)
set_option maxRecDepth 65536 in
set_option maxHeartbeats 40000000 in
theorem m_up6 (l : Launch) (Z : State) (a0 : Array Value) (hw : ∀ d ∈ tables_1, d.before a0 Z = true) (a : Addr) (g : Int32) (k v : Int64) (h0 : Heap) (n0 : Nat) (z0 : n0 ≤ h0.size) (hE : Exa Z h0 a "com/example/tenscale/tenscale/Rounding") (hF : Fld Z h0 a "java/lang/Enum" "ordinal" "I" (.int (6 : Int32))) (hg : g.toInt = 0 ∨ g.toInt = 1) (hv : -9223372036854775808 < v.toInt ∧ v.toInt < 9223372036854775807) : Mt false l Z (⟨"com/example/tenscale/tenscale/Rounding", "roundsUp", "(ZJJ)Z"⟩ : MethodName) prog_15_method_4_code 6 (some .boolean) ({ frames := 1, cells := 0, slots := 0, locals := 30 } : Room) n0 (fun u h => ∃ r : Int32, u = some (.int r) ∧ h0 = h ∧ (r.toInt = 0 ∨ r.toInt = 1) ∧ (r.toInt = 1 ↔ ((0 : Int) = 0))) h0 #[(.ref a), (.int g), (.long k), (.long v)] := by
  refine Mt.go (Ls := #[.val (.ref a), .val (.int g), .val (.long k), .second, .val (.long v), .second]) (plainFor_of_name pn1) (fun m => by first | (simp [entryFrame, mkF, argsToLocals, Value.category]; done) | rfl) ?_
  show (Go false l ({ frames := 1, cells := 0, slots := 0, locals := 30 } : Room) Z (⟨"com/example/tenscale/tenscale/Rounding", "roundsUp", "(ZJJ)Z"⟩ : MethodName) prog_15_method_4_code 6 (some .boolean) n0 0 0 (fun u h => ∃ r : Int32, u = some (.int r) ∧ h0 = h ∧ (r.toInt = 0 ∨ r.toInt = 1) ∧ (r.toInt = 1 ↔ ((0 : Int) = 0)))) h0 0 0 0 #[.val (.ref a), .val (.int g), .val (.long k), .second, .val (.long v), .second] []
  refine Go.aloadN (pc' := 1) d2_0 rfl rfl rfl ?_
  refine Go.callU (pc' := 4) (argsL := []) (rest := []) (W := 0) (owner := "java/lang/Enum") (hw _ (List.mem_of_getElem? (i := 14) rfl)) (hw _ (List.mem_of_getElem? (i := 15) rfl)) (hw _ (List.mem_of_getElem? (i := 16) rfl)) (hw _ (List.mem_of_getElem? (i := 18) rfl)) (hw _ (List.mem_of_getElem? (i := 17) rfl)) (hw _ (List.mem_of_getElem? (i := 19) rfl)) (hw _ (List.mem_of_getElem? (i := 20) rfl)) (by decide) hE (m_o l Z a0 hw a (6 : Int32) h0 n0 z0 hF) d2_1 rfl pd0 rfl rfl (Nat.le_of_eq rfl) (by decide) (by decide) (by decide) (by decide) rfl ?_
  rintro _ _ ⟨rfl, rfl⟩
  show (Go false l ({ frames := 1, cells := 0, slots := 0, locals := 30 } : Room) Z (⟨"com/example/tenscale/tenscale/Rounding", "roundsUp", "(ZJJ)Z"⟩ : MethodName) prog_15_method_4_code 6 (some .boolean) n0 0 0 (fun u h => ∃ r : Int32, u = some (.int r) ∧ h0 = h ∧ (r.toInt = 0 ∨ r.toInt = 1) ∧ (r.toInt = 1 ↔ ((0 : Int) = 0)))) h0 (0 + 0) (0 + 0) 4 #[.val (.ref a), .val (.int g), .val (.long k), .second, .val (.long v), .second] [(.int (6 : Int32))]
  refine Go.tsw (pc' := 131) (o := 127) d2_4 (by decide) (by decide) (by decide) (by decide) ?_
  refine Go.iconst (pc' := 132) (v := (1 : Int32)) d2_131 rfl rfl ?_
  refine Go.goto (pc' := 150) d2_132 (by decide) (by decide) ?_
  exact Go.retN (t := .boolean) d2_150 rfl (by simp) rfl ⟨_, rfl, rfl, by decide, by have z0 : (0 : Int32).toInt = 0 := rfl; have z1 : (1 : Int32).toInt = 1 := rfl; omega⟩ (by decide) (by decide)
set_option maxRecDepth 65536 in
set_option maxHeartbeats 40000000 in
theorem m_ex6 (l : Launch) (Z : State) (a0 : Array Value) (hw : ∀ d ∈ tables_1, d.before a0 Z = true) (g : Int32) (k v : Int64) (h0 : Heap) (n0 : Nat) (z0 : n0 ≤ h0.size) (hg : g.toInt = 0 ∨ g.toInt = 1) (hv : -9223372036854775808 < v.toInt ∧ v.toInt < 9223372036854775807) : Mt false l Z (⟨"com/example/tenscale/tenscale/RoundingRoundsUpPinLaw", "expected", "(IZJJ)Z"⟩ : MethodName) method_3_code 10 (some .boolean) ({ frames := 1, cells := 0, slots := 0, locals := 30 } : Room) n0 (fun u h => ∃ r : Int32, u = some (.int r) ∧ h0 = h ∧ (r.toInt = 0 ∨ r.toInt = 1) ∧ (r.toInt = 1 ↔ ((0 : Int) = 0))) h0 #[(.int (6 : Int32)), (.int g), (.long k), (.long v)] := by
  refine Mt.go (Ls := #[.val (.int (6 : Int32)), .val (.int g), .val (.long k), .second, .val (.long v), .second, .unset, .unset, .unset, .unset]) (plainFor_of_name pn0) (fun m => by first | (simp [entryFrame, mkF, argsToLocals, Value.category]; done) | rfl) ?_
  show (Go false l ({ frames := 1, cells := 0, slots := 0, locals := 30 } : Room) Z (⟨"com/example/tenscale/tenscale/RoundingRoundsUpPinLaw", "expected", "(IZJJ)Z"⟩ : MethodName) method_3_code 10 (some .boolean) n0 0 0 (fun u h => ∃ r : Int32, u = some (.int r) ∧ h0 = h ∧ (r.toInt = 0 ∨ r.toInt = 1) ∧ (r.toInt = 1 ↔ ((0 : Int) = 0)))) h0 0 0 0 #[.val (.int (6 : Int32)), .val (.int g), .val (.long k), .second, .val (.long v), .second, .unset, .unset, .unset, .unset] []
  refine Go.lloadN (pc' := 1) d4_0 rfl rfl ?_
  refine Go.ldcL (pc' := 4) (hw _ (List.mem_of_getElem? (i := 26) rfl)) d4_1 rfl ?_
  refine Go.lrem (pc' := 5) d4_4 (by decide) rfl ?_
  generalize ev_118 : k % (10 : Int64) = v_118
  have k_119 : -10 < v_118.toInt ∧ v_118.toInt < 10 ∧ ((0 ≤ k.toInt ∧ v_118.toInt = k.toInt % 10) ∨ (k.toInt < 0 ∧ v_118.toInt = -((-k.toInt) % 10))) := by
    rw [← ev_118]
    have : (10 : Int64).toInt = 10 := by decide
    have := c_lremM k (10 : Int64) 10 (by decide)
    have := rng64 (k % (10 : Int64))
    have := rng64 k
    omega
  refine Go.callS (pc' := 8) (argsL := [(.long v_118)]) (rest := []) (W := 0) (hw _ (List.mem_of_getElem? (i := 27) rfl)) (hw _ (List.mem_of_getElem? (i := 28) rfl)) (hw _ (List.mem_of_getElem? (i := 29) rfl)) (hw _ (List.mem_of_getElem? (i := 30) rfl)) (by decide) (m_abs l Z a0 hw v_118 h0 n0 z0 (by omega)) d4_5 rfl pd1 rfl rfl (Nat.le_of_eq rfl) (by decide) (by decide) (by decide) (by decide) rfl ?_
  rintro _ _ ⟨d, rfl, rfl, hd⟩
  show (Go false l ({ frames := 1, cells := 0, slots := 0, locals := 30 } : Room) Z (⟨"com/example/tenscale/tenscale/RoundingRoundsUpPinLaw", "expected", "(IZJJ)Z"⟩ : MethodName) method_3_code 10 (some .boolean) n0 0 0 (fun u h => ∃ r : Int32, u = some (.int r) ∧ h0 = h ∧ (r.toInt = 0 ∨ r.toInt = 1) ∧ (r.toInt = 1 ↔ ((0 : Int) = 0)))) h0 (0 + 0) (0 + 0) 8 #[.val (.int (6 : Int32)), .val (.int g), .val (.long k), .second, .val (.long v), .second, .unset, .unset, .unset, .unset] [(.long d)]
  have hd9 : 0 ≤ d.toInt ∧ d.toInt ≤ 9 := by omega
  refine Go.lstore (pc' := 10) (Ls' := #[.val (.int (6 : Int32)), .val (.int g), .val (.long k), .second, .val (.long v), .second, .val (.long d), .second, .unset, .unset]) d4_8 rfl rfl ?_
  refine Go.lload (pc' := 12) d4_10 rfl rfl ?_
  refine Go.lconst (pc' := 13) (v := (1 : Int64)) d4_12 rfl rfl ?_
  refine Go.lcmp (pc' := 14) d4_13 rfl ?_
  have J1 : ∀ b : Int32, ((b.toInt = 1 ∧ k.toInt % 2 = 1) ∨ (b.toInt = 0 ∧ k.toInt % 2 = 0)) → (Go false l ({ frames := 1, cells := 0, slots := 0, locals := 30 } : Room) Z (⟨"com/example/tenscale/tenscale/RoundingRoundsUpPinLaw", "expected", "(IZJJ)Z"⟩ : MethodName) method_3_code 10 (some .boolean) n0 0 0 (fun u h => ∃ r : Int32, u = some (.int r) ∧ h0 = h ∧ (r.toInt = 0 ∨ r.toInt = 1) ∧ (r.toInt = 1 ↔ ((0 : Int) = 0)))) h0 (0 + 0) (0 + 0) 58 #[.val (.int (6 : Int32)), .val (.int g), .val (.long k), .second, .val (.long v), .second, .val (.long d), .second, .unset, .unset] [(.int b)] := by
    intro b hb
    refine Go.istore (pc' := 60) (Ls' := #[.val (.int (6 : Int32)), .val (.int g), .val (.long k), .second, .val (.long v), .second, .val (.long d), .second, .val (.int b), .unset]) d4_58 rfl rfl ?_
    refine Go.lload (pc' := 62) d4_60 rfl rfl ?_
    refine Go.lconst (pc' := 63) (v := (0 : Int64)) d4_62 rfl rfl ?_
    refine Go.lcmp (pc' := 64) d4_63 rfl ?_
    have J2 : ∀ f : Int32, ((f.toInt = 1 ∧ k.toInt % 5 = 0) ∨ (f.toInt = 0 ∧ k.toInt % 5 ≠ 0)) → (Go false l ({ frames := 1, cells := 0, slots := 0, locals := 30 } : Room) Z (⟨"com/example/tenscale/tenscale/RoundingRoundsUpPinLaw", "expected", "(IZJJ)Z"⟩ : MethodName) method_3_code 10 (some .boolean) n0 0 0 (fun u h => ∃ r : Int32, u = some (.int r) ∧ h0 = h ∧ (r.toInt = 0 ∨ r.toInt = 1) ∧ (r.toInt = 1 ↔ ((0 : Int) = 0)))) h0 (0 + 0) (0 + 0) 81 #[.val (.int (6 : Int32)), .val (.int g), .val (.long k), .second, .val (.long v), .second, .val (.long d), .second, .val (.int b), .unset] [(.int f)] := by
      intro f hf
      refine Go.istore (pc' := 83) (Ls' := #[.val (.int (6 : Int32)), .val (.int g), .val (.long k), .second, .val (.long v), .second, .val (.long d), .second, .val (.int b), .val (.int f)]) d4_81 rfl rfl ?_
      refine Go.iloadN (pc' := 84) d4_83 rfl rfl ?_
      refine Go.ifc (pc1 := 97) (pc2 := 87) d4_84 (by decide) (by decide) rfl (fun (c_120 : (6 : Int) ≠ 0) => ?_) (fun (c_120 : (6 : Int) = 0) => ?_)
      rotate_left
      · exact absurd c_120 (by decide)
      refine Go.iloadN (pc' := 98) d4_97 rfl rfl ?_
      refine Go.iconst (pc' := 99) (v := (1 : Int32)) d4_98 rfl rfl ?_
      refine Go.icmp (pc1 := 104) (pc2 := 102) d4_99 (by decide) (by decide) rfl (fun (c_121 : (6 : Int) ≠ (1 : Int)) => ?_) (fun (c_121 : (6 : Int) = (1 : Int)) => ?_)
      rotate_left
      · exact absurd c_121 (by decide)
      refine Go.iloadN (pc' := 105) d4_104 rfl rfl ?_
      refine Go.iconst (pc' := 106) (v := (2 : Int32)) d4_105 rfl rfl ?_
      refine Go.icmp (pc1 := 111) (pc2 := 109) d4_106 (by decide) (by decide) rfl (fun (c_122 : (6 : Int) ≠ (2 : Int)) => ?_) (fun (c_122 : (6 : Int) = (2 : Int)) => ?_)
      rotate_left
      · exact absurd c_122 (by decide)
      refine Go.iloadN (pc' := 112) d4_111 rfl rfl ?_
      refine Go.iconst (pc' := 113) (v := (3 : Int32)) d4_112 rfl rfl ?_
      refine Go.icmp (pc1 := 129) (pc2 := 116) d4_113 (by decide) (by decide) rfl (fun (c_123 : (6 : Int) ≠ (3 : Int)) => ?_) (fun (c_123 : (6 : Int) = (3 : Int)) => ?_)
      rotate_left
      · exact absurd c_123 (by decide)
      refine Go.iloadN (pc' := 130) d4_129 rfl rfl ?_
      refine Go.iconst (pc' := 131) (v := (4 : Int32)) d4_130 rfl rfl ?_
      refine Go.icmp (pc1 := 155) (pc2 := 134) d4_131 (by decide) (by decide) rfl (fun (c_124 : (6 : Int) ≠ (4 : Int)) => ?_) (fun (c_124 : (6 : Int) = (4 : Int)) => ?_)
      rotate_left
      · exact absurd c_124 (by decide)
      refine Go.iloadN (pc' := 156) d4_155 rfl rfl ?_
      refine Go.iconst (pc' := 157) (v := (5 : Int32)) d4_156 rfl rfl ?_
      refine Go.icmp (pc1 := 173) (pc2 := 160) d4_157 (by decide) (by decide) rfl (fun (c_125 : (6 : Int) ≠ (5 : Int)) => ?_) (fun (c_125 : (6 : Int) = (5 : Int)) => ?_)
      rotate_left
      · exact absurd c_125 (by decide)
      refine Go.iloadN (pc' := 174) d4_173 rfl rfl ?_
      refine Go.bipush (pc' := 176) (v := (6 : Int32)) d4_174 rfl rfl ?_
      refine Go.icmp (pc1 := 181) (pc2 := 179) d4_176 (by decide) (by decide) rfl (fun (c_126 : (6 : Int) ≠ (6 : Int)) => ?_) (fun (c_126 : (6 : Int) = (6 : Int)) => ?_)
      · exact absurd c_126 (by decide)
      refine Go.iconst (pc' := 180) (v := (1 : Int32)) d4_179 rfl rfl ?_
      exact Go.retN (t := .boolean) d4_180 rfl (by simp) rfl ⟨_, rfl, rfl, by decide, by have z0 : (0 : Int32).toInt = 0 := rfl; have z1 : (1 : Int32).toInt = 1 := rfl; omega⟩ (by decide) (by decide)
    refine Go.ifw (pc1 := 76) (pc2 := 67) d4_64 (by decide) (by decide) rfl (fun (c_127 : d.toInt = (0 : Int)) => ?_) (fun (c_127 : d.toInt ≠ (0 : Int)) => ?_)
    · refine Go.iconst (pc' := 77) (v := (1 : Int32)) d4_76 rfl rfl ?_
      refine Go.goto (pc' := 81) d4_77 (by decide) (by decide) ?_
      exact J2 _ (Or.inl ⟨rfl, by omega⟩)
    · refine Go.lload (pc' := 69) d4_67 rfl rfl ?_
      refine Go.ldcL (pc' := 72) (hw _ (List.mem_of_getElem? (i := 31) rfl)) d4_69 rfl ?_
      refine Go.lcmp (pc' := 73) d4_72 rfl ?_
      refine Go.ifw (pc1 := 80) (pc2 := 76) d4_73 (by decide) (by decide) rfl (fun (c_128 : d.toInt ≠ (5 : Int)) => ?_) (fun (c_128 : d.toInt = (5 : Int)) => ?_)
      · refine Go.iconst (pc' := 81) (v := (0 : Int32)) d4_80 rfl rfl ?_
        exact J2 _ (Or.inr ⟨rfl, by omega⟩)
      · refine Go.iconst (pc' := 77) (v := (1 : Int32)) d4_76 rfl rfl ?_
        refine Go.goto (pc' := 81) d4_77 (by decide) (by decide) ?_
        exact J2 _ (Or.inl ⟨rfl, by omega⟩)
  refine Go.ifw (pc1 := 53) (pc2 := 17) d4_14 (by decide) (by decide) rfl (fun (c_129 : d.toInt = (1 : Int)) => ?_) (fun (c_129 : d.toInt ≠ (1 : Int)) => ?_)
  · refine Go.iconst (pc' := 54) (v := (1 : Int32)) d4_53 rfl rfl ?_
    refine Go.goto (pc' := 58) d4_54 (by decide) (by decide) ?_
    exact J1 _ (Or.inl ⟨rfl, by omega⟩)
  · refine Go.lload (pc' := 19) d4_17 rfl rfl ?_
    refine Go.ldcL (pc' := 22) (hw _ (List.mem_of_getElem? (i := 34) rfl)) d4_19 rfl ?_
    refine Go.lcmp (pc' := 23) d4_22 rfl ?_
    refine Go.ifw (pc1 := 53) (pc2 := 26) d4_23 (by decide) (by decide) rfl (fun (c_130 : d.toInt = (3 : Int)) => ?_) (fun (c_130 : d.toInt ≠ (3 : Int)) => ?_)
    · refine Go.iconst (pc' := 54) (v := (1 : Int32)) d4_53 rfl rfl ?_
      refine Go.goto (pc' := 58) d4_54 (by decide) (by decide) ?_
      exact J1 _ (Or.inl ⟨rfl, by omega⟩)
    · refine Go.lload (pc' := 28) d4_26 rfl rfl ?_
      refine Go.ldcL (pc' := 31) (hw _ (List.mem_of_getElem? (i := 31) rfl)) d4_28 rfl ?_
      refine Go.lcmp (pc' := 32) d4_31 rfl ?_
      refine Go.ifw (pc1 := 53) (pc2 := 35) d4_32 (by decide) (by decide) rfl (fun (c_131 : d.toInt = (5 : Int)) => ?_) (fun (c_131 : d.toInt ≠ (5 : Int)) => ?_)
      · refine Go.iconst (pc' := 54) (v := (1 : Int32)) d4_53 rfl rfl ?_
        refine Go.goto (pc' := 58) d4_54 (by decide) (by decide) ?_
        exact J1 _ (Or.inl ⟨rfl, by omega⟩)
      · refine Go.lload (pc' := 37) d4_35 rfl rfl ?_
        refine Go.ldcL (pc' := 40) (hw _ (List.mem_of_getElem? (i := 35) rfl)) d4_37 rfl ?_
        refine Go.lcmp (pc' := 41) d4_40 rfl ?_
        refine Go.ifw (pc1 := 53) (pc2 := 44) d4_41 (by decide) (by decide) rfl (fun (c_132 : d.toInt = (7 : Int)) => ?_) (fun (c_132 : d.toInt ≠ (7 : Int)) => ?_)
        · refine Go.iconst (pc' := 54) (v := (1 : Int32)) d4_53 rfl rfl ?_
          refine Go.goto (pc' := 58) d4_54 (by decide) (by decide) ?_
          exact J1 _ (Or.inl ⟨rfl, by omega⟩)
        · refine Go.lload (pc' := 46) d4_44 rfl rfl ?_
          refine Go.ldcL (pc' := 49) (hw _ (List.mem_of_getElem? (i := 36) rfl)) d4_46 rfl ?_
          refine Go.lcmp (pc' := 50) d4_49 rfl ?_
          refine Go.ifw (pc1 := 57) (pc2 := 53) d4_50 (by decide) (by decide) rfl (fun (c_133 : d.toInt ≠ (9 : Int)) => ?_) (fun (c_133 : d.toInt = (9 : Int)) => ?_)
          · refine Go.iconst (pc' := 58) (v := (0 : Int32)) d4_57 rfl rfl ?_
            exact J1 _ (Or.inr ⟨rfl, by omega⟩)
          · refine Go.iconst (pc' := 54) (v := (1 : Int32)) d4_53 rfl rfl ?_
            refine Go.goto (pc' := 58) d4_54 (by decide) (by decide) ?_
            exact J1 _ (Or.inl ⟨rfl, by omega⟩)
set_option maxRecDepth 65536 in
set_option maxHeartbeats 40000000 in
theorem m_pick7 (l : Launch) (Z : State) (a0 : Array Value) (hw : ∀ d ∈ tables_1, d.before a0 Z = true) (a : Addr) (h0 : Heap) (n0 : Nat) (z0 : n0 ≤ h0.size) (hS : Sta Z h0 "com/example/tenscale/tenscale/Rounding" "ZERO_FIVE_UP" "Lcom/example/tenscale/tenscale/Rounding;" (.ref a)) : Mt false l Z (⟨"com/example/tenscale/tenscale/RoundingRoundsUpPinLaw", "pick", "(I)Lcom/example/tenscale/tenscale/Rounding;"⟩ : MethodName) method_2_code 1 (some (.object "com/example/tenscale/tenscale/Rounding")) ({ frames := 0, cells := 0, slots := 0, locals := 0 } : Room) n0 (fun v h => v = some (.ref a) ∧ h0 = h) h0 #[(.int (7 : Int32))] := by
  refine Mt.go (Ls := #[.val (.int (7 : Int32))]) (plainFor_of_name pn0) (fun m => by first | (simp [entryFrame, mkF, argsToLocals, Value.category]; done) | rfl) ?_
  show (Go false l ({ frames := 0, cells := 0, slots := 0, locals := 0 } : Room) Z (⟨"com/example/tenscale/tenscale/RoundingRoundsUpPinLaw", "pick", "(I)Lcom/example/tenscale/tenscale/Rounding;"⟩ : MethodName) method_2_code 1 (some (.object "com/example/tenscale/tenscale/Rounding")) n0 0 0 (fun v h => v = some (.ref a) ∧ h0 = h)) h0 0 0 0 #[.val (.int (7 : Int32))] []
  refine Go.iloadN (pc' := 1) d1_0 rfl rfl ?_
  refine Go.ifc (pc1 := 8) (pc2 := 4) d1_1 (by decide) (by decide) rfl (fun (c_134 : (7 : Int) ≠ 0) => ?_) (fun (c_134 : (7 : Int) = 0) => ?_)
  rotate_left
  · exact absurd c_134 (by decide)
  refine Go.iloadN (pc' := 9) d1_8 rfl rfl ?_
  refine Go.iconst (pc' := 10) (v := (1 : Int32)) d1_9 rfl rfl ?_
  refine Go.icmp (pc1 := 17) (pc2 := 13) d1_10 (by decide) (by decide) rfl (fun (c_135 : (7 : Int) ≠ (1 : Int)) => ?_) (fun (c_135 : (7 : Int) = (1 : Int)) => ?_)
  rotate_left
  · exact absurd c_135 (by decide)
  refine Go.iloadN (pc' := 18) d1_17 rfl rfl ?_
  refine Go.iconst (pc' := 19) (v := (2 : Int32)) d1_18 rfl rfl ?_
  refine Go.icmp (pc1 := 26) (pc2 := 22) d1_19 (by decide) (by decide) rfl (fun (c_136 : (7 : Int) ≠ (2 : Int)) => ?_) (fun (c_136 : (7 : Int) = (2 : Int)) => ?_)
  rotate_left
  · exact absurd c_136 (by decide)
  refine Go.iloadN (pc' := 27) d1_26 rfl rfl ?_
  refine Go.iconst (pc' := 28) (v := (3 : Int32)) d1_27 rfl rfl ?_
  refine Go.icmp (pc1 := 35) (pc2 := 31) d1_28 (by decide) (by decide) rfl (fun (c_137 : (7 : Int) ≠ (3 : Int)) => ?_) (fun (c_137 : (7 : Int) = (3 : Int)) => ?_)
  rotate_left
  · exact absurd c_137 (by decide)
  refine Go.iloadN (pc' := 36) d1_35 rfl rfl ?_
  refine Go.iconst (pc' := 37) (v := (4 : Int32)) d1_36 rfl rfl ?_
  refine Go.icmp (pc1 := 44) (pc2 := 40) d1_37 (by decide) (by decide) rfl (fun (c_138 : (7 : Int) ≠ (4 : Int)) => ?_) (fun (c_138 : (7 : Int) = (4 : Int)) => ?_)
  rotate_left
  · exact absurd c_138 (by decide)
  refine Go.iloadN (pc' := 45) d1_44 rfl rfl ?_
  refine Go.iconst (pc' := 46) (v := (5 : Int32)) d1_45 rfl rfl ?_
  refine Go.icmp (pc1 := 53) (pc2 := 49) d1_46 (by decide) (by decide) rfl (fun (c_139 : (7 : Int) ≠ (5 : Int)) => ?_) (fun (c_139 : (7 : Int) = (5 : Int)) => ?_)
  rotate_left
  · exact absurd c_139 (by decide)
  refine Go.iloadN (pc' := 54) d1_53 rfl rfl ?_
  refine Go.bipush (pc' := 56) (v := (6 : Int32)) d1_54 rfl rfl ?_
  refine Go.icmp (pc1 := 63) (pc2 := 59) d1_56 (by decide) (by decide) rfl (fun (c_140 : (7 : Int) ≠ (6 : Int)) => ?_) (fun (c_140 : (7 : Int) = (6 : Int)) => ?_)
  rotate_left
  · exact absurd c_140 (by decide)
  refine Go.getS (pc' := 66) (hw _ (List.mem_of_getElem? (i := 41) rfl)) hS d1_63 rfl ?_
  exact Go.retA d1_66 rfl rfl rfl ⟨rfl, rfl⟩ (by decide) (by decide)
set_option maxRecDepth 65536 in
set_option maxHeartbeats 40000000 in
theorem m_up7 (l : Launch) (Z : State) (a0 : Array Value) (hw : ∀ d ∈ tables_1, d.before a0 Z = true) (a : Addr) (g : Int32) (k v : Int64) (h0 : Heap) (n0 : Nat) (z0 : n0 ≤ h0.size) (hE : Exa Z h0 a "com/example/tenscale/tenscale/Rounding") (hF : Fld Z h0 a "java/lang/Enum" "ordinal" "I" (.int (7 : Int32))) (hg : g.toInt = 0 ∨ g.toInt = 1) (hv : -9223372036854775808 < v.toInt ∧ v.toInt < 9223372036854775807) : Mt false l Z (⟨"com/example/tenscale/tenscale/Rounding", "roundsUp", "(ZJJ)Z"⟩ : MethodName) prog_15_method_4_code 6 (some .boolean) ({ frames := 1, cells := 0, slots := 0, locals := 30 } : Room) n0 (fun u h => ∃ r : Int32, u = some (.int r) ∧ h0 = h ∧ (r.toInt = 0 ∨ r.toInt = 1) ∧ (r.toInt = 1 ↔ (k.toInt % 5 = 0))) h0 #[(.ref a), (.int g), (.long k), (.long v)] := by
  refine Mt.go (Ls := #[.val (.ref a), .val (.int g), .val (.long k), .second, .val (.long v), .second]) (plainFor_of_name pn1) (fun m => by first | (simp [entryFrame, mkF, argsToLocals, Value.category]; done) | rfl) ?_
  show (Go false l ({ frames := 1, cells := 0, slots := 0, locals := 30 } : Room) Z (⟨"com/example/tenscale/tenscale/Rounding", "roundsUp", "(ZJJ)Z"⟩ : MethodName) prog_15_method_4_code 6 (some .boolean) n0 0 0 (fun u h => ∃ r : Int32, u = some (.int r) ∧ h0 = h ∧ (r.toInt = 0 ∨ r.toInt = 1) ∧ (r.toInt = 1 ↔ (k.toInt % 5 = 0)))) h0 0 0 0 #[.val (.ref a), .val (.int g), .val (.long k), .second, .val (.long v), .second] []
  refine Go.aloadN (pc' := 1) d2_0 rfl rfl rfl ?_
  refine Go.callU (pc' := 4) (argsL := []) (rest := []) (W := 0) (owner := "java/lang/Enum") (hw _ (List.mem_of_getElem? (i := 14) rfl)) (hw _ (List.mem_of_getElem? (i := 15) rfl)) (hw _ (List.mem_of_getElem? (i := 16) rfl)) (hw _ (List.mem_of_getElem? (i := 18) rfl)) (hw _ (List.mem_of_getElem? (i := 17) rfl)) (hw _ (List.mem_of_getElem? (i := 19) rfl)) (hw _ (List.mem_of_getElem? (i := 20) rfl)) (by decide) hE (m_o l Z a0 hw a (7 : Int32) h0 n0 z0 hF) d2_1 rfl pd0 rfl rfl (Nat.le_of_eq rfl) (by decide) (by decide) (by decide) (by decide) rfl ?_
  rintro _ _ ⟨rfl, rfl⟩
  show (Go false l ({ frames := 1, cells := 0, slots := 0, locals := 30 } : Room) Z (⟨"com/example/tenscale/tenscale/Rounding", "roundsUp", "(ZJJ)Z"⟩ : MethodName) prog_15_method_4_code 6 (some .boolean) n0 0 0 (fun u h => ∃ r : Int32, u = some (.int r) ∧ h0 = h ∧ (r.toInt = 0 ∨ r.toInt = 1) ∧ (r.toInt = 1 ↔ (k.toInt % 5 = 0)))) h0 (0 + 0) (0 + 0) 4 #[.val (.ref a), .val (.int g), .val (.long k), .second, .val (.long v), .second] [(.int (7 : Int32))]
  refine Go.tsw (pc' := 135) (o := 131) d2_4 (by decide) (by decide) (by decide) (by decide) ?_
  refine Go.lloadN (pc' := 136) d2_135 rfl rfl ?_
  refine Go.ldcL (pc' := 139) (hw _ (List.mem_of_getElem? (i := 43) rfl)) d2_136 rfl ?_
  refine Go.lrem (pc' := 140) d2_139 (by decide) rfl ?_
  generalize ev_141 : k % (5 : Int64) = v_141
  have k_142 : (v_141.toInt = 0 ↔ k.toInt % 5 = 0) := by
    rw [← ev_141]
    have : (5 : Int64).toInt = 5 := by decide
    have := c_lremM k (5 : Int64) 5 (by decide)
    have := rng64 (k % (5 : Int64))
    have := rng64 k
    omega
  refine Go.lconst (pc' := 141) (v := (0 : Int64)) d2_140 rfl rfl ?_
  refine Go.lcmp (pc' := 142) d2_141 rfl ?_
  refine Go.ifw (pc1 := 149) (pc2 := 145) d2_142 (by decide) (by decide) rfl (fun (c_143 : v_141.toInt ≠ (0 : Int)) => ?_) (fun (c_143 : v_141.toInt = (0 : Int)) => ?_)
  · refine Go.iconst (pc' := 150) (v := (0 : Int32)) d2_149 rfl rfl ?_
    exact Go.retN (t := .boolean) d2_150 rfl (by simp) rfl ⟨_, rfl, rfl, by decide, by have z0 : (0 : Int32).toInt = 0 := rfl; have z1 : (1 : Int32).toInt = 1 := rfl; omega⟩ (by decide) (by decide)
  · refine Go.iconst (pc' := 146) (v := (1 : Int32)) d2_145 rfl rfl ?_
    refine Go.goto (pc' := 150) d2_146 (by decide) (by decide) ?_
    exact Go.retN (t := .boolean) d2_150 rfl (by simp) rfl ⟨_, rfl, rfl, by decide, by have z0 : (0 : Int32).toInt = 0 := rfl; have z1 : (1 : Int32).toInt = 1 := rfl; omega⟩ (by decide) (by decide)
set_option maxRecDepth 65536 in
set_option maxHeartbeats 40000000 in
theorem m_ex7 (l : Launch) (Z : State) (a0 : Array Value) (hw : ∀ d ∈ tables_1, d.before a0 Z = true) (g : Int32) (k v : Int64) (h0 : Heap) (n0 : Nat) (z0 : n0 ≤ h0.size) (hg : g.toInt = 0 ∨ g.toInt = 1) (hv : -9223372036854775808 < v.toInt ∧ v.toInt < 9223372036854775807) : Mt false l Z (⟨"com/example/tenscale/tenscale/RoundingRoundsUpPinLaw", "expected", "(IZJJ)Z"⟩ : MethodName) method_3_code 10 (some .boolean) ({ frames := 1, cells := 0, slots := 0, locals := 30 } : Room) n0 (fun u h => ∃ r : Int32, u = some (.int r) ∧ h0 = h ∧ (r.toInt = 0 ∨ r.toInt = 1) ∧ (r.toInt = 1 ↔ (k.toInt % 5 = 0))) h0 #[(.int (7 : Int32)), (.int g), (.long k), (.long v)] := by
  refine Mt.go (Ls := #[.val (.int (7 : Int32)), .val (.int g), .val (.long k), .second, .val (.long v), .second, .unset, .unset, .unset, .unset]) (plainFor_of_name pn0) (fun m => by first | (simp [entryFrame, mkF, argsToLocals, Value.category]; done) | rfl) ?_
  show (Go false l ({ frames := 1, cells := 0, slots := 0, locals := 30 } : Room) Z (⟨"com/example/tenscale/tenscale/RoundingRoundsUpPinLaw", "expected", "(IZJJ)Z"⟩ : MethodName) method_3_code 10 (some .boolean) n0 0 0 (fun u h => ∃ r : Int32, u = some (.int r) ∧ h0 = h ∧ (r.toInt = 0 ∨ r.toInt = 1) ∧ (r.toInt = 1 ↔ (k.toInt % 5 = 0)))) h0 0 0 0 #[.val (.int (7 : Int32)), .val (.int g), .val (.long k), .second, .val (.long v), .second, .unset, .unset, .unset, .unset] []
  refine Go.lloadN (pc' := 1) d4_0 rfl rfl ?_
  refine Go.ldcL (pc' := 4) (hw _ (List.mem_of_getElem? (i := 26) rfl)) d4_1 rfl ?_
  refine Go.lrem (pc' := 5) d4_4 (by decide) rfl ?_
  generalize ev_144 : k % (10 : Int64) = v_144
  have k_145 : -10 < v_144.toInt ∧ v_144.toInt < 10 ∧ ((0 ≤ k.toInt ∧ v_144.toInt = k.toInt % 10) ∨ (k.toInt < 0 ∧ v_144.toInt = -((-k.toInt) % 10))) := by
    rw [← ev_144]
    have : (10 : Int64).toInt = 10 := by decide
    have := c_lremM k (10 : Int64) 10 (by decide)
    have := rng64 (k % (10 : Int64))
    have := rng64 k
    omega
  refine Go.callS (pc' := 8) (argsL := [(.long v_144)]) (rest := []) (W := 0) (hw _ (List.mem_of_getElem? (i := 27) rfl)) (hw _ (List.mem_of_getElem? (i := 28) rfl)) (hw _ (List.mem_of_getElem? (i := 29) rfl)) (hw _ (List.mem_of_getElem? (i := 30) rfl)) (by decide) (m_abs l Z a0 hw v_144 h0 n0 z0 (by omega)) d4_5 rfl pd1 rfl rfl (Nat.le_of_eq rfl) (by decide) (by decide) (by decide) (by decide) rfl ?_
  rintro _ _ ⟨d, rfl, rfl, hd⟩
  show (Go false l ({ frames := 1, cells := 0, slots := 0, locals := 30 } : Room) Z (⟨"com/example/tenscale/tenscale/RoundingRoundsUpPinLaw", "expected", "(IZJJ)Z"⟩ : MethodName) method_3_code 10 (some .boolean) n0 0 0 (fun u h => ∃ r : Int32, u = some (.int r) ∧ h0 = h ∧ (r.toInt = 0 ∨ r.toInt = 1) ∧ (r.toInt = 1 ↔ (k.toInt % 5 = 0)))) h0 (0 + 0) (0 + 0) 8 #[.val (.int (7 : Int32)), .val (.int g), .val (.long k), .second, .val (.long v), .second, .unset, .unset, .unset, .unset] [(.long d)]
  have hd9 : 0 ≤ d.toInt ∧ d.toInt ≤ 9 := by omega
  refine Go.lstore (pc' := 10) (Ls' := #[.val (.int (7 : Int32)), .val (.int g), .val (.long k), .second, .val (.long v), .second, .val (.long d), .second, .unset, .unset]) d4_8 rfl rfl ?_
  refine Go.lload (pc' := 12) d4_10 rfl rfl ?_
  refine Go.lconst (pc' := 13) (v := (1 : Int64)) d4_12 rfl rfl ?_
  refine Go.lcmp (pc' := 14) d4_13 rfl ?_
  have J1 : ∀ b : Int32, ((b.toInt = 1 ∧ k.toInt % 2 = 1) ∨ (b.toInt = 0 ∧ k.toInt % 2 = 0)) → (Go false l ({ frames := 1, cells := 0, slots := 0, locals := 30 } : Room) Z (⟨"com/example/tenscale/tenscale/RoundingRoundsUpPinLaw", "expected", "(IZJJ)Z"⟩ : MethodName) method_3_code 10 (some .boolean) n0 0 0 (fun u h => ∃ r : Int32, u = some (.int r) ∧ h0 = h ∧ (r.toInt = 0 ∨ r.toInt = 1) ∧ (r.toInt = 1 ↔ (k.toInt % 5 = 0)))) h0 (0 + 0) (0 + 0) 58 #[.val (.int (7 : Int32)), .val (.int g), .val (.long k), .second, .val (.long v), .second, .val (.long d), .second, .unset, .unset] [(.int b)] := by
    intro b hb
    refine Go.istore (pc' := 60) (Ls' := #[.val (.int (7 : Int32)), .val (.int g), .val (.long k), .second, .val (.long v), .second, .val (.long d), .second, .val (.int b), .unset]) d4_58 rfl rfl ?_
    refine Go.lload (pc' := 62) d4_60 rfl rfl ?_
    refine Go.lconst (pc' := 63) (v := (0 : Int64)) d4_62 rfl rfl ?_
    refine Go.lcmp (pc' := 64) d4_63 rfl ?_
    have J2 : ∀ f : Int32, ((f.toInt = 1 ∧ k.toInt % 5 = 0) ∨ (f.toInt = 0 ∧ k.toInt % 5 ≠ 0)) → (Go false l ({ frames := 1, cells := 0, slots := 0, locals := 30 } : Room) Z (⟨"com/example/tenscale/tenscale/RoundingRoundsUpPinLaw", "expected", "(IZJJ)Z"⟩ : MethodName) method_3_code 10 (some .boolean) n0 0 0 (fun u h => ∃ r : Int32, u = some (.int r) ∧ h0 = h ∧ (r.toInt = 0 ∨ r.toInt = 1) ∧ (r.toInt = 1 ↔ (k.toInt % 5 = 0)))) h0 (0 + 0) (0 + 0) 81 #[.val (.int (7 : Int32)), .val (.int g), .val (.long k), .second, .val (.long v), .second, .val (.long d), .second, .val (.int b), .unset] [(.int f)] := by
      intro f hf
      refine Go.istore (pc' := 83) (Ls' := #[.val (.int (7 : Int32)), .val (.int g), .val (.long k), .second, .val (.long v), .second, .val (.long d), .second, .val (.int b), .val (.int f)]) d4_81 rfl rfl ?_
      refine Go.iloadN (pc' := 84) d4_83 rfl rfl ?_
      refine Go.ifc (pc1 := 97) (pc2 := 87) d4_84 (by decide) (by decide) rfl (fun (c_146 : (7 : Int) ≠ 0) => ?_) (fun (c_146 : (7 : Int) = 0) => ?_)
      rotate_left
      · exact absurd c_146 (by decide)
      refine Go.iloadN (pc' := 98) d4_97 rfl rfl ?_
      refine Go.iconst (pc' := 99) (v := (1 : Int32)) d4_98 rfl rfl ?_
      refine Go.icmp (pc1 := 104) (pc2 := 102) d4_99 (by decide) (by decide) rfl (fun (c_147 : (7 : Int) ≠ (1 : Int)) => ?_) (fun (c_147 : (7 : Int) = (1 : Int)) => ?_)
      rotate_left
      · exact absurd c_147 (by decide)
      refine Go.iloadN (pc' := 105) d4_104 rfl rfl ?_
      refine Go.iconst (pc' := 106) (v := (2 : Int32)) d4_105 rfl rfl ?_
      refine Go.icmp (pc1 := 111) (pc2 := 109) d4_106 (by decide) (by decide) rfl (fun (c_148 : (7 : Int) ≠ (2 : Int)) => ?_) (fun (c_148 : (7 : Int) = (2 : Int)) => ?_)
      rotate_left
      · exact absurd c_148 (by decide)
      refine Go.iloadN (pc' := 112) d4_111 rfl rfl ?_
      refine Go.iconst (pc' := 113) (v := (3 : Int32)) d4_112 rfl rfl ?_
      refine Go.icmp (pc1 := 129) (pc2 := 116) d4_113 (by decide) (by decide) rfl (fun (c_149 : (7 : Int) ≠ (3 : Int)) => ?_) (fun (c_149 : (7 : Int) = (3 : Int)) => ?_)
      rotate_left
      · exact absurd c_149 (by decide)
      refine Go.iloadN (pc' := 130) d4_129 rfl rfl ?_
      refine Go.iconst (pc' := 131) (v := (4 : Int32)) d4_130 rfl rfl ?_
      refine Go.icmp (pc1 := 155) (pc2 := 134) d4_131 (by decide) (by decide) rfl (fun (c_150 : (7 : Int) ≠ (4 : Int)) => ?_) (fun (c_150 : (7 : Int) = (4 : Int)) => ?_)
      rotate_left
      · exact absurd c_150 (by decide)
      refine Go.iloadN (pc' := 156) d4_155 rfl rfl ?_
      refine Go.iconst (pc' := 157) (v := (5 : Int32)) d4_156 rfl rfl ?_
      refine Go.icmp (pc1 := 173) (pc2 := 160) d4_157 (by decide) (by decide) rfl (fun (c_151 : (7 : Int) ≠ (5 : Int)) => ?_) (fun (c_151 : (7 : Int) = (5 : Int)) => ?_)
      rotate_left
      · exact absurd c_151 (by decide)
      refine Go.iloadN (pc' := 174) d4_173 rfl rfl ?_
      refine Go.bipush (pc' := 176) (v := (6 : Int32)) d4_174 rfl rfl ?_
      refine Go.icmp (pc1 := 181) (pc2 := 179) d4_176 (by decide) (by decide) rfl (fun (c_152 : (7 : Int) ≠ (6 : Int)) => ?_) (fun (c_152 : (7 : Int) = (6 : Int)) => ?_)
      rotate_left
      · exact absurd c_152 (by decide)
      refine Go.iload (pc' := 183) d4_181 rfl rfl ?_
      exact Go.retN (t := .boolean) d4_183 rfl (by simp) (own_nar (by omega)) ⟨_, rfl, rfl, by omega, by omega⟩ (by decide) (by decide)
    refine Go.ifw (pc1 := 76) (pc2 := 67) d4_64 (by decide) (by decide) rfl (fun (c_153 : d.toInt = (0 : Int)) => ?_) (fun (c_153 : d.toInt ≠ (0 : Int)) => ?_)
    · refine Go.iconst (pc' := 77) (v := (1 : Int32)) d4_76 rfl rfl ?_
      refine Go.goto (pc' := 81) d4_77 (by decide) (by decide) ?_
      exact J2 _ (Or.inl ⟨rfl, by omega⟩)
    · refine Go.lload (pc' := 69) d4_67 rfl rfl ?_
      refine Go.ldcL (pc' := 72) (hw _ (List.mem_of_getElem? (i := 31) rfl)) d4_69 rfl ?_
      refine Go.lcmp (pc' := 73) d4_72 rfl ?_
      refine Go.ifw (pc1 := 80) (pc2 := 76) d4_73 (by decide) (by decide) rfl (fun (c_154 : d.toInt ≠ (5 : Int)) => ?_) (fun (c_154 : d.toInt = (5 : Int)) => ?_)
      · refine Go.iconst (pc' := 81) (v := (0 : Int32)) d4_80 rfl rfl ?_
        exact J2 _ (Or.inr ⟨rfl, by omega⟩)
      · refine Go.iconst (pc' := 77) (v := (1 : Int32)) d4_76 rfl rfl ?_
        refine Go.goto (pc' := 81) d4_77 (by decide) (by decide) ?_
        exact J2 _ (Or.inl ⟨rfl, by omega⟩)
  refine Go.ifw (pc1 := 53) (pc2 := 17) d4_14 (by decide) (by decide) rfl (fun (c_155 : d.toInt = (1 : Int)) => ?_) (fun (c_155 : d.toInt ≠ (1 : Int)) => ?_)
  · refine Go.iconst (pc' := 54) (v := (1 : Int32)) d4_53 rfl rfl ?_
    refine Go.goto (pc' := 58) d4_54 (by decide) (by decide) ?_
    exact J1 _ (Or.inl ⟨rfl, by omega⟩)
  · refine Go.lload (pc' := 19) d4_17 rfl rfl ?_
    refine Go.ldcL (pc' := 22) (hw _ (List.mem_of_getElem? (i := 34) rfl)) d4_19 rfl ?_
    refine Go.lcmp (pc' := 23) d4_22 rfl ?_
    refine Go.ifw (pc1 := 53) (pc2 := 26) d4_23 (by decide) (by decide) rfl (fun (c_156 : d.toInt = (3 : Int)) => ?_) (fun (c_156 : d.toInt ≠ (3 : Int)) => ?_)
    · refine Go.iconst (pc' := 54) (v := (1 : Int32)) d4_53 rfl rfl ?_
      refine Go.goto (pc' := 58) d4_54 (by decide) (by decide) ?_
      exact J1 _ (Or.inl ⟨rfl, by omega⟩)
    · refine Go.lload (pc' := 28) d4_26 rfl rfl ?_
      refine Go.ldcL (pc' := 31) (hw _ (List.mem_of_getElem? (i := 31) rfl)) d4_28 rfl ?_
      refine Go.lcmp (pc' := 32) d4_31 rfl ?_
      refine Go.ifw (pc1 := 53) (pc2 := 35) d4_32 (by decide) (by decide) rfl (fun (c_157 : d.toInt = (5 : Int)) => ?_) (fun (c_157 : d.toInt ≠ (5 : Int)) => ?_)
      · refine Go.iconst (pc' := 54) (v := (1 : Int32)) d4_53 rfl rfl ?_
        refine Go.goto (pc' := 58) d4_54 (by decide) (by decide) ?_
        exact J1 _ (Or.inl ⟨rfl, by omega⟩)
      · refine Go.lload (pc' := 37) d4_35 rfl rfl ?_
        refine Go.ldcL (pc' := 40) (hw _ (List.mem_of_getElem? (i := 35) rfl)) d4_37 rfl ?_
        refine Go.lcmp (pc' := 41) d4_40 rfl ?_
        refine Go.ifw (pc1 := 53) (pc2 := 44) d4_41 (by decide) (by decide) rfl (fun (c_158 : d.toInt = (7 : Int)) => ?_) (fun (c_158 : d.toInt ≠ (7 : Int)) => ?_)
        · refine Go.iconst (pc' := 54) (v := (1 : Int32)) d4_53 rfl rfl ?_
          refine Go.goto (pc' := 58) d4_54 (by decide) (by decide) ?_
          exact J1 _ (Or.inl ⟨rfl, by omega⟩)
        · refine Go.lload (pc' := 46) d4_44 rfl rfl ?_
          refine Go.ldcL (pc' := 49) (hw _ (List.mem_of_getElem? (i := 36) rfl)) d4_46 rfl ?_
          refine Go.lcmp (pc' := 50) d4_49 rfl ?_
          refine Go.ifw (pc1 := 57) (pc2 := 53) d4_50 (by decide) (by decide) rfl (fun (c_159 : d.toInt ≠ (9 : Int)) => ?_) (fun (c_159 : d.toInt = (9 : Int)) => ?_)
          · refine Go.iconst (pc' := 58) (v := (0 : Int32)) d4_57 rfl rfl ?_
            exact J1 _ (Or.inr ⟨rfl, by omega⟩)
          · refine Go.iconst (pc' := 54) (v := (1 : Int32)) d4_53 rfl rfl ?_
            refine Go.goto (pc' := 58) d4_54 (by decide) (by decide) ?_
            exact J1 _ (Or.inl ⟨rfl, by omega⟩)
set_option maxRecDepth 65536 in
set_option maxHeartbeats 40000000 in
theorem rm1 (l : Launch) (Z : State) (a0 : Array Value) (hw : ∀ d ∈ tables_1, d.before a0 Z = true) (ws : List Jvm.Cond) (m1 f1 : Int32) (k1 v1 : Int64) (u0 u1 u2 u3 u4 u5 u6 u7 : Addr) (h0 : Heap) (n0 : Nat) (z0 : n0 ≤ h0.size) (hS0 : Sta Z h0 "com/example/tenscale/tenscale/Rounding" "CEILING" "Lcom/example/tenscale/tenscale/Rounding;" (.ref u0)) (hE0 : Exa Z h0 u0 "com/example/tenscale/tenscale/Rounding") (hF0 : Fld Z h0 u0 "java/lang/Enum" "ordinal" "I" (.int (0 : Int32))) (hS1 : Sta Z h0 "com/example/tenscale/tenscale/Rounding" "DOWN" "Lcom/example/tenscale/tenscale/Rounding;" (.ref u1)) (hE1 : Exa Z h0 u1 "com/example/tenscale/tenscale/Rounding") (hF1 : Fld Z h0 u1 "java/lang/Enum" "ordinal" "I" (.int (1 : Int32))) (hS2 : Sta Z h0 "com/example/tenscale/tenscale/Rounding" "FLOOR" "Lcom/example/tenscale/tenscale/Rounding;" (.ref u2)) (hE2 : Exa Z h0 u2 "com/example/tenscale/tenscale/Rounding") (hF2 : Fld Z h0 u2 "java/lang/Enum" "ordinal" "I" (.int (2 : Int32))) (hS3 : Sta Z h0 "com/example/tenscale/tenscale/Rounding" "HALF_DOWN" "Lcom/example/tenscale/tenscale/Rounding;" (.ref u3)) (hE3 : Exa Z h0 u3 "com/example/tenscale/tenscale/Rounding") (hF3 : Fld Z h0 u3 "java/lang/Enum" "ordinal" "I" (.int (3 : Int32))) (hS4 : Sta Z h0 "com/example/tenscale/tenscale/Rounding" "HALF_EVEN" "Lcom/example/tenscale/tenscale/Rounding;" (.ref u4)) (hE4 : Exa Z h0 u4 "com/example/tenscale/tenscale/Rounding") (hF4 : Fld Z h0 u4 "java/lang/Enum" "ordinal" "I" (.int (4 : Int32))) (hS5 : Sta Z h0 "com/example/tenscale/tenscale/Rounding" "HALF_UP" "Lcom/example/tenscale/tenscale/Rounding;" (.ref u5)) (hE5 : Exa Z h0 u5 "com/example/tenscale/tenscale/Rounding") (hF5 : Fld Z h0 u5 "java/lang/Enum" "ordinal" "I" (.int (5 : Int32))) (hS6 : Sta Z h0 "com/example/tenscale/tenscale/Rounding" "UP" "Lcom/example/tenscale/tenscale/Rounding;" (.ref u6)) (hE6 : Exa Z h0 u6 "com/example/tenscale/tenscale/Rounding") (hF6 : Fld Z h0 u6 "java/lang/Enum" "ordinal" "I" (.int (6 : Int32))) (hS7 : Sta Z h0 "com/example/tenscale/tenscale/Rounding" "ZERO_FIVE_UP" "Lcom/example/tenscale/tenscale/Rounding;" (.ref u7)) (hE7 : Exa Z h0 u7 "com/example/tenscale/tenscale/Rounding") (hF7 : Fld Z h0 u7 "java/lang/Enum" "ordinal" "I" (.int (7 : Int32))) : MetFree l x (head1 (Jvm.Cond.code x code maxLocals ret :: ws) room_1) (fun a U => a = #[(.int m1), (.int f1), (.long k1), (.long v1)] ∧ Z.Warmed39 U.vm ∧ U.heap = h0) (fun _ _ _ _ _ => True) (fun _ U o U' => ∃ v L, o = .returned v ∧ (((fun v h => v = some (.int 1)) v U'.heap ∧ h0.size ≤ U'.heap.size) ∧ Fr n0 L) ∧ GoEnd false U o U' L 0 0) := by
  refine met_go (y := x) (Q := fun v h => v = some (.int 1)) (Ls := #[.val (.int m1), .val (.int f1), .val (.long k1), .second, .val (.long v1), .second, .unset, .unset, .unset, .unset, .unset, .unset]) (plainFor_of_name pn0) (fun m => by first | (simp [entryFrame, mkF, argsToLocals, Value.category, maxLocals]; done) | rfl) ?_
  show (Go false l room_1 Z x code maxLocals ret n0 0 0 (fun v h => v = some (.int 1))) h0 0 0 0 #[.val (.int m1), .val (.int f1), .val (.long k1), .second, .val (.long v1), .second, .unset, .unset, .unset, .unset, .unset, .unset] []
  refine Go.iloadN (pc' := 1) at_0 rfl rfl ?_
  refine Go.bipush (pc' := 3) (v := (7 : Int32)) at_1 rfl rfl ?_
  refine Go.iand (pc' := 4) at_3 rfl ?_
  generalize em_160 : m1 &&& (7 : Int32) = m_160
  have k_161 : m_160.toInt = 0 ∨ m_160.toInt = 1 ∨ m_160.toInt = 2 ∨ m_160.toInt = 3 ∨ m_160.toInt = 4 ∨ m_160.toInt = 5 ∨ m_160.toInt = 6 ∨ m_160.toInt = 7 := by
    rw [← em_160]
    have : (7 : Int32).toInt = 7 := by decide
    have := c_mask m1 (7 : Int32) 3 (by decide) (by decide)
    have := rng32 (m1 &&& (7 : Int32))
    have := rng32 m1
    omega
  refine Go.istore (pc' := 6) (Ls' := #[.val (.int m1), .val (.int f1), .val (.long k1), .second, .val (.long v1), .second, .val (.int m_160), .unset, .unset, .unset, .unset, .unset]) at_4 rfl rfl ?_
  refine Go.iloadN (pc' := 7) at_6 rfl rfl ?_
  refine Go.iconst (pc' := 8) (v := (1 : Int32)) at_7 rfl rfl ?_
  refine Go.iand (pc' := 9) at_8 rfl ?_
  have J1 : ∀ g : Int32, (g.toInt = 0 ∨ g.toInt = 1) → (Go false l room_1 Z x code maxLocals ret n0 0 0 (fun v h => v = some (.int 1))) h0 0 0 17 #[.val (.int m1), .val (.int f1), .val (.long k1), .second, .val (.long v1), .second, .val (.int m_160), .unset, .unset, .unset, .unset, .unset] [(.int g)] := by
    intro g hg
    refine Go.istore (pc' := 19) (Ls' := #[.val (.int m1), .val (.int f1), .val (.long k1), .second, .val (.long v1), .second, .val (.int m_160), .val (.int g), .unset, .unset, .unset, .unset]) at_17 rfl rfl ?_
    refine Go.lload (pc' := 21) at_19 rfl rfl ?_
    refine Go.lstore (pc' := 23) (Ls' := #[.val (.int m1), .val (.int f1), .val (.long k1), .second, .val (.long v1), .second, .val (.int m_160), .val (.int g), .val (.long v1), .second, .unset, .unset]) at_21 rfl rfl ?_
    refine Go.lload (pc' := 25) at_23 rfl rfl ?_
    refine Go.ldcL (pc' := 28) (hw _ (List.mem_of_getElem? (i := 0) rfl)) at_25 rfl ?_
    refine Go.lcmp (pc' := 29) at_28 rfl ?_
    have J2 : ∀ v : Int64, (-9223372036854775808 < v.toInt ∧ v.toInt < 9223372036854775807) → (Go false l room_1 Z x code maxLocals ret n0 0 0 (fun v h => v = some (.int 1))) h0 0 0 51 #[.val (.int m1), .val (.int f1), .val (.long k1), .second, .val (.long v1), .second, .val (.int m_160), .val (.int g), .val (.long v), .second, .unset, .unset] [] := by
      intro v hv
      refine Go.iload (pc' := 53) at_51 rfl rfl ?_
      clear em_160
      rcases k_161 with k_161 | k_161 | k_161 | k_161 | k_161 | k_161 | k_161 | k_161
      · obtain rfl : m_160 = (0 : Int32) := Int32.toInt_inj.mp k_161
        refine Go.callS (pc' := 56) (argsL := [(.int (0 : Int32))]) (rest := []) (W := 0) (hw _ (List.mem_of_getElem? (i := 2) rfl)) (hw _ (List.mem_of_getElem? (i := 3) rfl)) (hw _ (List.mem_of_getElem? (i := 4) rfl)) (hw _ (List.mem_of_getElem? (i := 5) rfl)) (by decide) (m_pick0 l Z a0 hw u0 h0 n0 z0 hS0) at_53 rfl pd2 rfl rfl (Nat.le_of_eq rfl) (by decide) (by decide) (by decide) (by decide) rfl ?_
        rintro _ _ ⟨rfl, rfl⟩
        show (Go false l room_1 Z x code maxLocals ret n0 0 0 (fun v h => v = some (.int 1))) h0 (0 + 0) (0 + 0) 56 #[.val (.int m1), .val (.int f1), .val (.long k1), .second, .val (.long v1), .second, .val (.int (0 : Int32)), .val (.int g), .val (.long v), .second, .unset, .unset] [(.ref u0)]
        refine Go.astore (pc' := 58) (Ls' := #[.val (.int m1), .val (.int f1), .val (.long k1), .second, .val (.long v1), .second, .val (.int (0 : Int32)), .val (.int g), .val (.long v), .second, .val (.ref u0), .unset]) at_56 rfl rfl rfl ?_
        refine Go.aload (pc' := 60) at_58 rfl rfl rfl ?_
        refine Go.iload (pc' := 62) at_60 rfl rfl ?_
        refine Go.lloadN (pc' := 63) at_62 rfl rfl ?_
        refine Go.lload (pc' := 65) at_63 rfl rfl ?_
        refine Go.callV (pc' := 68) (argsL := [(.int g), (.long k1), (.long v)]) (rest := []) (W := 0) (hw _ (List.mem_of_getElem? (i := 9) rfl)) (hw _ (List.mem_of_getElem? (i := 10) rfl)) (hw _ (List.mem_of_getElem? (i := 12) rfl)) (hw _ (List.mem_of_getElem? (i := 11) rfl)) (hw _ (List.mem_of_getElem? (i := 7) rfl)) (hw _ (List.mem_of_getElem? (i := 13) rfl)) (by decide) hE0 (m_up0 l Z a0 hw u0 g k1 v h0 n0 z0 hE0 hF0 hg hv) at_65 rfl pd3 rfl rfl (Nat.le_of_eq rfl) (by decide) (by decide) (by decide) (by decide) rfl ?_
        rintro _ _ ⟨r, rfl, rfl, hr, hr2⟩
        show (Go false l room_1 Z x code maxLocals ret n0 0 0 (fun v h => v = some (.int 1))) h0 (0 + 0 + 0) (0 + 0 + 0) 68 #[.val (.int m1), .val (.int f1), .val (.long k1), .second, .val (.long v1), .second, .val (.int (0 : Int32)), .val (.int g), .val (.long v), .second, .val (.ref u0), .unset] [(.int r)]
        refine Go.istore (pc' := 70) (Ls' := #[.val (.int m1), .val (.int f1), .val (.long k1), .second, .val (.long v1), .second, .val (.int (0 : Int32)), .val (.int g), .val (.long v), .second, .val (.ref u0), .val (.int r)]) at_68 rfl rfl ?_
        refine Go.iload (pc' := 72) at_70 rfl rfl ?_
        refine Go.iload (pc' := 74) at_72 rfl rfl ?_
        refine Go.iload (pc' := 76) at_74 rfl rfl ?_
        refine Go.lloadN (pc' := 77) at_76 rfl rfl ?_
        refine Go.lload (pc' := 79) at_77 rfl rfl ?_
        refine Go.callS (pc' := 82) (argsL := [(.int (0 : Int32)), (.int g), (.long k1), (.long v)]) (rest := [(.int r)]) (W := 1) (hw _ (List.mem_of_getElem? (i := 23) rfl)) (hw _ (List.mem_of_getElem? (i := 24) rfl)) (hw _ (List.mem_of_getElem? (i := 4) rfl)) (hw _ (List.mem_of_getElem? (i := 25) rfl)) (by decide) (m_ex0 l Z a0 hw g k1 v h0 n0 z0 hg hv) at_79 rfl pd4 rfl rfl (Nat.le_of_eq rfl) (by decide) (by decide) (by decide) (by decide) rfl ?_
        rintro _ _ ⟨q, rfl, rfl, hq, hq2⟩
        show (Go false l room_1 Z x code maxLocals ret n0 0 0 (fun v h => v = some (.int 1))) h0 (0 + 0 + 0 + 0) (0 + 0 + 0 + 0) 82 #[.val (.int m1), .val (.int f1), .val (.long k1), .second, .val (.long v1), .second, .val (.int (0 : Int32)), .val (.int g), .val (.long v), .second, .val (.ref u0), .val (.int r)] [(.int q), (.int r)]
        refine Go.icmp (pc1 := 89) (pc2 := 85) at_82 (by decide) (by decide) rfl (fun (c_162 : r.toInt ≠ q.toInt) => ?_) (fun (c_162 : r.toInt = q.toInt) => ?_)
        · exact absurd (by omega) c_162
        refine Go.iconst (pc' := 86) (v := (1 : Int32)) at_85 rfl rfl ?_
        refine Go.goto (pc' := 90) at_86 (by decide) (by decide) ?_
        exact Go.retN (t := .boolean) at_90 rfl (by simp) rfl rfl (by decide) (by decide)
      · obtain rfl : m_160 = (1 : Int32) := Int32.toInt_inj.mp k_161
        refine Go.callS (pc' := 56) (argsL := [(.int (1 : Int32))]) (rest := []) (W := 0) (hw _ (List.mem_of_getElem? (i := 2) rfl)) (hw _ (List.mem_of_getElem? (i := 3) rfl)) (hw _ (List.mem_of_getElem? (i := 4) rfl)) (hw _ (List.mem_of_getElem? (i := 5) rfl)) (by decide) (m_pick1 l Z a0 hw u1 h0 n0 z0 hS1) at_53 rfl pd2 rfl rfl (Nat.le_of_eq rfl) (by decide) (by decide) (by decide) (by decide) rfl ?_
        rintro _ _ ⟨rfl, rfl⟩
        show (Go false l room_1 Z x code maxLocals ret n0 0 0 (fun v h => v = some (.int 1))) h0 (0 + 0) (0 + 0) 56 #[.val (.int m1), .val (.int f1), .val (.long k1), .second, .val (.long v1), .second, .val (.int (1 : Int32)), .val (.int g), .val (.long v), .second, .unset, .unset] [(.ref u1)]
        refine Go.astore (pc' := 58) (Ls' := #[.val (.int m1), .val (.int f1), .val (.long k1), .second, .val (.long v1), .second, .val (.int (1 : Int32)), .val (.int g), .val (.long v), .second, .val (.ref u1), .unset]) at_56 rfl rfl rfl ?_
        refine Go.aload (pc' := 60) at_58 rfl rfl rfl ?_
        refine Go.iload (pc' := 62) at_60 rfl rfl ?_
        refine Go.lloadN (pc' := 63) at_62 rfl rfl ?_
        refine Go.lload (pc' := 65) at_63 rfl rfl ?_
        refine Go.callV (pc' := 68) (argsL := [(.int g), (.long k1), (.long v)]) (rest := []) (W := 0) (hw _ (List.mem_of_getElem? (i := 9) rfl)) (hw _ (List.mem_of_getElem? (i := 10) rfl)) (hw _ (List.mem_of_getElem? (i := 12) rfl)) (hw _ (List.mem_of_getElem? (i := 11) rfl)) (hw _ (List.mem_of_getElem? (i := 7) rfl)) (hw _ (List.mem_of_getElem? (i := 13) rfl)) (by decide) hE1 (m_up1 l Z a0 hw u1 g k1 v h0 n0 z0 hE1 hF1 hg hv) at_65 rfl pd3 rfl rfl (Nat.le_of_eq rfl) (by decide) (by decide) (by decide) (by decide) rfl ?_
        rintro _ _ ⟨r, rfl, rfl, hr, hr2⟩
        show (Go false l room_1 Z x code maxLocals ret n0 0 0 (fun v h => v = some (.int 1))) h0 (0 + 0 + 0) (0 + 0 + 0) 68 #[.val (.int m1), .val (.int f1), .val (.long k1), .second, .val (.long v1), .second, .val (.int (1 : Int32)), .val (.int g), .val (.long v), .second, .val (.ref u1), .unset] [(.int r)]
        refine Go.istore (pc' := 70) (Ls' := #[.val (.int m1), .val (.int f1), .val (.long k1), .second, .val (.long v1), .second, .val (.int (1 : Int32)), .val (.int g), .val (.long v), .second, .val (.ref u1), .val (.int r)]) at_68 rfl rfl ?_
        refine Go.iload (pc' := 72) at_70 rfl rfl ?_
        refine Go.iload (pc' := 74) at_72 rfl rfl ?_
        refine Go.iload (pc' := 76) at_74 rfl rfl ?_
        refine Go.lloadN (pc' := 77) at_76 rfl rfl ?_
        refine Go.lload (pc' := 79) at_77 rfl rfl ?_
        refine Go.callS (pc' := 82) (argsL := [(.int (1 : Int32)), (.int g), (.long k1), (.long v)]) (rest := [(.int r)]) (W := 1) (hw _ (List.mem_of_getElem? (i := 23) rfl)) (hw _ (List.mem_of_getElem? (i := 24) rfl)) (hw _ (List.mem_of_getElem? (i := 4) rfl)) (hw _ (List.mem_of_getElem? (i := 25) rfl)) (by decide) (m_ex1 l Z a0 hw g k1 v h0 n0 z0 hg hv) at_79 rfl pd4 rfl rfl (Nat.le_of_eq rfl) (by decide) (by decide) (by decide) (by decide) rfl ?_
        rintro _ _ ⟨q, rfl, rfl, hq, hq2⟩
        show (Go false l room_1 Z x code maxLocals ret n0 0 0 (fun v h => v = some (.int 1))) h0 (0 + 0 + 0 + 0) (0 + 0 + 0 + 0) 82 #[.val (.int m1), .val (.int f1), .val (.long k1), .second, .val (.long v1), .second, .val (.int (1 : Int32)), .val (.int g), .val (.long v), .second, .val (.ref u1), .val (.int r)] [(.int q), (.int r)]
        refine Go.icmp (pc1 := 89) (pc2 := 85) at_82 (by decide) (by decide) rfl (fun (c_163 : r.toInt ≠ q.toInt) => ?_) (fun (c_163 : r.toInt = q.toInt) => ?_)
        · exact absurd (by omega) c_163
        refine Go.iconst (pc' := 86) (v := (1 : Int32)) at_85 rfl rfl ?_
        refine Go.goto (pc' := 90) at_86 (by decide) (by decide) ?_
        exact Go.retN (t := .boolean) at_90 rfl (by simp) rfl rfl (by decide) (by decide)
      · obtain rfl : m_160 = (2 : Int32) := Int32.toInt_inj.mp k_161
        refine Go.callS (pc' := 56) (argsL := [(.int (2 : Int32))]) (rest := []) (W := 0) (hw _ (List.mem_of_getElem? (i := 2) rfl)) (hw _ (List.mem_of_getElem? (i := 3) rfl)) (hw _ (List.mem_of_getElem? (i := 4) rfl)) (hw _ (List.mem_of_getElem? (i := 5) rfl)) (by decide) (m_pick2 l Z a0 hw u2 h0 n0 z0 hS2) at_53 rfl pd2 rfl rfl (Nat.le_of_eq rfl) (by decide) (by decide) (by decide) (by decide) rfl ?_
        rintro _ _ ⟨rfl, rfl⟩
        show (Go false l room_1 Z x code maxLocals ret n0 0 0 (fun v h => v = some (.int 1))) h0 (0 + 0) (0 + 0) 56 #[.val (.int m1), .val (.int f1), .val (.long k1), .second, .val (.long v1), .second, .val (.int (2 : Int32)), .val (.int g), .val (.long v), .second, .unset, .unset] [(.ref u2)]
        refine Go.astore (pc' := 58) (Ls' := #[.val (.int m1), .val (.int f1), .val (.long k1), .second, .val (.long v1), .second, .val (.int (2 : Int32)), .val (.int g), .val (.long v), .second, .val (.ref u2), .unset]) at_56 rfl rfl rfl ?_
        refine Go.aload (pc' := 60) at_58 rfl rfl rfl ?_
        refine Go.iload (pc' := 62) at_60 rfl rfl ?_
        refine Go.lloadN (pc' := 63) at_62 rfl rfl ?_
        refine Go.lload (pc' := 65) at_63 rfl rfl ?_
        refine Go.callV (pc' := 68) (argsL := [(.int g), (.long k1), (.long v)]) (rest := []) (W := 0) (hw _ (List.mem_of_getElem? (i := 9) rfl)) (hw _ (List.mem_of_getElem? (i := 10) rfl)) (hw _ (List.mem_of_getElem? (i := 12) rfl)) (hw _ (List.mem_of_getElem? (i := 11) rfl)) (hw _ (List.mem_of_getElem? (i := 7) rfl)) (hw _ (List.mem_of_getElem? (i := 13) rfl)) (by decide) hE2 (m_up2 l Z a0 hw u2 g k1 v h0 n0 z0 hE2 hF2 hg hv) at_65 rfl pd3 rfl rfl (Nat.le_of_eq rfl) (by decide) (by decide) (by decide) (by decide) rfl ?_
        rintro _ _ ⟨r, rfl, rfl, hr, hr2⟩
        show (Go false l room_1 Z x code maxLocals ret n0 0 0 (fun v h => v = some (.int 1))) h0 (0 + 0 + 0) (0 + 0 + 0) 68 #[.val (.int m1), .val (.int f1), .val (.long k1), .second, .val (.long v1), .second, .val (.int (2 : Int32)), .val (.int g), .val (.long v), .second, .val (.ref u2), .unset] [(.int r)]
        refine Go.istore (pc' := 70) (Ls' := #[.val (.int m1), .val (.int f1), .val (.long k1), .second, .val (.long v1), .second, .val (.int (2 : Int32)), .val (.int g), .val (.long v), .second, .val (.ref u2), .val (.int r)]) at_68 rfl rfl ?_
        refine Go.iload (pc' := 72) at_70 rfl rfl ?_
        refine Go.iload (pc' := 74) at_72 rfl rfl ?_
        refine Go.iload (pc' := 76) at_74 rfl rfl ?_
        refine Go.lloadN (pc' := 77) at_76 rfl rfl ?_
        refine Go.lload (pc' := 79) at_77 rfl rfl ?_
        refine Go.callS (pc' := 82) (argsL := [(.int (2 : Int32)), (.int g), (.long k1), (.long v)]) (rest := [(.int r)]) (W := 1) (hw _ (List.mem_of_getElem? (i := 23) rfl)) (hw _ (List.mem_of_getElem? (i := 24) rfl)) (hw _ (List.mem_of_getElem? (i := 4) rfl)) (hw _ (List.mem_of_getElem? (i := 25) rfl)) (by decide) (m_ex2 l Z a0 hw g k1 v h0 n0 z0 hg hv) at_79 rfl pd4 rfl rfl (Nat.le_of_eq rfl) (by decide) (by decide) (by decide) (by decide) rfl ?_
        rintro _ _ ⟨q, rfl, rfl, hq, hq2⟩
        show (Go false l room_1 Z x code maxLocals ret n0 0 0 (fun v h => v = some (.int 1))) h0 (0 + 0 + 0 + 0) (0 + 0 + 0 + 0) 82 #[.val (.int m1), .val (.int f1), .val (.long k1), .second, .val (.long v1), .second, .val (.int (2 : Int32)), .val (.int g), .val (.long v), .second, .val (.ref u2), .val (.int r)] [(.int q), (.int r)]
        refine Go.icmp (pc1 := 89) (pc2 := 85) at_82 (by decide) (by decide) rfl (fun (c_164 : r.toInt ≠ q.toInt) => ?_) (fun (c_164 : r.toInt = q.toInt) => ?_)
        · exact absurd (by omega) c_164
        refine Go.iconst (pc' := 86) (v := (1 : Int32)) at_85 rfl rfl ?_
        refine Go.goto (pc' := 90) at_86 (by decide) (by decide) ?_
        exact Go.retN (t := .boolean) at_90 rfl (by simp) rfl rfl (by decide) (by decide)
      · obtain rfl : m_160 = (3 : Int32) := Int32.toInt_inj.mp k_161
        refine Go.callS (pc' := 56) (argsL := [(.int (3 : Int32))]) (rest := []) (W := 0) (hw _ (List.mem_of_getElem? (i := 2) rfl)) (hw _ (List.mem_of_getElem? (i := 3) rfl)) (hw _ (List.mem_of_getElem? (i := 4) rfl)) (hw _ (List.mem_of_getElem? (i := 5) rfl)) (by decide) (m_pick3 l Z a0 hw u3 h0 n0 z0 hS3) at_53 rfl pd2 rfl rfl (Nat.le_of_eq rfl) (by decide) (by decide) (by decide) (by decide) rfl ?_
        rintro _ _ ⟨rfl, rfl⟩
        show (Go false l room_1 Z x code maxLocals ret n0 0 0 (fun v h => v = some (.int 1))) h0 (0 + 0) (0 + 0) 56 #[.val (.int m1), .val (.int f1), .val (.long k1), .second, .val (.long v1), .second, .val (.int (3 : Int32)), .val (.int g), .val (.long v), .second, .unset, .unset] [(.ref u3)]
        refine Go.astore (pc' := 58) (Ls' := #[.val (.int m1), .val (.int f1), .val (.long k1), .second, .val (.long v1), .second, .val (.int (3 : Int32)), .val (.int g), .val (.long v), .second, .val (.ref u3), .unset]) at_56 rfl rfl rfl ?_
        refine Go.aload (pc' := 60) at_58 rfl rfl rfl ?_
        refine Go.iload (pc' := 62) at_60 rfl rfl ?_
        refine Go.lloadN (pc' := 63) at_62 rfl rfl ?_
        refine Go.lload (pc' := 65) at_63 rfl rfl ?_
        refine Go.callV (pc' := 68) (argsL := [(.int g), (.long k1), (.long v)]) (rest := []) (W := 0) (hw _ (List.mem_of_getElem? (i := 9) rfl)) (hw _ (List.mem_of_getElem? (i := 10) rfl)) (hw _ (List.mem_of_getElem? (i := 12) rfl)) (hw _ (List.mem_of_getElem? (i := 11) rfl)) (hw _ (List.mem_of_getElem? (i := 7) rfl)) (hw _ (List.mem_of_getElem? (i := 13) rfl)) (by decide) hE3 (m_up3 l Z a0 hw u3 g k1 v h0 n0 z0 hE3 hF3 hg hv) at_65 rfl pd3 rfl rfl (Nat.le_of_eq rfl) (by decide) (by decide) (by decide) (by decide) rfl ?_
        rintro _ _ ⟨r, rfl, rfl, hr, hr2⟩
        show (Go false l room_1 Z x code maxLocals ret n0 0 0 (fun v h => v = some (.int 1))) h0 (0 + 0 + 0) (0 + 0 + 0) 68 #[.val (.int m1), .val (.int f1), .val (.long k1), .second, .val (.long v1), .second, .val (.int (3 : Int32)), .val (.int g), .val (.long v), .second, .val (.ref u3), .unset] [(.int r)]
        refine Go.istore (pc' := 70) (Ls' := #[.val (.int m1), .val (.int f1), .val (.long k1), .second, .val (.long v1), .second, .val (.int (3 : Int32)), .val (.int g), .val (.long v), .second, .val (.ref u3), .val (.int r)]) at_68 rfl rfl ?_
        refine Go.iload (pc' := 72) at_70 rfl rfl ?_
        refine Go.iload (pc' := 74) at_72 rfl rfl ?_
        refine Go.iload (pc' := 76) at_74 rfl rfl ?_
        refine Go.lloadN (pc' := 77) at_76 rfl rfl ?_
        refine Go.lload (pc' := 79) at_77 rfl rfl ?_
        refine Go.callS (pc' := 82) (argsL := [(.int (3 : Int32)), (.int g), (.long k1), (.long v)]) (rest := [(.int r)]) (W := 1) (hw _ (List.mem_of_getElem? (i := 23) rfl)) (hw _ (List.mem_of_getElem? (i := 24) rfl)) (hw _ (List.mem_of_getElem? (i := 4) rfl)) (hw _ (List.mem_of_getElem? (i := 25) rfl)) (by decide) (m_ex3 l Z a0 hw g k1 v h0 n0 z0 hg hv) at_79 rfl pd4 rfl rfl (Nat.le_of_eq rfl) (by decide) (by decide) (by decide) (by decide) rfl ?_
        rintro _ _ ⟨q, rfl, rfl, hq, hq2⟩
        show (Go false l room_1 Z x code maxLocals ret n0 0 0 (fun v h => v = some (.int 1))) h0 (0 + 0 + 0 + 0) (0 + 0 + 0 + 0) 82 #[.val (.int m1), .val (.int f1), .val (.long k1), .second, .val (.long v1), .second, .val (.int (3 : Int32)), .val (.int g), .val (.long v), .second, .val (.ref u3), .val (.int r)] [(.int q), (.int r)]
        refine Go.icmp (pc1 := 89) (pc2 := 85) at_82 (by decide) (by decide) rfl (fun (c_165 : r.toInt ≠ q.toInt) => ?_) (fun (c_165 : r.toInt = q.toInt) => ?_)
        · exact absurd (by omega) c_165
        refine Go.iconst (pc' := 86) (v := (1 : Int32)) at_85 rfl rfl ?_
        refine Go.goto (pc' := 90) at_86 (by decide) (by decide) ?_
        exact Go.retN (t := .boolean) at_90 rfl (by simp) rfl rfl (by decide) (by decide)
      · obtain rfl : m_160 = (4 : Int32) := Int32.toInt_inj.mp k_161
        refine Go.callS (pc' := 56) (argsL := [(.int (4 : Int32))]) (rest := []) (W := 0) (hw _ (List.mem_of_getElem? (i := 2) rfl)) (hw _ (List.mem_of_getElem? (i := 3) rfl)) (hw _ (List.mem_of_getElem? (i := 4) rfl)) (hw _ (List.mem_of_getElem? (i := 5) rfl)) (by decide) (m_pick4 l Z a0 hw u4 h0 n0 z0 hS4) at_53 rfl pd2 rfl rfl (Nat.le_of_eq rfl) (by decide) (by decide) (by decide) (by decide) rfl ?_
        rintro _ _ ⟨rfl, rfl⟩
        show (Go false l room_1 Z x code maxLocals ret n0 0 0 (fun v h => v = some (.int 1))) h0 (0 + 0) (0 + 0) 56 #[.val (.int m1), .val (.int f1), .val (.long k1), .second, .val (.long v1), .second, .val (.int (4 : Int32)), .val (.int g), .val (.long v), .second, .unset, .unset] [(.ref u4)]
        refine Go.astore (pc' := 58) (Ls' := #[.val (.int m1), .val (.int f1), .val (.long k1), .second, .val (.long v1), .second, .val (.int (4 : Int32)), .val (.int g), .val (.long v), .second, .val (.ref u4), .unset]) at_56 rfl rfl rfl ?_
        refine Go.aload (pc' := 60) at_58 rfl rfl rfl ?_
        refine Go.iload (pc' := 62) at_60 rfl rfl ?_
        refine Go.lloadN (pc' := 63) at_62 rfl rfl ?_
        refine Go.lload (pc' := 65) at_63 rfl rfl ?_
        refine Go.callV (pc' := 68) (argsL := [(.int g), (.long k1), (.long v)]) (rest := []) (W := 0) (hw _ (List.mem_of_getElem? (i := 9) rfl)) (hw _ (List.mem_of_getElem? (i := 10) rfl)) (hw _ (List.mem_of_getElem? (i := 12) rfl)) (hw _ (List.mem_of_getElem? (i := 11) rfl)) (hw _ (List.mem_of_getElem? (i := 7) rfl)) (hw _ (List.mem_of_getElem? (i := 13) rfl)) (by decide) hE4 (m_up4 l Z a0 hw u4 g k1 v h0 n0 z0 hE4 hF4 hg hv) at_65 rfl pd3 rfl rfl (Nat.le_of_eq rfl) (by decide) (by decide) (by decide) (by decide) rfl ?_
        rintro _ _ ⟨r, rfl, rfl, hr, hr2⟩
        show (Go false l room_1 Z x code maxLocals ret n0 0 0 (fun v h => v = some (.int 1))) h0 (0 + 0 + 0) (0 + 0 + 0) 68 #[.val (.int m1), .val (.int f1), .val (.long k1), .second, .val (.long v1), .second, .val (.int (4 : Int32)), .val (.int g), .val (.long v), .second, .val (.ref u4), .unset] [(.int r)]
        refine Go.istore (pc' := 70) (Ls' := #[.val (.int m1), .val (.int f1), .val (.long k1), .second, .val (.long v1), .second, .val (.int (4 : Int32)), .val (.int g), .val (.long v), .second, .val (.ref u4), .val (.int r)]) at_68 rfl rfl ?_
        refine Go.iload (pc' := 72) at_70 rfl rfl ?_
        refine Go.iload (pc' := 74) at_72 rfl rfl ?_
        refine Go.iload (pc' := 76) at_74 rfl rfl ?_
        refine Go.lloadN (pc' := 77) at_76 rfl rfl ?_
        refine Go.lload (pc' := 79) at_77 rfl rfl ?_
        refine Go.callS (pc' := 82) (argsL := [(.int (4 : Int32)), (.int g), (.long k1), (.long v)]) (rest := [(.int r)]) (W := 1) (hw _ (List.mem_of_getElem? (i := 23) rfl)) (hw _ (List.mem_of_getElem? (i := 24) rfl)) (hw _ (List.mem_of_getElem? (i := 4) rfl)) (hw _ (List.mem_of_getElem? (i := 25) rfl)) (by decide) (m_ex4 l Z a0 hw g k1 v h0 n0 z0 hg hv) at_79 rfl pd4 rfl rfl (Nat.le_of_eq rfl) (by decide) (by decide) (by decide) (by decide) rfl ?_
        rintro _ _ ⟨q, rfl, rfl, hq, hq2⟩
        show (Go false l room_1 Z x code maxLocals ret n0 0 0 (fun v h => v = some (.int 1))) h0 (0 + 0 + 0 + 0) (0 + 0 + 0 + 0) 82 #[.val (.int m1), .val (.int f1), .val (.long k1), .second, .val (.long v1), .second, .val (.int (4 : Int32)), .val (.int g), .val (.long v), .second, .val (.ref u4), .val (.int r)] [(.int q), (.int r)]
        refine Go.icmp (pc1 := 89) (pc2 := 85) at_82 (by decide) (by decide) rfl (fun (c_166 : r.toInt ≠ q.toInt) => ?_) (fun (c_166 : r.toInt = q.toInt) => ?_)
        · exact absurd (by omega) c_166
        refine Go.iconst (pc' := 86) (v := (1 : Int32)) at_85 rfl rfl ?_
        refine Go.goto (pc' := 90) at_86 (by decide) (by decide) ?_
        exact Go.retN (t := .boolean) at_90 rfl (by simp) rfl rfl (by decide) (by decide)
      · obtain rfl : m_160 = (5 : Int32) := Int32.toInt_inj.mp k_161
        refine Go.callS (pc' := 56) (argsL := [(.int (5 : Int32))]) (rest := []) (W := 0) (hw _ (List.mem_of_getElem? (i := 2) rfl)) (hw _ (List.mem_of_getElem? (i := 3) rfl)) (hw _ (List.mem_of_getElem? (i := 4) rfl)) (hw _ (List.mem_of_getElem? (i := 5) rfl)) (by decide) (m_pick5 l Z a0 hw u5 h0 n0 z0 hS5) at_53 rfl pd2 rfl rfl (Nat.le_of_eq rfl) (by decide) (by decide) (by decide) (by decide) rfl ?_
        rintro _ _ ⟨rfl, rfl⟩
        show (Go false l room_1 Z x code maxLocals ret n0 0 0 (fun v h => v = some (.int 1))) h0 (0 + 0) (0 + 0) 56 #[.val (.int m1), .val (.int f1), .val (.long k1), .second, .val (.long v1), .second, .val (.int (5 : Int32)), .val (.int g), .val (.long v), .second, .unset, .unset] [(.ref u5)]
        refine Go.astore (pc' := 58) (Ls' := #[.val (.int m1), .val (.int f1), .val (.long k1), .second, .val (.long v1), .second, .val (.int (5 : Int32)), .val (.int g), .val (.long v), .second, .val (.ref u5), .unset]) at_56 rfl rfl rfl ?_
        refine Go.aload (pc' := 60) at_58 rfl rfl rfl ?_
        refine Go.iload (pc' := 62) at_60 rfl rfl ?_
        refine Go.lloadN (pc' := 63) at_62 rfl rfl ?_
        refine Go.lload (pc' := 65) at_63 rfl rfl ?_
        refine Go.callV (pc' := 68) (argsL := [(.int g), (.long k1), (.long v)]) (rest := []) (W := 0) (hw _ (List.mem_of_getElem? (i := 9) rfl)) (hw _ (List.mem_of_getElem? (i := 10) rfl)) (hw _ (List.mem_of_getElem? (i := 12) rfl)) (hw _ (List.mem_of_getElem? (i := 11) rfl)) (hw _ (List.mem_of_getElem? (i := 7) rfl)) (hw _ (List.mem_of_getElem? (i := 13) rfl)) (by decide) hE5 (m_up5 l Z a0 hw u5 g k1 v h0 n0 z0 hE5 hF5 hg hv) at_65 rfl pd3 rfl rfl (Nat.le_of_eq rfl) (by decide) (by decide) (by decide) (by decide) rfl ?_
        rintro _ _ ⟨r, rfl, rfl, hr, hr2⟩
        show (Go false l room_1 Z x code maxLocals ret n0 0 0 (fun v h => v = some (.int 1))) h0 (0 + 0 + 0) (0 + 0 + 0) 68 #[.val (.int m1), .val (.int f1), .val (.long k1), .second, .val (.long v1), .second, .val (.int (5 : Int32)), .val (.int g), .val (.long v), .second, .val (.ref u5), .unset] [(.int r)]
        refine Go.istore (pc' := 70) (Ls' := #[.val (.int m1), .val (.int f1), .val (.long k1), .second, .val (.long v1), .second, .val (.int (5 : Int32)), .val (.int g), .val (.long v), .second, .val (.ref u5), .val (.int r)]) at_68 rfl rfl ?_
        refine Go.iload (pc' := 72) at_70 rfl rfl ?_
        refine Go.iload (pc' := 74) at_72 rfl rfl ?_
        refine Go.iload (pc' := 76) at_74 rfl rfl ?_
        refine Go.lloadN (pc' := 77) at_76 rfl rfl ?_
        refine Go.lload (pc' := 79) at_77 rfl rfl ?_
        refine Go.callS (pc' := 82) (argsL := [(.int (5 : Int32)), (.int g), (.long k1), (.long v)]) (rest := [(.int r)]) (W := 1) (hw _ (List.mem_of_getElem? (i := 23) rfl)) (hw _ (List.mem_of_getElem? (i := 24) rfl)) (hw _ (List.mem_of_getElem? (i := 4) rfl)) (hw _ (List.mem_of_getElem? (i := 25) rfl)) (by decide) (m_ex5 l Z a0 hw g k1 v h0 n0 z0 hg hv) at_79 rfl pd4 rfl rfl (Nat.le_of_eq rfl) (by decide) (by decide) (by decide) (by decide) rfl ?_
        rintro _ _ ⟨q, rfl, rfl, hq, hq2⟩
        show (Go false l room_1 Z x code maxLocals ret n0 0 0 (fun v h => v = some (.int 1))) h0 (0 + 0 + 0 + 0) (0 + 0 + 0 + 0) 82 #[.val (.int m1), .val (.int f1), .val (.long k1), .second, .val (.long v1), .second, .val (.int (5 : Int32)), .val (.int g), .val (.long v), .second, .val (.ref u5), .val (.int r)] [(.int q), (.int r)]
        refine Go.icmp (pc1 := 89) (pc2 := 85) at_82 (by decide) (by decide) rfl (fun (c_167 : r.toInt ≠ q.toInt) => ?_) (fun (c_167 : r.toInt = q.toInt) => ?_)
        · exact absurd (by omega) c_167
        refine Go.iconst (pc' := 86) (v := (1 : Int32)) at_85 rfl rfl ?_
        refine Go.goto (pc' := 90) at_86 (by decide) (by decide) ?_
        exact Go.retN (t := .boolean) at_90 rfl (by simp) rfl rfl (by decide) (by decide)
      · obtain rfl : m_160 = (6 : Int32) := Int32.toInt_inj.mp k_161
        refine Go.callS (pc' := 56) (argsL := [(.int (6 : Int32))]) (rest := []) (W := 0) (hw _ (List.mem_of_getElem? (i := 2) rfl)) (hw _ (List.mem_of_getElem? (i := 3) rfl)) (hw _ (List.mem_of_getElem? (i := 4) rfl)) (hw _ (List.mem_of_getElem? (i := 5) rfl)) (by decide) (m_pick6 l Z a0 hw u6 h0 n0 z0 hS6) at_53 rfl pd2 rfl rfl (Nat.le_of_eq rfl) (by decide) (by decide) (by decide) (by decide) rfl ?_
        rintro _ _ ⟨rfl, rfl⟩
        show (Go false l room_1 Z x code maxLocals ret n0 0 0 (fun v h => v = some (.int 1))) h0 (0 + 0) (0 + 0) 56 #[.val (.int m1), .val (.int f1), .val (.long k1), .second, .val (.long v1), .second, .val (.int (6 : Int32)), .val (.int g), .val (.long v), .second, .unset, .unset] [(.ref u6)]
        refine Go.astore (pc' := 58) (Ls' := #[.val (.int m1), .val (.int f1), .val (.long k1), .second, .val (.long v1), .second, .val (.int (6 : Int32)), .val (.int g), .val (.long v), .second, .val (.ref u6), .unset]) at_56 rfl rfl rfl ?_
        refine Go.aload (pc' := 60) at_58 rfl rfl rfl ?_
        refine Go.iload (pc' := 62) at_60 rfl rfl ?_
        refine Go.lloadN (pc' := 63) at_62 rfl rfl ?_
        refine Go.lload (pc' := 65) at_63 rfl rfl ?_
        refine Go.callV (pc' := 68) (argsL := [(.int g), (.long k1), (.long v)]) (rest := []) (W := 0) (hw _ (List.mem_of_getElem? (i := 9) rfl)) (hw _ (List.mem_of_getElem? (i := 10) rfl)) (hw _ (List.mem_of_getElem? (i := 12) rfl)) (hw _ (List.mem_of_getElem? (i := 11) rfl)) (hw _ (List.mem_of_getElem? (i := 7) rfl)) (hw _ (List.mem_of_getElem? (i := 13) rfl)) (by decide) hE6 (m_up6 l Z a0 hw u6 g k1 v h0 n0 z0 hE6 hF6 hg hv) at_65 rfl pd3 rfl rfl (Nat.le_of_eq rfl) (by decide) (by decide) (by decide) (by decide) rfl ?_
        rintro _ _ ⟨r, rfl, rfl, hr, hr2⟩
        show (Go false l room_1 Z x code maxLocals ret n0 0 0 (fun v h => v = some (.int 1))) h0 (0 + 0 + 0) (0 + 0 + 0) 68 #[.val (.int m1), .val (.int f1), .val (.long k1), .second, .val (.long v1), .second, .val (.int (6 : Int32)), .val (.int g), .val (.long v), .second, .val (.ref u6), .unset] [(.int r)]
        refine Go.istore (pc' := 70) (Ls' := #[.val (.int m1), .val (.int f1), .val (.long k1), .second, .val (.long v1), .second, .val (.int (6 : Int32)), .val (.int g), .val (.long v), .second, .val (.ref u6), .val (.int r)]) at_68 rfl rfl ?_
        refine Go.iload (pc' := 72) at_70 rfl rfl ?_
        refine Go.iload (pc' := 74) at_72 rfl rfl ?_
        refine Go.iload (pc' := 76) at_74 rfl rfl ?_
        refine Go.lloadN (pc' := 77) at_76 rfl rfl ?_
        refine Go.lload (pc' := 79) at_77 rfl rfl ?_
        refine Go.callS (pc' := 82) (argsL := [(.int (6 : Int32)), (.int g), (.long k1), (.long v)]) (rest := [(.int r)]) (W := 1) (hw _ (List.mem_of_getElem? (i := 23) rfl)) (hw _ (List.mem_of_getElem? (i := 24) rfl)) (hw _ (List.mem_of_getElem? (i := 4) rfl)) (hw _ (List.mem_of_getElem? (i := 25) rfl)) (by decide) (m_ex6 l Z a0 hw g k1 v h0 n0 z0 hg hv) at_79 rfl pd4 rfl rfl (Nat.le_of_eq rfl) (by decide) (by decide) (by decide) (by decide) rfl ?_
        rintro _ _ ⟨q, rfl, rfl, hq, hq2⟩
        show (Go false l room_1 Z x code maxLocals ret n0 0 0 (fun v h => v = some (.int 1))) h0 (0 + 0 + 0 + 0) (0 + 0 + 0 + 0) 82 #[.val (.int m1), .val (.int f1), .val (.long k1), .second, .val (.long v1), .second, .val (.int (6 : Int32)), .val (.int g), .val (.long v), .second, .val (.ref u6), .val (.int r)] [(.int q), (.int r)]
        refine Go.icmp (pc1 := 89) (pc2 := 85) at_82 (by decide) (by decide) rfl (fun (c_168 : r.toInt ≠ q.toInt) => ?_) (fun (c_168 : r.toInt = q.toInt) => ?_)
        · exact absurd (by omega) c_168
        refine Go.iconst (pc' := 86) (v := (1 : Int32)) at_85 rfl rfl ?_
        refine Go.goto (pc' := 90) at_86 (by decide) (by decide) ?_
        exact Go.retN (t := .boolean) at_90 rfl (by simp) rfl rfl (by decide) (by decide)
      · obtain rfl : m_160 = (7 : Int32) := Int32.toInt_inj.mp k_161
        refine Go.callS (pc' := 56) (argsL := [(.int (7 : Int32))]) (rest := []) (W := 0) (hw _ (List.mem_of_getElem? (i := 2) rfl)) (hw _ (List.mem_of_getElem? (i := 3) rfl)) (hw _ (List.mem_of_getElem? (i := 4) rfl)) (hw _ (List.mem_of_getElem? (i := 5) rfl)) (by decide) (m_pick7 l Z a0 hw u7 h0 n0 z0 hS7) at_53 rfl pd2 rfl rfl (Nat.le_of_eq rfl) (by decide) (by decide) (by decide) (by decide) rfl ?_
        rintro _ _ ⟨rfl, rfl⟩
        show (Go false l room_1 Z x code maxLocals ret n0 0 0 (fun v h => v = some (.int 1))) h0 (0 + 0) (0 + 0) 56 #[.val (.int m1), .val (.int f1), .val (.long k1), .second, .val (.long v1), .second, .val (.int (7 : Int32)), .val (.int g), .val (.long v), .second, .unset, .unset] [(.ref u7)]
        refine Go.astore (pc' := 58) (Ls' := #[.val (.int m1), .val (.int f1), .val (.long k1), .second, .val (.long v1), .second, .val (.int (7 : Int32)), .val (.int g), .val (.long v), .second, .val (.ref u7), .unset]) at_56 rfl rfl rfl ?_
        refine Go.aload (pc' := 60) at_58 rfl rfl rfl ?_
        refine Go.iload (pc' := 62) at_60 rfl rfl ?_
        refine Go.lloadN (pc' := 63) at_62 rfl rfl ?_
        refine Go.lload (pc' := 65) at_63 rfl rfl ?_
        refine Go.callV (pc' := 68) (argsL := [(.int g), (.long k1), (.long v)]) (rest := []) (W := 0) (hw _ (List.mem_of_getElem? (i := 9) rfl)) (hw _ (List.mem_of_getElem? (i := 10) rfl)) (hw _ (List.mem_of_getElem? (i := 12) rfl)) (hw _ (List.mem_of_getElem? (i := 11) rfl)) (hw _ (List.mem_of_getElem? (i := 7) rfl)) (hw _ (List.mem_of_getElem? (i := 13) rfl)) (by decide) hE7 (m_up7 l Z a0 hw u7 g k1 v h0 n0 z0 hE7 hF7 hg hv) at_65 rfl pd3 rfl rfl (Nat.le_of_eq rfl) (by decide) (by decide) (by decide) (by decide) rfl ?_
        rintro _ _ ⟨r, rfl, rfl, hr, hr2⟩
        show (Go false l room_1 Z x code maxLocals ret n0 0 0 (fun v h => v = some (.int 1))) h0 (0 + 0 + 0) (0 + 0 + 0) 68 #[.val (.int m1), .val (.int f1), .val (.long k1), .second, .val (.long v1), .second, .val (.int (7 : Int32)), .val (.int g), .val (.long v), .second, .val (.ref u7), .unset] [(.int r)]
        refine Go.istore (pc' := 70) (Ls' := #[.val (.int m1), .val (.int f1), .val (.long k1), .second, .val (.long v1), .second, .val (.int (7 : Int32)), .val (.int g), .val (.long v), .second, .val (.ref u7), .val (.int r)]) at_68 rfl rfl ?_
        refine Go.iload (pc' := 72) at_70 rfl rfl ?_
        refine Go.iload (pc' := 74) at_72 rfl rfl ?_
        refine Go.iload (pc' := 76) at_74 rfl rfl ?_
        refine Go.lloadN (pc' := 77) at_76 rfl rfl ?_
        refine Go.lload (pc' := 79) at_77 rfl rfl ?_
        refine Go.callS (pc' := 82) (argsL := [(.int (7 : Int32)), (.int g), (.long k1), (.long v)]) (rest := [(.int r)]) (W := 1) (hw _ (List.mem_of_getElem? (i := 23) rfl)) (hw _ (List.mem_of_getElem? (i := 24) rfl)) (hw _ (List.mem_of_getElem? (i := 4) rfl)) (hw _ (List.mem_of_getElem? (i := 25) rfl)) (by decide) (m_ex7 l Z a0 hw g k1 v h0 n0 z0 hg hv) at_79 rfl pd4 rfl rfl (Nat.le_of_eq rfl) (by decide) (by decide) (by decide) (by decide) rfl ?_
        rintro _ _ ⟨q, rfl, rfl, hq, hq2⟩
        show (Go false l room_1 Z x code maxLocals ret n0 0 0 (fun v h => v = some (.int 1))) h0 (0 + 0 + 0 + 0) (0 + 0 + 0 + 0) 82 #[.val (.int m1), .val (.int f1), .val (.long k1), .second, .val (.long v1), .second, .val (.int (7 : Int32)), .val (.int g), .val (.long v), .second, .val (.ref u7), .val (.int r)] [(.int q), (.int r)]
        refine Go.icmp (pc1 := 89) (pc2 := 85) at_82 (by decide) (by decide) rfl (fun (c_169 : r.toInt ≠ q.toInt) => ?_) (fun (c_169 : r.toInt = q.toInt) => ?_)
        · exact absurd (by omega) c_169
        refine Go.iconst (pc' := 86) (v := (1 : Int32)) at_85 rfl rfl ?_
        refine Go.goto (pc' := 90) at_86 (by decide) (by decide) ?_
        exact Go.retN (t := .boolean) at_90 rfl (by simp) rfl rfl (by decide) (by decide)
    refine Go.ifw (pc1 := 37) (pc2 := 32) at_29 (by decide) (by decide) rfl (fun (c_170 : v1.toInt ≠ (9223372036854775807 : Int)) => ?_) (fun (c_170 : v1.toInt = (9223372036854775807 : Int)) => ?_)
    · refine Go.lload (pc' := 39) at_37 rfl rfl ?_
      refine Go.ldcL (pc' := 42) (hw _ (List.mem_of_getElem? (i := 1) rfl)) at_39 rfl ?_
      refine Go.lcmp (pc' := 43) at_42 rfl ?_
      refine Go.ifw (pc1 := 51) (pc2 := 46) at_43 (by decide) (by decide) rfl (fun (c_171 : v1.toInt ≠ (-9223372036854775808 : Int)) => ?_) (fun (c_171 : v1.toInt = (-9223372036854775808 : Int)) => ?_)
      · exact J2 _ (by have := rng64 v1; first | omega | decide)
      · refine Go.ldcL (pc' := 49) (hw _ (List.mem_of_getElem? (i := 51) rfl)) at_46 rfl ?_
        refine Go.lstore (pc' := 51) (Ls' := #[.val (.int m1), .val (.int f1), .val (.long k1), .second, .val (.long v1), .second, .val (.int m_160), .val (.int g), .val (.long (-9223372036854775807 : Int64)), .second, .unset, .unset]) at_49 rfl rfl ?_
        exact J2 _ (by have := rng64 v1; first | omega | decide)
    · refine Go.ldcL (pc' := 35) (hw _ (List.mem_of_getElem? (i := 50) rfl)) at_32 rfl ?_
      refine Go.lstore (pc' := 37) (Ls' := #[.val (.int m1), .val (.int f1), .val (.long k1), .second, .val (.long v1), .second, .val (.int m_160), .val (.int g), .val (.long (9223372036854775806 : Int64)), .second, .unset, .unset]) at_35 rfl rfl ?_
      refine Go.lload (pc' := 39) at_37 rfl rfl ?_
      refine Go.ldcL (pc' := 42) (hw _ (List.mem_of_getElem? (i := 1) rfl)) at_39 rfl ?_
      refine Go.lcmp (pc' := 43) at_42 rfl ?_
      refine Go.ifw (pc1 := 51) (pc2 := 46) at_43 (by decide) (by decide) rfl (fun (c_172 : (9223372036854775806 : Int) ≠ (-9223372036854775808 : Int)) => ?_) (fun (c_172 : (9223372036854775806 : Int) = (-9223372036854775808 : Int)) => ?_)
      rotate_left
      · exact absurd c_172 (by decide)
      exact J2 _ (by have := rng64 v1; first | omega | decide)
  refine Go.ifc (pc1 := 16) (pc2 := 12) at_9 (by decide) (by decide) rfl (fun (c_173 : (f1 &&& (1 : Int32)).toInt = 0) => ?_) (fun (c_173 : (f1 &&& (1 : Int32)).toInt ≠ 0) => ?_)
  · refine Go.iconst (pc' := 17) (v := (0 : Int32)) at_16 rfl rfl ?_
    exact J1 _ (by decide)
  · refine Go.iconst (pc' := 13) (v := (1 : Int32)) at_12 rfl rfl ?_
    refine Go.goto (pc' := 17) at_13 (by decide) (by decide) ?_
    exact J1 _ (by decide)
set_option maxRecDepth 65536 in
set_option maxHeartbeats 40000000 in
theorem comes_1 {Post : Tables → Env → Array Value → State → Outcome → State → Prop} (hpost : ∀ tb e args s v u, (limb_1_1.after args s (.returned v) u = true ∧ limb_1_2.after args s (.returned v) u = true ∧ True) → FrameEnd s (.returned v) u (Jvm.fieldLocs frame_1_writes args s ++ Jvm.arrayLocs frame_1_arrays args s ++ Jvm.staticLocs frame_1_statics s) 0 0 → Post tb e args s (.returned v) u) :
    ArmFor flags0 classFile x code maxLocals ret World_1 tables_1 room_1 Calls_1 rest_1 Pre_1 Post := by
  intro l hfl _ _ p e ha hc hk s m args below hf hA hF happ hP
  obtain ⟨hcalls, hrest, hpre⟩ := hP
  obtain ⟨-, -, -, hnamed, -, -, -, hat⟩ := (Spec.applies_iff hf).mp happ
  obtain ⟨hg, hn⟩ := and_e (Cond.before_iff.mp (show (Jvm.Cond.and given_1 narrow_1).before args s = true from hpre))
  obtain ⟨h1, hg1⟩ := and_e hg
  obtain ⟨w0, w1, w2, w3, rfl⟩ : ∃ w0 w1 w2 w3 : Value, args = #[w0, w1, w2, w3] := by
    have hs : args.size = 4 := by simpa [Cond.value, given_1] using h1
    obtain ⟨L⟩ := args
    match L, hs with
    | [w0, w1, w2, w3], _ => exact ⟨w0, w1, w2, w3, rfl⟩
  have hw := fun d (hd : d ∈ tables_1) => atoms_spec (ws := Jvm.Cond.code x code maxLocals ret :: tables_1) hat d (List.mem_cons_of_mem _ hd)
  have hfit : Fit s := fun {y c} hc i hi => by
    obtain ⟨ha, rfl⟩ := Array.getElem?_eq_some_iff.mp hc
    have q := List.all_eq_true.mp ((Array.all_eq_true_iff_forall_mem.mp hF) _ (Array.getElem_mem ha)) i (List.mem_range.mpr hi)
    simpa [Array.getElem?_eq_getElem hi] using q
  obtain ⟨b0, hg2⟩ := and_e hg1
  obtain ⟨i0, e0⟩ := is_v b0
  obtain rfl : w0 = (.int i0) := Option.some.inj e0
  obtain ⟨b1, hg3⟩ := and_e hg2
  obtain ⟨i1, e1⟩ := is_v b1
  obtain rfl : w1 = (.int i1) := Option.some.inj e1
  obtain ⟨b2, hg4⟩ := and_e hg3
  obtain ⟨i2, e2⟩ := isL_v b2
  obtain rfl : w2 = (.long i2) := Option.some.inj e2
  obtain ⟨i3, e3⟩ := isL_v hg4
  obtain rfl : w3 = (.long i3) := Option.some.inj e3
  obtain ⟨x0, hn0a⟩ := and_e hn
  obtain ⟨y0, hn0b⟩ := and_e hn0a
  obtain ⟨a0, v0⟩ := exa_v x0
  have S0 := Sta.start v0 (Or.inr ⟨(hw _ (List.mem_of_getElem? (i := 7) rfl)), (hw _ (List.mem_of_getElem? (i := 8) rfl))⟩)
  have F0 := Fld.start ((fld_at v0).symm.trans (own_eqI y0))
  obtain ⟨x2, hn2a⟩ := and_e hn0b
  obtain ⟨y2, hn2b⟩ := and_e hn2a
  obtain ⟨a2, v2⟩ := exa_v x2
  have S2 := Sta.start v2 (Or.inr ⟨(hw _ (List.mem_of_getElem? (i := 7) rfl)), (hw _ (List.mem_of_getElem? (i := 33) rfl))⟩)
  have F2 := Fld.start ((fld_at v2).symm.trans (own_eqI y2))
  obtain ⟨x1, hn1a⟩ := and_e hn2b
  obtain ⟨y1, hn1b⟩ := and_e hn1a
  obtain ⟨a1, v1⟩ := exa_v x1
  have S1 := Sta.start v1 (Or.inr ⟨(hw _ (List.mem_of_getElem? (i := 7) rfl)), (hw _ (List.mem_of_getElem? (i := 38) rfl))⟩)
  have F1 := Fld.start ((fld_at v1).symm.trans (own_eqI y1))
  obtain ⟨x3, hn3a⟩ := and_e hn1b
  obtain ⟨y3, hn3b⟩ := and_e hn3a
  obtain ⟨a3, v3⟩ := exa_v x3
  have S3 := Sta.start v3 (Or.inr ⟨(hw _ (List.mem_of_getElem? (i := 7) rfl)), (hw _ (List.mem_of_getElem? (i := 40) rfl))⟩)
  have F3 := Fld.start ((fld_at v3).symm.trans (own_eqI y3))
  obtain ⟨x7, hn7a⟩ := and_e hn3b
  obtain ⟨y7, hn7b⟩ := and_e hn7a
  obtain ⟨a7, v7⟩ := exa_v x7
  have S7 := Sta.start v7 (Or.inr ⟨(hw _ (List.mem_of_getElem? (i := 7) rfl)), (hw _ (List.mem_of_getElem? (i := 42) rfl))⟩)
  have F7 := Fld.start ((fld_at v7).symm.trans (own_eqI y7))
  obtain ⟨x4, hn4a⟩ := and_e hn7b
  obtain ⟨y4, hn4b⟩ := and_e hn4a
  obtain ⟨a4, v4⟩ := exa_v x4
  have S4 := Sta.start v4 (Or.inr ⟨(hw _ (List.mem_of_getElem? (i := 7) rfl)), (hw _ (List.mem_of_getElem? (i := 45) rfl))⟩)
  have F4 := Fld.start ((fld_at v4).symm.trans (own_eqI y4))
  obtain ⟨x5, hn5a⟩ := and_e hn4b
  obtain ⟨y5, hn5b⟩ := and_e hn5a
  obtain ⟨a5, v5⟩ := exa_v x5
  have S5 := Sta.start v5 (Or.inr ⟨(hw _ (List.mem_of_getElem? (i := 7) rfl)), (hw _ (List.mem_of_getElem? (i := 47) rfl))⟩)
  have F5 := Fld.start ((fld_at v5).symm.trans (own_eqI y5))
  obtain ⟨x6, hn6a⟩ := and_e hn5b
  have y6 := hn6a
  obtain ⟨a6, v6⟩ := exa_v x6
  have S6 := Sta.start v6 (Or.inr ⟨(hw _ (List.mem_of_getElem? (i := 7) rfl)), (hw _ (List.mem_of_getElem? (i := 49) rfl))⟩)
  have F6 := Fld.start ((fld_at v6).symm.trans (own_eqI y6))
  obtain ⟨n, o, h1, h2, h3, _, L, rfl, ⟨⟨rfl, -⟩, N⟩, hq⟩ := rm1 l s _ hw tables_1 i0 i1 i2 i3 a0 a1 a2 a3 a4 a5 a6 a7 s.heap s.heap.size (Nat.le_refl _) S0 (Exa.start v0 x0) F0 S1 (Exa.start v1 x1) F1 S2 (Exa.start v2 x2) F2 S3 (Exa.start v3 x3) F3 S4 (Exa.start v4 x4) F4 S5 (Exa.start v5 x5) F5 S6 (Exa.start v6 x6) F6 S7 (Exa.start v7 x7) F7 p e ha hc hk s m _ below hf ((Spec.applies_iff_loose hf).mp happ).1 ⟨rfl, State.Warmed39.refl s, rfl⟩ trivial
  refine ⟨n, _, h1, h2, h3, hpost _ _ _ _ _ _ ⟨Cond.after_iff.mpr rfl, Cond.after_iff.mpr (eq_i res_at (Term.int_eval (1)) rfl), trivial⟩ ⟨hq.1, hq.2.1, (hq.2.2.sift fun y hy => Or.inr (N y hy)).mono (by decide) (by decide)⟩⟩
theorem main_1_1 : Claimed_1_1 := comes_1 fun _ _ _ _ _ _ h hF => ⟨h.1, hF⟩
theorem main_1_2 : Claimed_1_2 := comes_1 fun _ _ _ _ _ _ h hF => ⟨h.2.1, hF⟩
end Jvm.Pilot.@@N@@
namespace Jvm.Pilot.@@N@@
open Jvm Jvm.ClassFile Sem Op Lib Jvm.Free Jvm.Stand Jvm.Pilot.@@N@@.Jvm.D
/-! MADE BY PROGRAM (witnessworld.py) out of the Statement's table words and the real class files: 13 classes; the members and pool entries that the words name. The judged class is class 1, her method 3. -/
namespace start1
open Jvm.ClassFile
def u (s : String) : CpInfo := .utf8 (stringToUtf16 s)
/-- a pool by its gaps: so many unusable entries, then the entry; so many at the end -/
def gap : Nat → List CpInfo → List CpInfo
  | 0, r => r
  | n + 1, r => .unusable :: gap n r
def poolList (es : List (Nat × CpInfo)) (last : Nat) : List CpInfo := es.foldr (fun e r => gap e.1 (e.2 :: r)) (gap last [])
def pool (es : List (Nat × CpInfo)) (last : Nat) : Array CpInfo := ⟨poolList es last⟩
def fileOf (pool : Array CpInfo) (this : Nat) (attrs : Array Attribute := #[]) (ms : Array MethodInfo := #[]) (fl : Nat := 33) (sup : Nat := 0) (ifs : Array Nat := #[]) (fds : Array FieldInfo := #[]) : ClassFile where
  minorVersion := 0
  majorVersion := 65
  constantPool := pool
  accessFlags := fl
  thisClass := this
  superClass := sup
  interfaces := ifs
  fields := fds
  methods := ms
  attributes := attrs
def plain (name : String) (sup : Option ClassId) : Class where
  name := name
  kind := .ordinary
  loader := none
  accessFlags := 33
  super := sup
  interfaces := #[]
  cf := none
  fields := #[]
  methods := #[]
  instanceTypes := #[]
  staticTypes := #[]
  resolved := #[]
  callSites := []
  init := .initialized
  statics := none
  mirror := none

def pool0 : Array CpInfo := pool [(5, u "<init>"), (0, u "()V"), (1, .class_ 10), (1, u "java/lang/Object")] 113

def k0m0 : Method := { name := "<init>", desc := "()V", sig := { parameters := [], returnType := none }, accessFlags := 1, code := none }
/-- java/lang/Object -/
def k0 : Class := { plain "java/lang/Object" none with
  accessFlags := 33
  interfaces := #[]
  cf := some (fileOf pool0 8 #[] #[{ accessFlags := 1, nameIndex := 5, descriptorIndex := 6, attributes := #[] }] 33 0 #[] #[])
  fields := #[]
  methods := #[k0m0]
  instanceTypes := #[]
  staticTypes := #[]
  resolved := Array.replicate 124 none
  statics := none }

def pool1 : Array CpInfo := pool [(2, .class_ 4), (1, u "java/lang/Object"), (0, u "<init>"), (0, u "()V"), (0, .fieldref 8 9), (0, .class_ 10), (0, .nameAndType 11 12), (0, u "com/example/tenscale/tenscale/Rounding"), (0, u "CEILING"), (0, u "Lcom/example/tenscale/tenscale/Rounding;"), (0, .fieldref 8 14), (0, .nameAndType 15 12), (0, u "DOWN"), (0, .fieldref 8 17), (0, .nameAndType 18 12), (0, u "FLOOR"), (0, .fieldref 8 20), (0, .nameAndType 21 12), (0, u "HALF_DOWN"), (0, .fieldref 8 23), (0, .nameAndType 24 12), (0, u "HALF_EVEN"), (0, .fieldref 8 26), (0, .nameAndType 27 12), (0, u "HALF_UP"), (0, .fieldref 8 29), (0, .nameAndType 30 12), (0, u "UP"), (0, .fieldref 8 32), (0, .nameAndType 33 12), (0, u "ZERO_FIVE_UP"), (0, .long 10), (1, .methodref 37 38), (0, .class_ 39), (0, .nameAndType 40 41), (0, u "java/lang/Math"), (0, u "abs"), (0, u "(J)J"), (0, .long 3), (1, .long 5), (1, .long 7), (1, .long 9), (3, .long 9223372036854775807), (1, .long 9223372036854775806), (1, .long 9223372036854775808), (1, .long 9223372036854775809), (1, .methodref 61 62), (0, .class_ 63), (0, .nameAndType 64 65), (0, u "com/example/tenscale/tenscale/RoundingRoundsUpPinLaw"), (0, u "pick"), (0, u "(I)Lcom/example/tenscale/tenscale/Rounding;"), (0, .methodref 8 67), (0, .nameAndType 68 69), (0, u "roundsUp"), (0, u "(ZJJ)Z"), (0, .methodref 61 71), (0, .nameAndType 72 73), (0, u "expected"), (0, u "(IZJJ)Z"), (3, u "law"), (0, u "(IIJJ)Z")] 2

def k1m0 : Method := { name := "<init>", desc := "()V", sig := { parameters := [], returnType := none }, accessFlags := 2, code := none }
def k1c1 : Code := { maxStack := 2, maxLocals := 1, code := method_2_code, exceptionTable := #[], attributes := #[] }
def k1m1 : Method := { name := "pick", desc := "(I)Lcom/example/tenscale/tenscale/Rounding;", sig := { parameters := [.int], returnType := some (.object "com/example/tenscale/tenscale/Rounding") }, accessFlags := 10, code := some k1c1 }
def k1c2 : Code := { maxStack := 4, maxLocals := 10, code := method_3_code, exceptionTable := #[], attributes := #[] }
def k1m2 : Method := { name := "expected", desc := "(IZJJ)Z", sig := { parameters := [.int, .boolean, .long, .long], returnType := some .boolean }, accessFlags := 10, code := some k1c2 }
def k1c3 : Code := { maxStack := 7, maxLocals := 12, code := code, exceptionTable := #[], attributes := #[] }
def k1m3 : Method := { name := "law", desc := "(IIJJ)Z", sig := { parameters := [.int, .int, .long, .long], returnType := some .boolean }, accessFlags := 9, code := some k1c3 }
/-- com/example/tenscale/tenscale/RoundingRoundsUpPinLaw -/
def k1 : Class := { plain "com/example/tenscale/tenscale/RoundingRoundsUpPinLaw" (some 0) with
  accessFlags := 49
  interfaces := #[]
  cf := some (fileOf pool1 61 #[] #[{ accessFlags := 2, nameIndex := 5, descriptorIndex := 6, attributes := #[] }, { accessFlags := 10, nameIndex := 64, descriptorIndex := 65, attributes := #[] }, { accessFlags := 10, nameIndex := 72, descriptorIndex := 73, attributes := #[] }, { accessFlags := 9, nameIndex := 77, descriptorIndex := 78, attributes := #[] }] 49 2 #[] #[])
  fields := #[]
  methods := #[k1m0, k1m1, k1m2, k1m3]
  instanceTypes := #[]
  staticTypes := #[]
  resolved := Array.replicate 81 none
  statics := none }

def pool2 : Array CpInfo := pool [(1, .class_ 2), (0, u "java/lang/constant/Constable"), (0, .class_ 4), (0, u "java/lang/Object")] 6

/-- java/lang/constant/Constable -/
def k2 : Class := { plain "java/lang/constant/Constable" (some 0) with
  accessFlags := 1537
  interfaces := #[]
  cf := some (fileOf pool2 1 #[] #[] 1537 3 #[] #[])
  fields := #[]
  methods := #[]
  instanceTypes := #[]
  staticTypes := #[]
  resolved := Array.replicate 11 none
  statics := none }

def pool3 : Array CpInfo := pool [(1, .class_ 2), (0, u "java/lang/Comparable"), (0, .class_ 4), (0, u "java/lang/Object")] 7

/-- java/lang/Comparable -/
def k3 : Class := { plain "java/lang/Comparable" (some 0) with
  accessFlags := 1537
  interfaces := #[]
  cf := some (fileOf pool3 1 #[] #[] 1537 3 #[] #[])
  fields := #[]
  methods := #[]
  instanceTypes := #[]
  staticTypes := #[]
  resolved := Array.replicate 12 none
  statics := none }

def pool4 : Array CpInfo := pool [(1, .class_ 2), (0, u "java/io/Serializable"), (0, .class_ 4), (0, u "java/lang/Object")] 2

/-- java/io/Serializable -/
def k4 : Class := { plain "java/io/Serializable" (some 0) with
  accessFlags := 1537
  interfaces := #[]
  cf := some (fileOf pool4 1 #[] #[] 1537 3 #[] #[])
  fields := #[]
  methods := #[]
  instanceTypes := #[]
  staticTypes := #[]
  resolved := Array.replicate 7 none
  statics := none }

def pool5 : Array CpInfo := pool [(2, .class_ 4), (1, u "java/lang/Enum"), (0, u "name"), (0, u "Ljava/lang/String;"), (0, .fieldref 2 8), (0, .nameAndType 9 10), (0, u "ordinal"), (0, u "I"), (1, .class_ 14), (1, u "java/lang/Object"), (4, u "hash"), (86, .class_ 108), (1, u "java/lang/Enum$EnumDesc"), (2, .class_ 112), (0, u "java/lang/constant/Constable"), (0, .class_ 114), (0, u "java/lang/Comparable"), (0, .class_ 116), (0, u "java/io/Serializable"), (9, u "()I")] 77

def k5c0 : Code := { maxStack := 1, maxLocals := 1, code := jdk_37_method_2_code, exceptionTable := #[], attributes := #[] }
def k5m0 : Method := { name := "ordinal", desc := "()I", sig := { parameters := [], returnType := some .int }, accessFlags := 17, code := some k5c0 }
/-- java/lang/Enum -/
def k5 : Class := { plain "java/lang/Enum" (some 0) with
  accessFlags := 1057
  interfaces := #[2, 3, 4]
  cf := some (fileOf pool5 2 #[.nestMembers #[106]] #[{ accessFlags := 17, nameIndex := 9, descriptorIndex := 126, attributes := #[] }] 1057 12 #[111, 113, 115] #[{ accessFlags := 18, nameIndex := 5, descriptorIndex := 6, attributes := #[] }, { accessFlags := 18, nameIndex := 9, descriptorIndex := 10, attributes := #[] }, { accessFlags := 2, nameIndex := 19, descriptorIndex := 10, attributes := #[] }])
  fields := #[{ name := "name", type := (.object "java/lang/String"), accessFlags := 18, slot := 0, constantValue := 0 }, { name := "ordinal", type := .int, accessFlags := 18, slot := 1, constantValue := 0 }, { name := "hash", type := .int, accessFlags := 2, slot := 2, constantValue := 0 }]
  methods := #[k5m0]
  instanceTypes := #[(.object "java/lang/String"), .int, .int]
  staticTypes := #[]
  resolved := Array.replicate 204 none
  statics := none }

def pool6 : Array CpInfo := pool [(1, .class_ 2), (0, u "com/example/tenscale/tenscale/Rounding"), (2, u "CEILING"), (0, u "Lcom/example/tenscale/tenscale/Rounding;"), (2, u "DOWN"), (2, u "FLOOR"), (2, u "HALF_DOWN"), (2, u "HALF_EVEN"), (2, u "HALF_UP"), (2, u "UP"), (2, u "ZERO_FIVE_UP"), (2, u "$VALUES"), (0, u "[Lcom/example/tenscale/tenscale/Rounding;"), (6, .class_ 40), (1, u "java/lang/Enum"), (6, .methodref 1 48), (0, .nameAndType 49 50), (0, u "ordinal"), (0, u "()I"), (5, .long 5), (21, u "roundsUp"), (0, u "(ZJJ)Z")] 5

def k6c0 : Code := { maxStack := 6, maxLocals := 6, code := prog_15_method_4_code, exceptionTable := #[], attributes := #[] }
def k6m0 : Method := { name := "roundsUp", desc := "(ZJJ)Z", sig := { parameters := [.boolean, .long, .long], returnType := some .boolean }, accessFlags := 0, code := some k6c0 }
/-- com/example/tenscale/tenscale/Rounding -/
def k6 : Class := { plain "com/example/tenscale/tenscale/Rounding" (some 5) with
  accessFlags := 16433
  interfaces := #[]
  cf := some (fileOf pool6 1 #[] #[{ accessFlags := 0, nameIndex := 78, descriptorIndex := 79, attributes := #[] }] 16433 38 #[] #[{ accessFlags := 16409, nameIndex := 5, descriptorIndex := 6, attributes := #[] }, { accessFlags := 16409, nameIndex := 9, descriptorIndex := 6, attributes := #[] }, { accessFlags := 16409, nameIndex := 12, descriptorIndex := 6, attributes := #[] }, { accessFlags := 16409, nameIndex := 15, descriptorIndex := 6, attributes := #[] }, { accessFlags := 16409, nameIndex := 18, descriptorIndex := 6, attributes := #[] }, { accessFlags := 16409, nameIndex := 21, descriptorIndex := 6, attributes := #[] }, { accessFlags := 16409, nameIndex := 24, descriptorIndex := 6, attributes := #[] }, { accessFlags := 16409, nameIndex := 27, descriptorIndex := 6, attributes := #[] }, { accessFlags := 4122, nameIndex := 30, descriptorIndex := 31, attributes := #[] }])
  fields := #[{ name := "CEILING", type := (.object "com/example/tenscale/tenscale/Rounding"), accessFlags := 16409, slot := 0, constantValue := 0 }, { name := "DOWN", type := (.object "com/example/tenscale/tenscale/Rounding"), accessFlags := 16409, slot := 1, constantValue := 0 }, { name := "FLOOR", type := (.object "com/example/tenscale/tenscale/Rounding"), accessFlags := 16409, slot := 2, constantValue := 0 }, { name := "HALF_DOWN", type := (.object "com/example/tenscale/tenscale/Rounding"), accessFlags := 16409, slot := 3, constantValue := 0 }, { name := "HALF_EVEN", type := (.object "com/example/tenscale/tenscale/Rounding"), accessFlags := 16409, slot := 4, constantValue := 0 }, { name := "HALF_UP", type := (.object "com/example/tenscale/tenscale/Rounding"), accessFlags := 16409, slot := 5, constantValue := 0 }, { name := "UP", type := (.object "com/example/tenscale/tenscale/Rounding"), accessFlags := 16409, slot := 6, constantValue := 0 }, { name := "ZERO_FIVE_UP", type := (.object "com/example/tenscale/tenscale/Rounding"), accessFlags := 16409, slot := 7, constantValue := 0 }, { name := "$VALUES", type := (.array (.object "com/example/tenscale/tenscale/Rounding")), accessFlags := 4122, slot := 8, constantValue := 0 }]
  methods := #[k6m0]
  instanceTypes := #[(.object "java/lang/String"), .int, .int]
  staticTypes := #[(.object "com/example/tenscale/tenscale/Rounding"), (.object "com/example/tenscale/tenscale/Rounding"), (.object "com/example/tenscale/tenscale/Rounding"), (.object "com/example/tenscale/tenscale/Rounding"), (.object "com/example/tenscale/tenscale/Rounding"), (.object "com/example/tenscale/tenscale/Rounding"), (.object "com/example/tenscale/tenscale/Rounding"), (.object "com/example/tenscale/tenscale/Rounding"), (.array (.object "com/example/tenscale/tenscale/Rounding"))]
  resolved := Array.replicate 85 none
  statics := some 0 }

def pool7 : Array CpInfo := pool [(1, .class_ 2), (0, u "java/lang/Math"), (1, .class_ 6), (1, u "java/lang/Object"), (0, u "<init>"), (0, u "()V"), (89, .class_ 100), (1, u "java/lang/Math$RandomNumberGeneratorHolder"), (23, u "abs"), (0, u "(J)J"), (46, u "negativeZeroFloatBits"), (0, u "J"), (2, u "negativeZeroDoubleBits"), (68, u "$assertionsDisabled"), (0, u "Z"), (91, u "twoToTheDoubleScaleDown"), (0, u "D"), (4, u "twoToTheDoubleScaleUp"), (9, u "E"), (3, u "PI"), (2, u "TAU"), (2, u "DEGREES_TO_RADIANS"), (0, u "RADIANS_TO_DEGREES")] 94

def k7m0 : Method := { name := "<init>", desc := "()V", sig := { parameters := [], returnType := none }, accessFlags := 2, code := none }
def k7c1 : Code := { maxStack := 4, maxLocals := 2, code := jdk_29_method_61_code, exceptionTable := #[], attributes := #[] }
def k7m1 : Method := { name := "abs", desc := "(J)J", sig := { parameters := [.long], returnType := some .long }, accessFlags := 9, code := some k7c1 }
/-- java/lang/Math -/
def k7 : Class := { plain "java/lang/Math" (some 0) with
  accessFlags := 49
  interfaces := #[]
  cf := some (fileOf pool7 1 #[.nestMembers #[98]] #[{ accessFlags := 2, nameIndex := 7, descriptorIndex := 8, attributes := #[] }, { accessFlags := 9, nameIndex := 124, descriptorIndex := 125, attributes := #[] }] 49 4 #[] #[{ accessFlags := 25, nameIndex := 354, descriptorIndex := 339, attributes := #[] }, { accessFlags := 25, nameIndex := 358, descriptorIndex := 339, attributes := #[] }, { accessFlags := 25, nameIndex := 361, descriptorIndex := 339, attributes := #[] }, { accessFlags := 26, nameIndex := 364, descriptorIndex := 339, attributes := #[] }, { accessFlags := 26, nameIndex := 365, descriptorIndex := 339, attributes := #[] }, { accessFlags := 26, nameIndex := 172, descriptorIndex := 173, attributes := #[] }, { accessFlags := 26, nameIndex := 176, descriptorIndex := 173, attributes := #[] }, { accessFlags := 8, nameIndex := 344, descriptorIndex := 339, attributes := #[] }, { accessFlags := 8, nameIndex := 338, descriptorIndex := 339, attributes := #[] }, { accessFlags := 4120, nameIndex := 245, descriptorIndex := 246, attributes := #[] }])
  fields := #[{ name := "E", type := .double, accessFlags := 25, slot := 0, constantValue := 0 }, { name := "PI", type := .double, accessFlags := 25, slot := 1, constantValue := 0 }, { name := "TAU", type := .double, accessFlags := 25, slot := 2, constantValue := 0 }, { name := "DEGREES_TO_RADIANS", type := .double, accessFlags := 26, slot := 3, constantValue := 0 }, { name := "RADIANS_TO_DEGREES", type := .double, accessFlags := 26, slot := 4, constantValue := 0 }, { name := "negativeZeroFloatBits", type := .long, accessFlags := 26, slot := 5, constantValue := 0 }, { name := "negativeZeroDoubleBits", type := .long, accessFlags := 26, slot := 6, constantValue := 0 }, { name := "twoToTheDoubleScaleUp", type := .double, accessFlags := 8, slot := 7, constantValue := 0 }, { name := "twoToTheDoubleScaleDown", type := .double, accessFlags := 8, slot := 8, constantValue := 0 }, { name := "$assertionsDisabled", type := .boolean, accessFlags := 4120, slot := 9, constantValue := 0 }]
  methods := #[k7m0, k7m1]
  instanceTypes := #[]
  staticTypes := #[.double, .double, .double, .double, .double, .long, .long, .double, .double, .boolean]
  resolved := Array.replicate 460 none
  statics := none }

def pool8 : Array CpInfo := pool [(1, u "java/lang/Cloneable"), (0, .class_ 1), (0, u "java/lang/Object"), (0, .class_ 3)] 3

/-- java/lang/Cloneable -/
def k8 : Class := { plain "java/lang/Cloneable" (some 0) with
  accessFlags := 1537
  interfaces := #[]
  cf := some (fileOf pool8 2 #[] #[] 1537 4 #[] #[])
  fields := #[]
  methods := #[]
  instanceTypes := #[]
  staticTypes := #[]
  resolved := Array.replicate 8 none
  statics := none }

/-- the primitive byte -/
def k9 : Class := { plain "byte" none with kind := .primitive 'B', accessFlags := 0x411 }
/-- [B -/
def k10 : Class := { plain "[B" (some 0) with kind := .array 9 .byte, interfaces := #[8, 4], accessFlags := 1041 }

/-- the primitive int -/
def k11 : Class := { plain "int" none with kind := .primitive 'I', accessFlags := 0x411 }
/-- [I -/
def k12 : Class := { plain "[I" (some 0) with kind := .array 11 .int, interfaces := #[8, 4], accessFlags := 1041 }

def heap : Heap := #[{ cls := 6, slots := #[.ref 1, .ref 2, .ref 3, .ref 4, .ref 5, .ref 6, .ref 7, .ref 8, .null], vm := .statics 6 },
  { cls := 6, slots := #[.null, .int 0, .int 0], vm := .none },
  { cls := 6, slots := #[.null, .int 1, .int 0], vm := .none },
  { cls := 6, slots := #[.null, .int 2, .int 0], vm := .none },
  { cls := 6, slots := #[.null, .int 3, .int 0], vm := .none },
  { cls := 6, slots := #[.null, .int 4, .int 0], vm := .none },
  { cls := 6, slots := #[.null, .int 5, .int 0], vm := .none },
  { cls := 6, slots := #[.null, .int 6, .int 0], vm := .none },
  { cls := 6, slots := #[.null, .int 7, .int 0], vm := .none }]
def classes : Array Class := #[k0, k1, k2, k3, k4, k5, k6, k7, k8, k9, k10, k11, k12]
def interned : List (Array UInt16 × Addr) := []
def slotsUsed : Nat := 33
def theMethod : MethodId := ⟨1, 3⟩
def args0 : Array Value := #[.int 5, .int 6, .long 7, .long 8]
def aboutOver (below : List Frame) : State where
  vm := { classes := classes, interned := interned.toArray }
  heap := heap
  slotsUsed := slotsUsed
  threads := #[{ frames := .invoking theMethod args0 :: below }]
def below0 : List Frame := [.native { method := ⟨0, 0⟩, args := #[] }]
def about1 : State := aboutOver below0
def p0 : Program := .bare "" "" ""
def e0 : Env := launch0.env 0 0 0
theorem w_frames : about1.frames = Frame.invoking theMethod args0 :: below0 := rfl
set_option maxRecDepth 65536 in
theorem w_args : argsFit about1.vm theMethod args0 = true := by decide +kernel
set_option maxRecDepth 65536 in
theorem w_heap : heapFits about1 = true := by decide +kernel
set_option maxRecDepth 65536 in
theorem w_runnable : about1.curStatus? = some .runnable := by decide +kernel
set_option maxRecDepth 65536 in
theorem w_alone : about1.alone = true := by decide +kernel
set_option maxRecDepth 65536 in
theorem w_named : about1.methodNamed? x = some theMethod := by decide +kernel
set_option maxRecDepth 65536 in
theorem w_hears : about1.hears theMethod below0 = true := by decide +kernel
set_option maxRecDepth 65536 in
theorem w_ripe : about1.ripe theMethod args0 below0 = true := by decide +kernel
theorem w_running : about1.status = .running := rfl
set_option maxRecDepth 65536 in
theorem w_room : about1.hasRoom e0.platform room_1 = true :=
  launch0.hasRoom_least _ room_1 (by decide +kernel) (by decide +kernel) (by decide +kernel) (by decide +kernel) (by decide +kernel) (by decide +kernel)
theorem allAtoms_all (ts : List Jvm.Cond) (a : Array Jvm.Value) (st : Jvm.State) : (allAtoms ts).before a st = ts.all (fun c => c.before a st) := by
  induction ts with
  | nil => rfl
  | cons c t ih =>
    show (Jvm.Cond.and c (allAtoms t)).before a st = _
    rw [Jvm.Cond.before_and, ih, List.all_cons]
def words1 : List Jvm.Cond := Jvm.Cond.code x code maxLocals ret :: tables_1
/-- a 'code' word, met by the world's own term for the bytes: nothing is compared byte by byte -/
theorem code_word {y : MethodName} {bytes : ByteArray} {mx : Nat} {rt : Option FieldType} {a : Array Value} {s : State} {m : MethodId} {meth : Method} {c : Code} (h1 : s.methodNamed? y = some m) (h2 : s.vm.method? m = some meth) (h3 : meth.code = some c) (h4 : c.code = bytes)
    (h5 : (c.maxLocals == mx && c.exceptionTable.isEmpty && decide (c.maxStack ≤ mostOperands) && decide (meth.sig.returnType = rt) && !meth.locks && decide (parseMethodDescriptor y.desc = some meth.sig)) = true) : (Jvm.Cond.code y bytes mx rt).before a s = true := by
  simp only [Bool.and_eq_true, beq_iff_eq, Bool.not_eq_true', decide_eq_true_eq] at h5
  obtain ⟨⟨⟨⟨⟨g1, g2⟩, g3⟩, g4⟩, g5⟩, g6⟩ := h5
  simp [Cond.before, Cond.holds, Cond.value, h1, h2, h3, h4, g1, g2, g3, g4, g5, g6]
def isCode : Jvm.Cond → Bool
  | .code _ _ _ _ => true
  | _ => false
theorem all_split {L : List Jvm.Cond} {P : Jvm.Cond → Bool} (h1 : L.all (fun c => isCode c || P c) = true) (h2 : ∀ c ∈ L.filter isCode, P c = true) : L.all P = true := by
  refine List.all_eq_true.mpr fun c hc => ?_
  have h := List.all_eq_true.mp h1 c hc
  rcases Bool.eq_false_or_eq_true (isCode c) with hi | hi
  · exact h2 c (List.mem_filter.mpr ⟨hc, hi⟩)
  · simpa [hi] using h
set_option maxRecDepth 65536 in
theorem w_c0 : (Jvm.Cond.code x code maxLocals ret).before args0 about1 = true := code_word (m := ⟨1, 3⟩) (meth := k1m3) (c := k1c3) (by decide +kernel) rfl rfl rfl (by decide +kernel)
set_option maxRecDepth 65536 in
theorem w_c1 : (Jvm.Cond.code ({ cls := "com/example/tenscale/tenscale/RoundingRoundsUpPinLaw", name := "pick", desc := "(I)Lcom/example/tenscale/tenscale/Rounding;" } : Jvm.MethodName) method_2_code (1 : Nat) (Option.some (Jvm.ClassFile.FieldType.object "com/example/tenscale/tenscale/Rounding"))).before args0 about1 = true := code_word (m := ⟨1, 1⟩) (meth := k1m1) (c := k1c1) (by decide +kernel) rfl rfl rfl (by decide +kernel)
set_option maxRecDepth 65536 in
theorem w_c2 : (Jvm.Cond.code ({ cls := "com/example/tenscale/tenscale/Rounding", name := "roundsUp", desc := "(ZJJ)Z" } : Jvm.MethodName) prog_15_method_4_code (6 : Nat) (Option.some Jvm.ClassFile.FieldType.boolean)).before args0 about1 = true := code_word (m := ⟨6, 0⟩) (meth := k6m0) (c := k6c0) (by decide +kernel) rfl rfl rfl (by decide +kernel)
set_option maxRecDepth 65536 in
theorem w_c3 : (Jvm.Cond.code ({ cls := "java/lang/Enum", name := "ordinal", desc := "()I" } : Jvm.MethodName) jdk_37_method_2_code (1 : Nat) (Option.some Jvm.ClassFile.FieldType.int)).before args0 about1 = true := code_word (m := ⟨5, 0⟩) (meth := k5m0) (c := k5c0) (by decide +kernel) rfl rfl rfl (by decide +kernel)
set_option maxRecDepth 65536 in
theorem w_c4 : (Jvm.Cond.code ({ cls := "com/example/tenscale/tenscale/RoundingRoundsUpPinLaw", name := "expected", desc := "(IZJJ)Z" } : Jvm.MethodName) method_3_code (10 : Nat) (Option.some Jvm.ClassFile.FieldType.boolean)).before args0 about1 = true := code_word (m := ⟨1, 2⟩) (meth := k1m2) (c := k1c2) (by decide +kernel) rfl rfl rfl (by decide +kernel)
set_option maxRecDepth 65536 in
theorem w_c5 : (Jvm.Cond.code ({ cls := "java/lang/Math", name := "abs", desc := "(J)J" } : Jvm.MethodName) jdk_29_method_61_code (2 : Nat) (Option.some Jvm.ClassFile.FieldType.long)).before args0 about1 = true := code_word (m := ⟨7, 1⟩) (meth := k7m1) (c := k7c1) (by decide +kernel) rfl rfl rfl (by decide +kernel)
def codes1 : List Jvm.Cond := [Jvm.Cond.code x code maxLocals ret, Jvm.Cond.code ({ cls := "com/example/tenscale/tenscale/RoundingRoundsUpPinLaw", name := "pick", desc := "(I)Lcom/example/tenscale/tenscale/Rounding;" } : Jvm.MethodName) method_2_code (1 : Nat) (Option.some (Jvm.ClassFile.FieldType.object "com/example/tenscale/tenscale/Rounding")), Jvm.Cond.code ({ cls := "com/example/tenscale/tenscale/Rounding", name := "roundsUp", desc := "(ZJJ)Z" } : Jvm.MethodName) prog_15_method_4_code (6 : Nat) (Option.some Jvm.ClassFile.FieldType.boolean), Jvm.Cond.code ({ cls := "java/lang/Enum", name := "ordinal", desc := "()I" } : Jvm.MethodName) jdk_37_method_2_code (1 : Nat) (Option.some Jvm.ClassFile.FieldType.int), Jvm.Cond.code ({ cls := "com/example/tenscale/tenscale/RoundingRoundsUpPinLaw", name := "expected", desc := "(IZJJ)Z" } : Jvm.MethodName) method_3_code (10 : Nat) (Option.some Jvm.ClassFile.FieldType.boolean), Jvm.Cond.code ({ cls := "java/lang/Math", name := "abs", desc := "(J)J" } : Jvm.MethodName) jdk_29_method_61_code (2 : Nat) (Option.some Jvm.ClassFile.FieldType.long)]
set_option maxRecDepth 65536 in
theorem codes_eq : words1.filter isCode = codes1 := rfl
theorem w_codes : ∀ c ∈ words1.filter isCode, c.before args0 about1 = true := by
  rw [codes_eq]
  intro c hc
  simp only [codes1, List.mem_cons, List.not_mem_nil, or_false] at hc
  rcases hc with rfl | rfl | rfl | rfl | rfl | rfl
  · exact w_c0
  · exact w_c1
  · exact w_c2
  · exact w_c3
  · exact w_c4
  · exact w_c5
set_option maxRecDepth 65536 in
theorem w_t1 : (words1.take 24).all (fun c => isCode c || c.before args0 about1) = true := by decide +kernel
set_option maxRecDepth 65536 in
theorem w_t2 : ((words1.drop 24).take 24).all (fun c => isCode c || c.before args0 about1) = true := by decide +kernel
set_option maxRecDepth 65536 in
theorem w_t3 : ((words1.drop 24).drop 24).all (fun c => isCode c || c.before args0 about1) = true := by decide +kernel
theorem w_tables : (allAtoms (Jvm.Cond.code x code maxLocals ret :: tables_1)).before args0 about1 = true := by
  rw [allAtoms_all]
  show words1.all (fun c => c.before args0 about1) = true
  refine all_split ?_ w_codes
  rw [← List.take_append_drop 24 words1, List.all_append, w_t1, ← List.take_append_drop 24 (words1.drop 24), List.all_append, w_t2, w_t3]
  rfl
set_option maxRecDepth 65536 in
theorem w_case : (Jvm.Cond.and given_1 narrow_1).before args0 about1 = true := by decide +kernel
theorem w_applies : (headSpec (Jvm.Cond.code x code maxLocals ret :: tables_1) room_1).applies x e0.platform about1 = true :=
  (Spec.applies_iff w_frames).mpr ⟨w_running, w_runnable, w_alone, w_named, w_hears, w_ripe, w_room, w_tables⟩
theorem atStart : AtStart classFile x code maxLocals ret World_1 tables_1 room_1 Calls_1 rest_1 Pre_1 launch0 p0 e0 about1 theMethod args0 below0 :=
  ⟨lists_1, trivial, launch0.admits_env _ _ _, launch0.least_env, fairChoices_fair.cas, fairChoices_fair.clock, w_frames, w_args, w_heap, w_applies, trivial, trivial, w_case⟩
end start1
theorem witness_1 : WitnessClaimed_1 := ⟨start1.p0, start1.e0, start1.about1, start1.theMethod, start1.args0, start1.below0, start1.atStart⟩
end Jvm.Pilot.@@N@@
