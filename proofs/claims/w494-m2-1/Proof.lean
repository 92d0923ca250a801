import JvmDerived
import JvmDerived.Pilot.@@N@@Statement
import JvmDerived.Pilot.@@N@@Code
set_option linter.unusedVariables false
set_option linter.unusedSimpArgs false
namespace Jvm.RoadKit
open Sem ClassFile Op Lib Jvm.Stand Jvm.Free Jvm.LawKit
/-- what a walk knows of the method that it walks -/
def Own (Z : State) (y : MethodName) (bytes : ByteArray) (maxL : Nat) (ret : Option FieldType) (p : Program) (s : State) (m : MethodId) (meth : Method) (c : Code) : Prop :=
  p.tables.exec = Jvm.exec ∧ c.code = bytes ∧ c.maxLocals = maxL ∧ s.vm.findClass y.cls = some m.cls ∧ meth.name = y.name ∧ Z.Warmed39 s.vm ∧ meth.sig.returnType = ret ∧ meth.locks = false
/-- how the start s over which the walk stands belongs to the true start s0 (wd: strings may have been interned since) -/
def GoRel (wd : Bool) (s0 s : State) (k : Nat) : Prop := match wd with
  | false => s0 = s
  | true => ∃ (vm0 : Vm) (k0 : Nat), s = s0.setVm vm0 ∧ s0.Since vm0 k0 ∧ k0 ≤ k
/-- the frame of the end -/
def GoEnd (wd : Bool) (s0 : State) (o : Outcome) (t : State) (L : List Loc) (K N : Nat) : Prop := match wd with
  | false => FrameEnd s0 o t L K N
  | true => ReturnedEndW s0 o t L K N
theorem GoRel.mono {wd : Bool} {s0 s : State} {k k' : Nat} (h : GoRel wd s0 s k) (q : k ≤ k') : GoRel wd s0 s k' := by
  cases wd
  · exact h
  · obtain ⟨vm0, k0, h1, h2, h3⟩ := h; exact ⟨vm0, k0, h1, h2, Nat.le_trans h3 q⟩
theorem GoRel.refl (wd : Bool) (s : State) (k : Nat) : GoRel wd s s k := by
  cases wd
  · rfl
  · exact ⟨s.vm, 0, rfl, (State.WarmedH.refl s).since 0, Nat.zero_le _⟩
theorem GoEnd.grow {wd : Bool} {s0 t : State} {o : Outcome} {L : List Loc} {K N : Nat} (h : GoEnd wd s0 o t L K N) : s0.heap.size ≤ t.heap.size := by
  cases wd
  · exact h.2.2.2.1
  · exact h.2.2.2.2.1
theorem GoRel.ended {wd : Bool} {s0 s : State} {v : Option Value} {U : State} {locs : List Loc} {c k c' k' : Nat} (h : GoRel wd s0 s U.heap.size) (hW : s.WarmedH U.vm) (hs : s.sameButNew ({ U with vm := s.vm } : State) locs c k) (hc : c ≤ c') (hk : k ≤ k') : GoEnd wd s0 (.returned v) U locs c' k' := by
  cases wd
  · obtain rfl : s0 = s := h
    exact ⟨⟨_, rfl⟩, hW, hs.mono hc hk⟩
  · obtain ⟨vm0, k0, rfl, h2, h3⟩ := h
    obtain ⟨q1, q2, q3⟩ := h2.ended hW h3 hs
    exact ⟨⟨_, rfl⟩, q1, q2, q3.mono hc hk⟩
/-- from pc, Ls, st over the heap h (so many cells and slots made so far) the walk comes to its end, and Q holds of what it returns and of the heap there; what it wrote lies at or above n0 -/
def Go (wd : Bool) (l : Launch) (R : Room) (Z : State) (y : MethodName) (bytes : ByteArray) (maxL : Nat) (ret : Option FieldType) (n0 K N : Nat) (Q : Option Value → Heap → Prop) (h : Heap) (cells slots pc : Nat) (Ls : Array Slot) (st : List Value) : Prop :=
  ∀ (p : Program) (e : Env) (s0 s : State) (m : MethodId) (args : Array Value) (below : List Frame) (meth : Method) (c : Code) (T : State) (locs : List Loc),
    GoRel wd s0 s h.size → Own Z y bytes maxL ret p s m meth c → Stand p l e R s m args below meth c T locs cells slots → T.heap = h → Fr n0 locs →
    ∃ s₂ o, Steps p.tables e below (T.setTop (mkF m pc Ls st)) s₂ ∧ s₂.status = .running ∧ Ended s₂ below o ∧ ∃ v L, o = .returned v ∧ (Q v s₂.heap ∧ Fr n0 L) ∧ GoEnd wd s0 o s₂ L K N
section GoLaws
variable {wd : Bool} {l : Launch} {R : Room} {Z : State} {y : MethodName} {bytes : ByteArray} {maxL : Nat} {ret : Option FieldType} {n0 K N : Nat} {Q : Option Value → Heap → Prop} {h : Heap} {cells slots pc pc' : Nat} {Ls Ls' : Array Slot} {st st' : List Value} {a0 : Array Value}
theorem Go.of (k : Go wd l R Z y bytes maxL ret n0 K N Q h cells slots pc' Ls' st')
    (q : ∀ (p : Program) (e : Env) (s : State) (m : MethodId) (args : Array Value) (below : List Frame) (meth : Method) (c : Code) (T : State) (locs : List Loc), Own Z y bytes maxL ret p s m meth c → Stand p l e R s m args below meth c T locs cells slots → T.heap = h →
      ∀ target, Steps p.tables e below (T.setTop (mkF m pc' Ls' st')) target → Steps p.tables e below (T.setTop (mkF m pc Ls st)) target) : Go wd l R Z y bytes maxL ret n0 K N Q h cells slots pc Ls st := by
  intro p e s0 s m args below meth c T locs hR O X eT F
  obtain ⟨s₂, o, h1, r⟩ := k p e s0 s m args below meth c T locs hR O X eT F
  exact ⟨s₂, o, q p e s m args below meth c T locs O X eT _ h1, r⟩
theorem Go.weaken {Q' : Option Value → Heap → Prop} (hQ : ∀ v h, Q' v h → Q v h) (k : Go wd l R Z y bytes maxL ret n0 K N Q' h cells slots pc Ls st) : Go wd l R Z y bytes maxL ret n0 K N Q h cells slots pc Ls st := by
  intro p e s0 s m args below meth c T locs hR O X eT F
  obtain ⟨s₂, o, h1, h2, h3, v, L, h4, h5, h6⟩ := k p e s0 s m args below meth c T locs hR O X eT F
  exact ⟨s₂, o, h1, h2, h3, v, L, h4, ⟨hQ _ _ h5.1, h5.2⟩, h6⟩
/-! plain steps -/
theorem Go.iload {k : Nat} {v : Int32} (hd : decode bytes pc = .ok (.iload k, 2)) (hl : Ls[k]? = some (.val (.int v))) (hp : pc + 2 = pc') (q : Go wd l R Z y bytes maxL ret n0 K N Q h cells slots pc' Ls (.int v :: st)) : Go wd l R Z y bytes maxL ret n0 K N Q h cells slots pc Ls st := by
  subst hp; exact Go.of q fun p e s m args below meth c T locs O X eT t hr => XS.iload X.here O.1 rfl (hb O.2.1 hd) hl hr
theorem Go.iloadN {k : Fin 4} {v : Int32} (hd : decode bytes pc = .ok (.iload_n k, 1)) (hl : Ls[k.val]? = some (.val (.int v))) (hp : pc + 1 = pc') (q : Go wd l R Z y bytes maxL ret n0 K N Q h cells slots pc' Ls (.int v :: st)) : Go wd l R Z y bytes maxL ret n0 K N Q h cells slots pc Ls st := by
  subst hp; exact Go.of q fun p e s m args below meth c T locs O X eT t hr => XS.iloadN X.here O.1 rfl (hb O.2.1 hd) hl hr
theorem Go.lload {k : Nat} {v : Int64} (hd : decode bytes pc = .ok (.lload k, 2)) (hl : Ls[k]? = some (.val (.long v))) (hp : pc + 2 = pc') (q : Go wd l R Z y bytes maxL ret n0 K N Q h cells slots pc' Ls (.long v :: st)) : Go wd l R Z y bytes maxL ret n0 K N Q h cells slots pc Ls st := by
  subst hp; exact Go.of q fun p e s m args below meth c T locs O X eT t hr => XS.lload X.here O.1 rfl (hb O.2.1 hd) hl hr
theorem Go.lloadN {k : Fin 4} {v : Int64} (hd : decode bytes pc = .ok (.lload_n k, 1)) (hl : Ls[k.val]? = some (.val (.long v))) (hp : pc + 1 = pc') (q : Go wd l R Z y bytes maxL ret n0 K N Q h cells slots pc' Ls (.long v :: st)) : Go wd l R Z y bytes maxL ret n0 K N Q h cells slots pc Ls st := by
  subst hp; exact Go.of q fun p e s m args below meth c T locs O X eT t hr => XS.lloadN X.here O.1 rfl (hb O.2.1 hd) hl hr
theorem Go.aload {k : Nat} {v : Value} (hd : decode bytes pc = .ok (.aload k, 2)) (hl : Ls[k]? = some (.val v)) (hv : v.isRef = true) (hp : pc + 2 = pc') (q : Go wd l R Z y bytes maxL ret n0 K N Q h cells slots pc' Ls (v :: st)) : Go wd l R Z y bytes maxL ret n0 K N Q h cells slots pc Ls st := by
  subst hp; exact Go.of q fun p e s m args below meth c T locs O X eT t hr => XS.aload X.here O.1 rfl (hb O.2.1 hd) hl hv hr
theorem Go.aloadN {k : Fin 4} {v : Value} (hd : decode bytes pc = .ok (.aload_n k, 1)) (hl : Ls[k.val]? = some (.val v)) (hv : v.isRef = true) (hp : pc + 1 = pc') (q : Go wd l R Z y bytes maxL ret n0 K N Q h cells slots pc' Ls (v :: st)) : Go wd l R Z y bytes maxL ret n0 K N Q h cells slots pc Ls st := by
  subst hp; exact Go.of q fun p e s m args below meth c T locs O X eT t hr => XS.aloadN X.here O.1 rfl (hb O.2.1 hd) hl hv hr
theorem Go.istore {k : Nat} {v : Int32} (hd : decode bytes pc = .ok (.istore k, 2)) (hl : storeLocals Ls k (.int v) = some Ls') (hp : pc + 2 = pc') (q : Go wd l R Z y bytes maxL ret n0 K N Q h cells slots pc' Ls' st) : Go wd l R Z y bytes maxL ret n0 K N Q h cells slots pc Ls (.int v :: st) := by
  subst hp; exact Go.of q fun p e s m args below meth c T locs O X eT t hr => XS.istore X.here O.1 rfl (hb O.2.1 hd) rfl hl hr
theorem Go.istoreN {k : Fin 4} {v : Int32} (hd : decode bytes pc = .ok (.istore_n k, 1)) (hl : storeLocals Ls k.val (.int v) = some Ls') (hp : pc + 1 = pc') (q : Go wd l R Z y bytes maxL ret n0 K N Q h cells slots pc' Ls' st) : Go wd l R Z y bytes maxL ret n0 K N Q h cells slots pc Ls (.int v :: st) := by
  subst hp; exact Go.of q fun p e s m args below meth c T locs O X eT t hr => XS.istoreN X.here O.1 rfl (hb O.2.1 hd) rfl hl hr
theorem Go.lstore {k : Nat} {v : Int64} (hd : decode bytes pc = .ok (.lstore k, 2)) (hl : storeLocals Ls k (.long v) = some Ls') (hp : pc + 2 = pc') (q : Go wd l R Z y bytes maxL ret n0 K N Q h cells slots pc' Ls' st) : Go wd l R Z y bytes maxL ret n0 K N Q h cells slots pc Ls (.long v :: st) := by
  subst hp; exact Go.of q fun p e s m args below meth c T locs O X eT t hr => XS.lstore X.here O.1 rfl (hb O.2.1 hd) rfl hl hr
theorem Go.lstoreN {k : Fin 4} {v : Int64} (hd : decode bytes pc = .ok (.lstore_n k, 1)) (hl : storeLocals Ls k.val (.long v) = some Ls') (hp : pc + 1 = pc') (q : Go wd l R Z y bytes maxL ret n0 K N Q h cells slots pc' Ls' st) : Go wd l R Z y bytes maxL ret n0 K N Q h cells slots pc Ls (.long v :: st) := by
  subst hp; exact Go.of q fun p e s m args below meth c T locs O X eT t hr => XS.lstoreN X.here O.1 rfl (hb O.2.1 hd) rfl hl hr
theorem Go.astore {k : Nat} {v : Value} (hd : decode bytes pc = .ok (.astore k, 2)) (hv : v.isRef = true) (hl : storeLocals Ls k v = some Ls') (hp : pc + 2 = pc') (q : Go wd l R Z y bytes maxL ret n0 K N Q h cells slots pc' Ls' st) : Go wd l R Z y bytes maxL ret n0 K N Q h cells slots pc Ls (v :: st) := by
  subst hp; exact Go.of q fun p e s m args below meth c T locs O X eT t hr => XS.astore X.here O.1 rfl (hb O.2.1 hd) rfl hv hl hr
theorem Go.astoreN {k : Fin 4} {v : Value} (hd : decode bytes pc = .ok (.astore_n k, 1)) (hv : v.isRef = true) (hl : storeLocals Ls k.val v = some Ls') (hp : pc + 1 = pc') (q : Go wd l R Z y bytes maxL ret n0 K N Q h cells slots pc' Ls' st) : Go wd l R Z y bytes maxL ret n0 K N Q h cells slots pc Ls (v :: st) := by
  subst hp; exact Go.of q fun p e s m args below meth c T locs O X eT t hr => XS.astoreN X.here O.1 rfl (hb O.2.1 hd) rfl hv hl hr
theorem Go.iinc {k : Nat} {cst : Int} {v w : Int32} (hd : decode bytes pc = .ok (.iinc k cst, 3)) (hl : Ls[k]? = some (.val (.int v))) (hw : v + Int32.ofInt cst = w) (hl' : storeLocals Ls k (.int w) = some Ls') (hp : pc + 3 = pc') (q : Go wd l R Z y bytes maxL ret n0 K N Q h cells slots pc' Ls' st) : Go wd l R Z y bytes maxL ret n0 K N Q h cells slots pc Ls st := by
  subst hp hw; exact Go.of q fun p e s m args below meth c T locs O X eT t hr => XS.iinc X.here O.1 rfl (hb O.2.1 hd) hl hl' hr
theorem Go.iconst {i : Int} {v : Int32} (hd : decode bytes pc = .ok (.iconst i, 1)) (hv : Int32.ofInt i = v) (hp : pc + 1 = pc') (q : Go wd l R Z y bytes maxL ret n0 K N Q h cells slots pc' Ls (.int v :: st)) : Go wd l R Z y bytes maxL ret n0 K N Q h cells slots pc Ls st := by
  subst hp hv; exact Go.of q fun p e s m args below meth c T locs O X eT t hr => XS.iconst X.here O.1 rfl (hb O.2.1 hd) hr
theorem Go.bipush {i : Int} {v : Int32} (hd : decode bytes pc = .ok (.bipush i, 2)) (hv : (Int8.ofInt i).toInt32 = v) (hp : pc + 2 = pc') (q : Go wd l R Z y bytes maxL ret n0 K N Q h cells slots pc' Ls (.int v :: st)) : Go wd l R Z y bytes maxL ret n0 K N Q h cells slots pc Ls st := by
  subst hp hv; exact Go.of q fun p e s m args below meth c T locs O X eT t hr => XS.bipush X.here O.1 rfl (hb O.2.1 hd) hr
theorem Go.sipush {i : Int} {v : Int32} (hd : decode bytes pc = .ok (.sipush i, 3)) (hv : (Int16.ofInt i).toInt32 = v) (hp : pc + 3 = pc') (q : Go wd l R Z y bytes maxL ret n0 K N Q h cells slots pc' Ls (.int v :: st)) : Go wd l R Z y bytes maxL ret n0 K N Q h cells slots pc Ls st := by
  subst hp hv; exact Go.of q fun p e s m args below meth c T locs O X eT t hr => XS.sipush X.here O.1 rfl (hb O.2.1 hd) hr
theorem Go.lconst {k : Fin 2} {v : Int64} (hd : decode bytes pc = .ok (.lconst k, 1)) (hv : Int64.ofNat k = v) (hp : pc + 1 = pc') (q : Go wd l R Z y bytes maxL ret n0 K N Q h cells slots pc' Ls (.long v :: st)) : Go wd l R Z y bytes maxL ret n0 K N Q h cells slots pc Ls st := by
  subst hp hv; exact Go.of q fun p e s m args below meth c T locs O X eT t hr => XS.lconst X.here O.1 rfl (hb O.2.1 hd) hr
theorem Go.aconstNull (hd : decode bytes pc = .ok (.aconst_null, 1)) (hp : pc + 1 = pc') (q : Go wd l R Z y bytes maxL ret n0 K N Q h cells slots pc' Ls (.null :: st)) : Go wd l R Z y bytes maxL ret n0 K N Q h cells slots pc Ls st := by
  subst hp; exact Go.of q fun p e s m args below meth c T locs O X eT t hr => XS.aconstNull X.here O.1 rfl (hb O.2.1 hd) hr
theorem Go.dup {v : Value} (hd : decode bytes pc = .ok (.dup, 1)) (hv : v.category = 1) (hp : pc + 1 = pc') (q : Go wd l R Z y bytes maxL ret n0 K N Q h cells slots pc' Ls (v :: v :: st)) : Go wd l R Z y bytes maxL ret n0 K N Q h cells slots pc Ls (v :: st) := by
  subst hp; exact Go.of q fun p e s m args below meth c T locs O X eT t hr => XS.dup X.here O.1 rfl (hb O.2.1 hd) rfl hv hr
theorem Go.dupX1 {v w : Value} (hd : decode bytes pc = .ok (.dup_x1, 1)) (hv : v.category = 1) (hw : w.category = 1) (hp : pc + 1 = pc') (q : Go wd l R Z y bytes maxL ret n0 K N Q h cells slots pc' Ls (v :: w :: v :: st)) : Go wd l R Z y bytes maxL ret n0 K N Q h cells slots pc Ls (v :: w :: st) := by
  subst hp; exact Go.of q fun p e s m args below meth c T locs O X eT t hr => XS.dupX1 X.here O.1 rfl (hb O.2.1 hd) rfl hv hw hr
theorem Go.dup2 {v w : Value} (hd : decode bytes pc = .ok (.dup2, 1)) (hv : v.category = 1) (hw : w.category = 1) (hp : pc + 1 = pc') (q : Go wd l R Z y bytes maxL ret n0 K N Q h cells slots pc' Ls (v :: w :: v :: w :: st)) : Go wd l R Z y bytes maxL ret n0 K N Q h cells slots pc Ls (v :: w :: st) := by
  subst hp; exact Go.of q fun p e s m args below meth c T locs O X eT t hr => XT.dup2 X.here O.1 rfl (hb O.2.1 hd) rfl hv hw hr
theorem Go.pop {v : Value} (hd : decode bytes pc = .ok (.pop, 1)) (hv : v.category = 1) (hp : pc + 1 = pc') (q : Go wd l R Z y bytes maxL ret n0 K N Q h cells slots pc' Ls st) : Go wd l R Z y bytes maxL ret n0 K N Q h cells slots pc Ls (v :: st) := by
  subst hp; exact Go.of q fun p e s m args below meth c T locs O X eT t hr => XS.pop X.here O.1 rfl (hb O.2.1 hd) rfl hv hr
theorem Go.goto {o : Int} (hd : decode bytes pc = .ok (.goto o, 3)) (ho : 0 ≤ (pc : Int) + o) (hp : ((pc : Int) + o).toNat = pc') (q : Go wd l R Z y bytes maxL ret n0 K N Q h cells slots pc' Ls st) : Go wd l R Z y bytes maxL ret n0 K N Q h cells slots pc Ls st :=
  Go.of q fun p e s m args below meth c T locs O X eT t hr => XS.goto X.here O.1 rfl (pc0 := pc) rfl (hb O.2.1 hd) ho hp hr
theorem Go.iadd {a : Int32} {b : Int32} (hd : decode bytes pc = .ok (.iadd, 1)) (hp : pc + 1 = pc') (q : Go wd l R Z y bytes maxL ret n0 K N Q h cells slots pc' Ls (.int (a + b) :: st)) : Go wd l R Z y bytes maxL ret n0 K N Q h cells slots pc Ls (.int b :: .int a :: st) := by
  subst hp; exact Go.of q fun p e s m args below meth c T locs O X eT t hr => XS.iadd X.here O.1 rfl (hb O.2.1 hd) rfl hr
theorem Go.isub {a : Int32} {b : Int32} (hd : decode bytes pc = .ok (.isub, 1)) (hp : pc + 1 = pc') (q : Go wd l R Z y bytes maxL ret n0 K N Q h cells slots pc' Ls (.int (a - b) :: st)) : Go wd l R Z y bytes maxL ret n0 K N Q h cells slots pc Ls (.int b :: .int a :: st) := by
  subst hp; exact Go.of q fun p e s m args below meth c T locs O X eT t hr => XS.isub X.here O.1 rfl (hb O.2.1 hd) rfl hr
theorem Go.imul {a : Int32} {b : Int32} (hd : decode bytes pc = .ok (.imul, 1)) (hp : pc + 1 = pc') (q : Go wd l R Z y bytes maxL ret n0 K N Q h cells slots pc' Ls (.int (a * b) :: st)) : Go wd l R Z y bytes maxL ret n0 K N Q h cells slots pc Ls (.int b :: .int a :: st) := by
  subst hp; exact Go.of q fun p e s m args below meth c T locs O X eT t hr => XS.imul X.here O.1 rfl (hb O.2.1 hd) rfl hr
theorem Go.iand {a : Int32} {b : Int32} (hd : decode bytes pc = .ok (.iand, 1)) (hp : pc + 1 = pc') (q : Go wd l R Z y bytes maxL ret n0 K N Q h cells slots pc' Ls (.int (a &&& b) :: st)) : Go wd l R Z y bytes maxL ret n0 K N Q h cells slots pc Ls (.int b :: .int a :: st) := by
  subst hp; exact Go.of q fun p e s m args below meth c T locs O X eT t hr => XS.iand X.here O.1 rfl (hb O.2.1 hd) rfl hr
theorem Go.ior {a : Int32} {b : Int32} (hd : decode bytes pc = .ok (.ior, 1)) (hp : pc + 1 = pc') (q : Go wd l R Z y bytes maxL ret n0 K N Q h cells slots pc' Ls (.int (a ||| b) :: st)) : Go wd l R Z y bytes maxL ret n0 K N Q h cells slots pc Ls (.int b :: .int a :: st) := by
  subst hp; exact Go.of q fun p e s m args below meth c T locs O X eT t hr => XS.ior X.here O.1 rfl (hb O.2.1 hd) rfl hr
theorem Go.ixor {a : Int32} {b : Int32} (hd : decode bytes pc = .ok (.ixor, 1)) (hp : pc + 1 = pc') (q : Go wd l R Z y bytes maxL ret n0 K N Q h cells slots pc' Ls (.int (a ^^^ b) :: st)) : Go wd l R Z y bytes maxL ret n0 K N Q h cells slots pc Ls (.int b :: .int a :: st) := by
  subst hp; exact Go.of q fun p e s m args below meth c T locs O X eT t hr => XS.ixor X.here O.1 rfl (hb O.2.1 hd) rfl hr
theorem Go.ishl {a : Int32} {b : Int32} (hd : decode bytes pc = .ok (.ishl, 1)) (hp : pc + 1 = pc') (q : Go wd l R Z y bytes maxL ret n0 K N Q h cells slots pc' Ls (.int (a <<< (b &&& 31)) :: st)) : Go wd l R Z y bytes maxL ret n0 K N Q h cells slots pc Ls (.int b :: .int a :: st) := by
  subst hp; exact Go.of q fun p e s m args below meth c T locs O X eT t hr => XS.ishl X.here O.1 rfl (hb O.2.1 hd) rfl hr
theorem Go.ishr {a : Int32} {b : Int32} (hd : decode bytes pc = .ok (.ishr, 1)) (hp : pc + 1 = pc') (q : Go wd l R Z y bytes maxL ret n0 K N Q h cells slots pc' Ls (.int (a >>> (b &&& 31)) :: st)) : Go wd l R Z y bytes maxL ret n0 K N Q h cells slots pc Ls (.int b :: .int a :: st) := by
  subst hp; exact Go.of q fun p e s m args below meth c T locs O X eT t hr => XS.ishr X.here O.1 rfl (hb O.2.1 hd) rfl hr
theorem Go.iushr {a : Int32} {b : Int32} (hd : decode bytes pc = .ok (.iushr, 1)) (hp : pc + 1 = pc') (q : Go wd l R Z y bytes maxL ret n0 K N Q h cells slots pc' Ls (.int ((a.toUInt32 >>> (b &&& 31).toUInt32).toInt32) :: st)) : Go wd l R Z y bytes maxL ret n0 K N Q h cells slots pc Ls (.int b :: .int a :: st) := by
  subst hp; exact Go.of q fun p e s m args below meth c T locs O X eT t hr => XS.iushr X.here O.1 rfl (hb O.2.1 hd) rfl hr
theorem Go.idiv {a : Int32} {b : Int32} (hd : decode bytes pc = .ok (.idiv, 1)) (hy : b ≠ 0) (hp : pc + 1 = pc') (q : Go wd l R Z y bytes maxL ret n0 K N Q h cells slots pc' Ls (.int (a / b) :: st)) : Go wd l R Z y bytes maxL ret n0 K N Q h cells slots pc Ls (.int b :: .int a :: st) := by
  subst hp; exact Go.of q fun p e s m args below meth c T locs O X eT t hr => XS.idiv X.here O.1 rfl (hb O.2.1 hd) rfl hy hr
theorem Go.ladd {a : Int64} {b : Int64} (hd : decode bytes pc = .ok (.ladd, 1)) (hp : pc + 1 = pc') (q : Go wd l R Z y bytes maxL ret n0 K N Q h cells slots pc' Ls (.long (a + b) :: st)) : Go wd l R Z y bytes maxL ret n0 K N Q h cells slots pc Ls (.long b :: .long a :: st) := by
  subst hp; exact Go.of q fun p e s m args below meth c T locs O X eT t hr => XS.ladd X.here O.1 rfl (hb O.2.1 hd) rfl hr
theorem Go.lsub {a : Int64} {b : Int64} (hd : decode bytes pc = .ok (.lsub, 1)) (hp : pc + 1 = pc') (q : Go wd l R Z y bytes maxL ret n0 K N Q h cells slots pc' Ls (.long (a - b) :: st)) : Go wd l R Z y bytes maxL ret n0 K N Q h cells slots pc Ls (.long b :: .long a :: st) := by
  subst hp; exact Go.of q fun p e s m args below meth c T locs O X eT t hr => XS.lsub X.here O.1 rfl (hb O.2.1 hd) rfl hr
theorem Go.lmul {a : Int64} {b : Int64} (hd : decode bytes pc = .ok (.lmul, 1)) (hp : pc + 1 = pc') (q : Go wd l R Z y bytes maxL ret n0 K N Q h cells slots pc' Ls (.long (a * b) :: st)) : Go wd l R Z y bytes maxL ret n0 K N Q h cells slots pc Ls (.long b :: .long a :: st) := by
  subst hp; exact Go.of q fun p e s m args below meth c T locs O X eT t hr => XS.lmul X.here O.1 rfl (hb O.2.1 hd) rfl hr
theorem Go.land {a : Int64} {b : Int64} (hd : decode bytes pc = .ok (.land, 1)) (hp : pc + 1 = pc') (q : Go wd l R Z y bytes maxL ret n0 K N Q h cells slots pc' Ls (.long (a &&& b) :: st)) : Go wd l R Z y bytes maxL ret n0 K N Q h cells slots pc Ls (.long b :: .long a :: st) := by
  subst hp; exact Go.of q fun p e s m args below meth c T locs O X eT t hr => XS.land X.here O.1 rfl (hb O.2.1 hd) rfl hr
theorem Go.lor {a : Int64} {b : Int64} (hd : decode bytes pc = .ok (.lor, 1)) (hp : pc + 1 = pc') (q : Go wd l R Z y bytes maxL ret n0 K N Q h cells slots pc' Ls (.long (a ||| b) :: st)) : Go wd l R Z y bytes maxL ret n0 K N Q h cells slots pc Ls (.long b :: .long a :: st) := by
  subst hp; exact Go.of q fun p e s m args below meth c T locs O X eT t hr => XS.lor X.here O.1 rfl (hb O.2.1 hd) rfl hr
theorem Go.lxor {a : Int64} {b : Int64} (hd : decode bytes pc = .ok (.lxor, 1)) (hp : pc + 1 = pc') (q : Go wd l R Z y bytes maxL ret n0 K N Q h cells slots pc' Ls (.long (a ^^^ b) :: st)) : Go wd l R Z y bytes maxL ret n0 K N Q h cells slots pc Ls (.long b :: .long a :: st) := by
  subst hp; exact Go.of q fun p e s m args below meth c T locs O X eT t hr => XS.lxor X.here O.1 rfl (hb O.2.1 hd) rfl hr
theorem Go.lshl {a : Int64} {b : Int32} (hd : decode bytes pc = .ok (.lshl, 1)) (hp : pc + 1 = pc') (q : Go wd l R Z y bytes maxL ret n0 K N Q h cells slots pc' Ls (.long (a <<< (b &&& 0x3f).toInt64) :: st)) : Go wd l R Z y bytes maxL ret n0 K N Q h cells slots pc Ls (.int b :: .long a :: st) := by
  subst hp; exact Go.of q fun p e s m args below meth c T locs O X eT t hr => XS.lshl X.here O.1 rfl (hb O.2.1 hd) rfl hr
theorem Go.lshr {a : Int64} {b : Int32} (hd : decode bytes pc = .ok (.lshr, 1)) (hp : pc + 1 = pc') (q : Go wd l R Z y bytes maxL ret n0 K N Q h cells slots pc' Ls (.long (a >>> (b &&& 0x3f).toInt64) :: st)) : Go wd l R Z y bytes maxL ret n0 K N Q h cells slots pc Ls (.int b :: .long a :: st) := by
  subst hp; exact Go.of q fun p e s m args below meth c T locs O X eT t hr => XS.lshr X.here O.1 rfl (hb O.2.1 hd) rfl hr
theorem Go.lushr {a : Int64} {b : Int32} (hd : decode bytes pc = .ok (.lushr, 1)) (hp : pc + 1 = pc') (q : Go wd l R Z y bytes maxL ret n0 K N Q h cells slots pc' Ls (.long ((a.toUInt64 >>> (b &&& 0x3f).toInt64.toUInt64).toInt64) :: st)) : Go wd l R Z y bytes maxL ret n0 K N Q h cells slots pc Ls (.int b :: .long a :: st) := by
  subst hp; exact Go.of q fun p e s m args below meth c T locs O X eT t hr => XS.lushr X.here O.1 rfl (hb O.2.1 hd) rfl hr
theorem Go.ldiv {a : Int64} {b : Int64} (hd : decode bytes pc = .ok (.ldiv, 1)) (hy : b ≠ 0) (hp : pc + 1 = pc') (q : Go wd l R Z y bytes maxL ret n0 K N Q h cells slots pc' Ls (.long (a / b) :: st)) : Go wd l R Z y bytes maxL ret n0 K N Q h cells slots pc Ls (.long b :: .long a :: st) := by
  subst hp; exact Go.of q fun p e s m args below meth c T locs O X eT t hr => XS.ldiv X.here O.1 rfl (hb O.2.1 hd) rfl hy hr
theorem Go.i2b {a : Int32} (hd : decode bytes pc = .ok (.i2b, 1)) (hp : pc + 1 = pc') (q : Go wd l R Z y bytes maxL ret n0 K N Q h cells slots pc' Ls (.int (a.toInt8.toInt32) :: st)) : Go wd l R Z y bytes maxL ret n0 K N Q h cells slots pc Ls (.int a :: st) := by
  subst hp; exact Go.of q fun p e s m args below meth c T locs O X eT t hr => XS.i2b X.here O.1 rfl (hb O.2.1 hd) rfl hr
theorem Go.i2c {a : Int32} (hd : decode bytes pc = .ok (.i2c, 1)) (hp : pc + 1 = pc') (q : Go wd l R Z y bytes maxL ret n0 K N Q h cells slots pc' Ls (.int (a.toUInt32.toUInt16.toUInt32.toInt32) :: st)) : Go wd l R Z y bytes maxL ret n0 K N Q h cells slots pc Ls (.int a :: st) := by
  subst hp; exact Go.of q fun p e s m args below meth c T locs O X eT t hr => XS.i2c X.here O.1 rfl (hb O.2.1 hd) rfl hr
theorem Go.i2s {a : Int32} (hd : decode bytes pc = .ok (.i2s, 1)) (hp : pc + 1 = pc') (q : Go wd l R Z y bytes maxL ret n0 K N Q h cells slots pc' Ls (.int (a.toInt16.toInt32) :: st)) : Go wd l R Z y bytes maxL ret n0 K N Q h cells slots pc Ls (.int a :: st) := by
  subst hp; exact Go.of q fun p e s m args below meth c T locs O X eT t hr => XS.i2s X.here O.1 rfl (hb O.2.1 hd) rfl hr
theorem Go.i2l {a : Int32} (hd : decode bytes pc = .ok (.i2l, 1)) (hp : pc + 1 = pc') (q : Go wd l R Z y bytes maxL ret n0 K N Q h cells slots pc' Ls (.long (a.toInt64) :: st)) : Go wd l R Z y bytes maxL ret n0 K N Q h cells slots pc Ls (.int a :: st) := by
  subst hp; exact Go.of q fun p e s m args below meth c T locs O X eT t hr => XS.i2l X.here O.1 rfl (hb O.2.1 hd) rfl hr
theorem Go.l2i {a : Int64} (hd : decode bytes pc = .ok (.l2i, 1)) (hp : pc + 1 = pc') (q : Go wd l R Z y bytes maxL ret n0 K N Q h cells slots pc' Ls (.int (a.toInt32) :: st)) : Go wd l R Z y bytes maxL ret n0 K N Q h cells slots pc Ls (.long a :: st) := by
  subst hp; exact Go.of q fun p e s m args below meth c T locs O X eT t hr => XS.l2i X.here O.1 rfl (hb O.2.1 hd) rfl hr
theorem Go.lneg {a : Int64} (hd : decode bytes pc = .ok (.lneg, 1)) (hp : pc + 1 = pc') (q : Go wd l R Z y bytes maxL ret n0 K N Q h cells slots pc' Ls (.long (-a) :: st)) : Go wd l R Z y bytes maxL ret n0 K N Q h cells slots pc Ls (.long a :: st) := by
  subst hp; exact Go.of q fun p e s m args below meth c T locs O X eT t hr => XS.lneg X.here O.1 rfl (hb O.2.1 hd) rfl hr
theorem Go.ineg {a : Int32} (hd : decode bytes pc = .ok (.ineg, 1)) (hp : pc + 1 = pc') (q : Go wd l R Z y bytes maxL ret n0 K N Q h cells slots pc' Ls (.int (-a) :: st)) : Go wd l R Z y bytes maxL ret n0 K N Q h cells slots pc Ls (.int a :: st) := by
  subst hp; exact Go.of q fun p e s m args below meth c T locs O X eT t hr => XS.ineg X.here O.1 rfl (hb O.2.1 hd) rfl hr
theorem Go.irem {a b : Int32} (hd : decode bytes pc = .ok (.irem, 1)) (hy : b ≠ 0) (hp : pc + 1 = pc') (q : Go wd l R Z y bytes maxL ret n0 K N Q h cells slots pc' Ls (.int (a % b) :: st)) : Go wd l R Z y bytes maxL ret n0 K N Q h cells slots pc Ls (.int b :: .int a :: st) := by
  subst hp; exact Go.of q fun p e s m args below meth c T locs O X eT t hr => iremM X O.1 rfl (hb O.2.1 hd) rfl hy hr
theorem Go.lrem {a b : Int64} (hd : decode bytes pc = .ok (.lrem, 1)) (hy : b ≠ 0) (hp : pc + 1 = pc') (q : Go wd l R Z y bytes maxL ret n0 K N Q h cells slots pc' Ls (.long (a % b) :: st)) : Go wd l R Z y bytes maxL ret n0 K N Q h cells slots pc Ls (.long b :: .long a :: st) := by
  subst hp; rw [← lrem_mod] at q; exact Go.of q fun p e s m args below meth c T locs O X eT t hr => XS.lrem X.here O.1 rfl (hb O.2.1 hd) rfl hy hr
theorem c_lremM (x y : Int64) (d : Int) (hy : y.toInt = d) : (0 ≤ x.toInt → (x % y).toInt = x.toInt % d) ∧ (x.toInt < 0 → (x % y).toInt = -((-x.toInt) % d)) := by rw [Int64.toInt_mod, hy]; exact tr _ _
/-! branches -/
def jc : ClassFile.Cond → Int32 → Int32 → Prop
  | .eq, x, y => x.toInt = y.toInt
  | .ne, x, y => x.toInt ≠ y.toInt
  | .lt, x, y => x.toInt < y.toInt
  | .ge, x, y => y.toInt ≤ x.toInt
  | .gt, x, y => y.toInt < x.toInt
  | .le, x, y => x.toInt ≤ y.toInt
def jn : ClassFile.Cond → Int32 → Int32 → Prop
  | .eq, x, y => x.toInt ≠ y.toInt
  | .ne, x, y => x.toInt = y.toInt
  | .lt, x, y => y.toInt ≤ x.toInt
  | .ge, x, y => x.toInt < y.toInt
  | .gt, x, y => x.toInt ≤ y.toInt
  | .le, x, y => y.toInt < x.toInt
def zc : ClassFile.Cond → Int32 → Prop
  | .eq, x => x.toInt = 0
  | .ne, x => x.toInt ≠ 0
  | .lt, x => x.toInt < 0
  | .ge, x => 0 ≤ x.toInt
  | .gt, x => 0 < x.toInt
  | .le, x => x.toInt ≤ 0
def zn : ClassFile.Cond → Int32 → Prop
  | .eq, x => x.toInt ≠ 0
  | .ne, x => x.toInt = 0
  | .lt, x => 0 ≤ x.toInt
  | .ge, x => x.toInt < 0
  | .gt, x => x.toInt ≤ 0
  | .le, x => 0 < x.toInt
def wc : ClassFile.Cond → Int64 → Int64 → Prop
  | .eq, x, y => x.toInt = y.toInt
  | .ne, x, y => x.toInt ≠ y.toInt
  | .lt, x, y => x.toInt < y.toInt
  | .ge, x, y => y.toInt ≤ x.toInt
  | .gt, x, y => y.toInt < x.toInt
  | .le, x, y => x.toInt ≤ y.toInt
def wn : ClassFile.Cond → Int64 → Int64 → Prop
  | .eq, x, y => x.toInt ≠ y.toInt
  | .ne, x, y => x.toInt = y.toInt
  | .lt, x, y => y.toInt ≤ x.toInt
  | .ge, x, y => x.toInt < y.toInt
  | .gt, x, y => x.toInt ≤ y.toInt
  | .le, x, y => y.toInt < x.toInt
theorem jc_or (cd : ClassFile.Cond) (x y : Int32) : (if_icmp.holds cd x y = true ∧ jc cd x y) ∨ (if_icmp.holds cd x y = false ∧ jn cd x y) := by
  have i : x = y ↔ x.toInt = y.toInt := Int32.toInt_inj.symm
  cases cd <;> simp only [if_icmp.holds, jc, jn, beq_iff_eq, bne_iff_ne, beq_eq_false_iff_ne, bne_eq_false_iff_eq, decide_eq_true_eq, decide_eq_false_iff_not, Int32.lt_iff_toInt_lt, Int32.le_iff_toInt_le, ge_iff_le, gt_iff_lt, ne_eq, i] <;> omega
theorem zc_or (cd : ClassFile.Cond) (x : Int32) : (ifCond.holds cd x = true ∧ zc cd x) ∨ (ifCond.holds cd x = false ∧ zn cd x) := by
  have z : (0 : Int32).toInt = 0 := rfl
  rcases jc_or cd x 0 with ⟨q, r⟩ | ⟨q, r⟩
  · left; rw [if0]; refine ⟨q, ?_⟩; cases cd <;> simp only [jc, zc, z] at r ⊢ <;> exact r
  · right; rw [if0]; refine ⟨q, ?_⟩; cases cd <;> simp only [jn, zn, z] at r ⊢ <;> exact r
theorem wc_or (cd : ClassFile.Cond) (x y : Int64) : (ifCond.holds cd (lcmpW x y) = true ∧ wc cd x y) ∨ (ifCond.holds cd (lcmpW x y) = false ∧ wn cd x y) := by
  have e := c_lcmp x y
  rcases zc_or cd (lcmpW x y) with ⟨q, r⟩ | ⟨q, r⟩
  · left; refine ⟨q, ?_⟩; cases cd <;> simp only [zc, wc, ne_eq] at r ⊢ <;> omega
  · right; refine ⟨q, ?_⟩; cases cd <;> simp only [zn, wn, ne_eq] at r ⊢ <;> omega
theorem Go.icmp {cd : ClassFile.Cond} {o : Int} {x z : Int32} {pc1 pc2 : Nat} (hd : decode bytes pc = .ok (.if_icmp cd o, 3)) (ho : 0 ≤ (pc : Int) + o) (hp : ((pc : Int) + o).toNat = pc1) (hp2 : pc + 3 = pc2)
    (q1 : jc cd x z → Go wd l R Z y bytes maxL ret n0 K N Q h cells slots pc1 Ls st) (q2 : jn cd x z → Go wd l R Z y bytes maxL ret n0 K N Q h cells slots pc2 Ls st) : Go wd l R Z y bytes maxL ret n0 K N Q h cells slots pc Ls (.int z :: .int x :: st) := by
  rcases jc_or cd x z with ⟨hc, r⟩ | ⟨hc, r⟩
  · exact Go.of (q1 r) fun p e s m args below meth c T locs O X eT t hr => XS.icmpYes X.here O.1 rfl (pc0 := pc) rfl (hb O.2.1 hd) rfl hc ho hp hr
  · subst hp2; exact Go.of (q2 r) fun p e s m args below meth c T locs O X eT t hr => XS.icmpNo X.here O.1 rfl (hb O.2.1 hd) rfl hc hr
theorem Go.ifc {cd : ClassFile.Cond} {o : Int} {x : Int32} {pc1 pc2 : Nat} (hd : decode bytes pc = .ok (.ifCond cd o, 3)) (ho : 0 ≤ (pc : Int) + o) (hp : ((pc : Int) + o).toNat = pc1) (hp2 : pc + 3 = pc2)
    (q1 : zc cd x → Go wd l R Z y bytes maxL ret n0 K N Q h cells slots pc1 Ls st) (q2 : zn cd x → Go wd l R Z y bytes maxL ret n0 K N Q h cells slots pc2 Ls st) : Go wd l R Z y bytes maxL ret n0 K N Q h cells slots pc Ls (.int x :: st) := by
  rcases zc_or cd x with ⟨hc, r⟩ | ⟨hc, r⟩
  · exact Go.of (q1 r) fun p e s m args below meth c T locs O X eT t hr => XS.ifYes X.here O.1 rfl (pc0 := pc) rfl (hb O.2.1 hd) rfl hc ho hp hr
  · subst hp2; exact Go.of (q2 r) fun p e s m args below meth c T locs O X eT t hr => XS.ifNo X.here O.1 rfl (hb O.2.1 hd) rfl hc hr
theorem Go.lcmp {a b : Int64} (hd : decode bytes pc = .ok (.lcmp, 1)) (hp : pc + 1 = pc') (q : Go wd l R Z y bytes maxL ret n0 K N Q h cells slots pc' Ls (.int (lcmpW a b) :: st)) : Go wd l R Z y bytes maxL ret n0 K N Q h cells slots pc Ls (.long b :: .long a :: st) := by
  subst hp; exact Go.of q fun p e s m args below meth c T locs O X eT t hr => XS.lcmp X.here O.1 rfl (hb O.2.1 hd) rfl hr
theorem Go.ifw {cd : ClassFile.Cond} {o : Int} {a b : Int64} {pc1 pc2 : Nat} (hd : decode bytes pc = .ok (.ifCond cd o, 3)) (ho : 0 ≤ (pc : Int) + o) (hp : ((pc : Int) + o).toNat = pc1) (hp2 : pc + 3 = pc2)
    (q1 : wc cd a b → Go wd l R Z y bytes maxL ret n0 K N Q h cells slots pc1 Ls st) (q2 : wn cd a b → Go wd l R Z y bytes maxL ret n0 K N Q h cells slots pc2 Ls st) : Go wd l R Z y bytes maxL ret n0 K N Q h cells slots pc Ls (.int (lcmpW a b) :: st) := by
  rcases wc_or cd a b with ⟨hc, r⟩ | ⟨hc, r⟩
  · exact Go.of (q1 r) fun p e s m args below meth c T locs O X eT t hr => XS.ifYes X.here O.1 rfl (pc0 := pc) rfl (hb O.2.1 hd) rfl hc ho hp hr
  · subst hp2; exact Go.of (q2 r) fun p e s m args below meth c T locs O X eT t hr => XS.ifNo X.here O.1 rfl (hb O.2.1 hd) rfl hc hr
theorem Go.nonnullYes {o : Int} {a : Addr} (hd : decode bytes pc = .ok (.ifnonnull o, 3)) (ho : 0 ≤ (pc : Int) + o) (hp : ((pc : Int) + o).toNat = pc') (q : Go wd l R Z y bytes maxL ret n0 K N Q h cells slots pc' Ls st) : Go wd l R Z y bytes maxL ret n0 K N Q h cells slots pc Ls (.ref a :: st) :=
  Go.of q fun p e s m args below meth c T locs O X eT t hr => XS.ifnonnullYes X.here O.1 rfl (pc0 := pc) rfl (hb O.2.1 hd) rfl ho hp hr
theorem Go.nonnullNo {o : Int} (hd : decode bytes pc = .ok (.ifnonnull o, 3)) (hp : pc + 3 = pc') (q : Go wd l R Z y bytes maxL ret n0 K N Q h cells slots pc' Ls st) : Go wd l R Z y bytes maxL ret n0 K N Q h cells slots pc Ls (.null :: st) := by
  subst hp; exact Go.of q fun p e s m args below meth c T locs O X eT t hr => XS.ifnonnullNo X.here O.1 rfl (hb O.2.1 hd) rfl hr
theorem Go.nullYes {o : Int} (hd : decode bytes pc = .ok (.ifnull o, 3)) (ho : 0 ≤ (pc : Int) + o) (hp : ((pc : Int) + o).toNat = pc') (q : Go wd l R Z y bytes maxL ret n0 K N Q h cells slots pc' Ls st) : Go wd l R Z y bytes maxL ret n0 K N Q h cells slots pc Ls (.null :: st) :=
  Go.of q fun p e s m args below meth c T locs O X eT t hr => XS.ifnullYes X.here O.1 rfl (pc0 := pc) rfl (hb O.2.1 hd) rfl ho hp hr
theorem Go.nullNo {o : Int} {a : Addr} (hd : decode bytes pc = .ok (.ifnull o, 3)) (hp : pc + 3 = pc') (q : Go wd l R Z y bytes maxL ret n0 K N Q h cells slots pc' Ls st) : Go wd l R Z y bytes maxL ret n0 K N Q h cells slots pc Ls (.ref a :: st) := by
  subst hp; exact Go.of q fun p e s m args below meth c T locs O X eT t hr => XS.ifnullNo X.here O.1 rfl (hb O.2.1 hd) rfl hr
/-- if_acmp: q1 where they are the same, q2 where they aren't -/
theorem Go.acmp {cd : ACond} {o : Int} {u w : Value} {pc1 pc2 : Nat} (hd : decode bytes pc = .ok (.if_acmp cd o, 3)) (hu : u.isRef = true) (hw : w.isRef = true) (ho : 0 ≤ (pc : Int) + o) (hp : (if acV cd true = true then ((pc : Int) + o).toNat else pc + 3) = pc1) (hp2 : (if acV cd false = true then ((pc : Int) + o).toNat else pc + 3) = pc2)
    (q1 : u = w → Go wd l R Z y bytes maxL ret n0 K N Q h cells slots pc1 Ls st) (q2 : u ≠ w → Go wd l R Z y bytes maxL ret n0 K N Q h cells slots pc2 Ls st) : Go wd l R Z y bytes maxL ret n0 K N Q h cells slots pc Ls (w :: u :: st) := by
  by_cases r : u = w
  · exact Go.of (q1 r) fun p e s m args below meth c T locs O X eT t hr => RoadKit.acmp X O.1 rfl hu hw (pc0 := pc) (same := true) rfl (hb O.2.1 hd) rfl (decide_eq_true r) ho hp.symm hr
  · exact Go.of (q2 r) fun p e s m args below meth c T locs O X eT t hr => RoadKit.acmp X O.1 rfl hu hw (pc0 := pc) (same := false) rfl (hb O.2.1 hd) rfl (decide_eq_false r) ho hp2.symm hr
/-! constants of the pool -/
theorem Go.ldcI {i : Nat} {v : Int32} (w : (Cond.constant y.cls i v).before a0 Z = true) (hd : decode bytes pc = .ok (.ldc i, 2)) (hp : pc + 2 = pc') (q : Go wd l R Z y bytes maxL ret n0 K N Q h cells slots pc' Ls (.int v :: st)) : Go wd l R Z y bytes maxL ret n0 K N Q h cells slots pc Ls st := by
  subst hp; exact Go.of q fun p e s m args below meth c T locs O X eT t hr => X.ldcInt O.1 O.2.2.2.1 (mvT O.2.2.2.2.2.1 w) (g := mkF m pc Ls st) rfl (hb O.2.1 hd) t hr
theorem Go.ldcW {i : Nat} {v : Int32} (w : (Cond.constant y.cls i v).before a0 Z = true) (hd : decode bytes pc = .ok (.ldc_w i, 3)) (hp : pc + 3 = pc') (q : Go wd l R Z y bytes maxL ret n0 K N Q h cells slots pc' Ls (.int v :: st)) : Go wd l R Z y bytes maxL ret n0 K N Q h cells slots pc Ls st := by
  subst hp; exact Go.of q fun p e s m args below meth c T locs O X eT t hr => X.ldcwInt O.1 O.2.2.2.1 (mvT O.2.2.2.2.2.1 w) (g := mkF m pc Ls st) rfl (hb O.2.1 hd) t hr
theorem Go.ldcL {i : Nat} {v : Int64} (w : (Cond.constantLong y.cls i v).before a0 Z = true) (hd : decode bytes pc = .ok (.ldc2_w i, 3)) (hp : pc + 3 = pc') (q : Go wd l R Z y bytes maxL ret n0 K N Q h cells slots pc' Ls (.long v :: st)) : Go wd l R Z y bytes maxL ret n0 K N Q h cells slots pc Ls st := by
  subst hp; exact Go.of q fun p e s m args below meth c T locs O X eT t hr => X.ldc2Long O.1 O.2.2.2.1 (mvT O.2.2.2.2.2.1 w) (g := mkF m pc Ls st) rfl (hb O.2.1 hd) t hr
/-! the ends -/
theorem Go.leave {v : Option Value} (hv : ret = none → v = none) (hQ : Q v h) (hk : cells ≤ K) (hn : slots ≤ N)
    (q : ∀ (p : Program) (e : Env) (s : State) (m : MethodId) (args : Array Value) (below : List Frame) (meth : Method) (c : Code) (T : State) (locs : List Loc) (fs : List Frame), Own Z y bytes maxL ret p s m meth c → Stand p l e R s m args below meth c T locs cells slots →
      (∀ (f : JFrame) (acts : List Action), f.method = m → f.locked = none → f.entered = [] → (doReturn e (T.setTop f) acts v).1 = T.setFrames fs) → Steps p.tables e below (T.setTop (mkF m pc Ls st)) (T.setFrames fs)) : Go wd l R Z y bytes maxL ret n0 K N Q h cells slots pc Ls st := by
  intro p e s0 s m args below meth c T locs hR O X eT F
  obtain ⟨fs, hr, hrun, hended, hW, hsame⟩ := X.leave (v := v) (fun r => hv (by rw [← O.2.2.2.2.2.2.1]; exact r)) O.2.2.2.2.2.2.2
  have hE : GoEnd wd s0 (.returned v) (T.setFrames fs) locs K N := GoRel.ended (U := T.setFrames fs) (by show GoRel wd s0 s T.heap.size; rw [eT]; exact hR) hW hsame hk hn
  refine ⟨_, _, q p e s m args below meth c T locs fs O X hr, hrun, hended, v, locs, rfl, ⟨?_, F⟩, hE⟩
  show Q v T.heap
  rw [eT]; exact hQ
theorem Go.ret0 (hd : decode bytes pc = .ok (.return_, 1)) (hr : ret = none) (hQ : Q none h) (hk : cells ≤ K) (hn : slots ≤ N) : Go wd l R Z y bytes maxL ret n0 K N Q h cells slots pc Ls [] :=
  Go.leave (v := none) (fun _ => rfl) hQ hk hn fun p e s m args below meth c T locs fs O X hl => X.returnOut O.1 (O.2.2.2.2.2.2.1.trans hr) (hb O.2.1 hd) hl
theorem Go.retI {v : Int32} (hd : decode bytes pc = .ok (.ireturn, 1)) (hr : ret = some .int) (hQ : Q (some (.int v)) h) (hk : cells ≤ K) (hn : slots ≤ N) : Go wd l R Z y bytes maxL ret n0 K N Q h cells slots pc Ls (.int v :: st) :=
  Go.leave (v := some (.int v)) (fun r => by rw [hr] at r; cases r) hQ hk hn fun p e s m args below meth c T locs fs O X hl => retOut X O.1 (O.2.2.2.2.2.2.1.trans hr) rfl (Or.inl ⟨rfl, Or.inl rfl, _, rfl⟩) (hb O.2.1 hd) hl
theorem Go.retN {v : Int32} {t : FieldType} (hd : decode bytes pc = .ok (.ireturn, 1)) (hr : ret = some t) (ht : t = .boolean ∨ t = .byte ∨ t = .char ∨ t = .short) (hv : nar t v = v) (hQ : Q (some (.int v)) h) (hk : cells ≤ K) (hn : slots ≤ N) : Go wd l R Z y bytes maxL ret n0 K N Q h cells slots pc Ls (.int v :: st) :=
  Go.leave (v := some (.int v)) (fun r => by rw [hr] at r; cases r) hQ hk hn fun p e s m args below meth c T locs fs O X hl => RoadKit.retN X O.1 (O.2.2.2.2.2.2.1.trans hr) ht (hb O.2.1 hd) (by rw [hv]; exact hl)
theorem Go.retL {v : Int64} (hd : decode bytes pc = .ok (.lreturn, 1)) (hr : ret = some .long) (hQ : Q (some (.long v)) h) (hk : cells ≤ K) (hn : slots ≤ N) : Go wd l R Z y bytes maxL ret n0 K N Q h cells slots pc Ls (.long v :: st) :=
  Go.leave (v := some (.long v)) (fun r => by rw [hr] at r; cases r) hQ hk hn fun p e s m args below meth c T locs fs O X hl => retOut X O.1 (O.2.2.2.2.2.2.1.trans hr) rfl (Or.inr (Or.inl ⟨rfl, rfl, _, rfl⟩)) (hb O.2.1 hd) hl
theorem Go.retA {v : Value} {t : FieldType} (hd : decode bytes pc = .ok (.areturn, 1)) (hr : ret = some t) (ht : t.isReference = true) (hv : v.isRef = true) (hQ : Q (some v) h) (hk : cells ≤ K) (hn : slots ≤ N) : Go wd l R Z y bytes maxL ret n0 K N Q h cells slots pc Ls (v :: st) :=
  Go.leave (v := some v) (fun r => by rw [hr] at r; cases r) hQ hk hn fun p e s m args below meth c T locs fs O X hl => retOut X O.1 (O.2.2.2.2.2.2.1.trans hr) (by cases t <;> first | rfl | (cases ht; done)) (Or.inr (Or.inr (Or.inr (Or.inr ⟨rfl, ht, hv⟩)))) (hb O.2.1 hd) hl
/-! the heap -/
theorem Go.newO {C : String} {i n : Nat} (w1 : (Cond.classLink y.cls i C).before a0 Z = true) (w2 : (Cond.instantiable C n).before a0 Z = true) (w3 : (Cond.initialized C).before a0 Z = true) (hd : decode bytes pc = .ok (.new i, 3)) (hc : cells + 1 ≤ R.cells) (hs : slots + n ≤ R.slots) (hp : pc + 3 = pc')
    (q : ∀ (h' : Heap) (a : Addr), a = h.size → Ext h h' → Exa Z h' a C → (∀ {O nm d : String} {ty : FieldType}, Laid Z a0 C O nm d → parseFieldDescriptor d = some ty → Fld Z h' a O nm d (defaultValue ty)) → Go wd l R Z y bytes maxL ret n0 K N Q h' (cells + 1) (slots + n) pc' Ls (.ref a :: st)) : Go wd l R Z y bytes maxL ret n0 K N Q h cells slots pc Ls st := by
  subst hp
  intro p e s0 s m args below meth c T locs hR O X eT F
  obtain ⟨T2, h2, X2, e2, E2, A2, D2, -, st2⟩ := RoadKit.newO X O.1 O.2.2.2.2.2.1 O.2.2.2.1 w1 w2 w3 eT (g := mkF m pc Ls st) rfl (hb O.2.1 hd) hc hs
  obtain ⟨s₂, o, h1, r⟩ := q h2 _ rfl E2 A2 D2 p e s0 s m args below meth c T2 locs (hR.mono E2.1) O X2 e2 F
  exact ⟨s₂, o, st2 _ h1, r⟩
theorem Go.initO {i W : Nat} {a : Addr} (w1 : (Cond.methodLink y.cls i Lib.objectInit).before a0 Z = true) (w2 : (Cond.instanceMethod Lib.objectInit).before a0 Z = true) (w3 : (Cond.code Lib.objectInit ⟨#[0xb1]⟩ 1 none).before a0 Z = true) (hd : decode bytes pc = .ok (.invokespecial i, 3)) (hz : Ls.size = maxL)
    (hf : 1 ≤ R.frames) (hW : (st.map fun v => v.category).sum ≤ W) (hl : W + 12 ≤ R.locals) (hp : pc + 3 = pc') (q : Go wd l R Z y bytes maxL ret n0 K N Q h cells slots pc' Ls st) : Go wd l R Z y bytes maxL ret n0 K N Q h cells slots pc Ls (.ref a :: st) := by
  subst hp
  intro p e s0 s m args below meth c T locs hR O X eT F
  obtain ⟨T2, X2, e2, st2⟩ := RoadKit.initO X O.1 O.2.2.2.2.2.1 O.2.2.2.1 w1 w2 w3 eT (g := mkF m pc Ls (.ref a :: st)) rfl (hz.trans O.2.2.1.symm) rfl (hb O.2.1 hd) hf (W := W) (by show 2 * 0 + _ ≤ _; omega) hl
  obtain ⟨s₂, o, h1, r⟩ := q p e s0 s m args below meth c T2 locs hR O X2 e2 F
  exact ⟨s₂, o, st2 _ h1, r⟩
theorem Go.getF {C n d : String} {i : Nat} {a : Addr} {v : Value} (w : (Cond.fieldLink y.cls i C n d).before a0 Z = true) (hF : Fld Z h a C n d v) (hd : decode bytes pc = .ok (.getfield i, 3)) (hp : pc + 3 = pc') (q : Go wd l R Z y bytes maxL ret n0 K N Q h cells slots pc' Ls (v :: st)) : Go wd l R Z y bytes maxL ret n0 K N Q h cells slots pc Ls (.ref a :: st) := by
  subst hp
  intro p e s0 s m args below meth c T locs hR O X eT F
  obtain ⟨T2, X2, e2, st2⟩ := RoadKit.getF X O.1 O.2.2.2.2.2.1 O.2.2.2.1 (host := "") (Or.inl w) Via.refl eT hF (g := mkF m pc Ls (.ref a :: st)) rfl rfl (hb O.2.1 hd)
  obtain ⟨s₂, o, h1, r⟩ := q p e s0 s m args below meth c T2 locs hR O X2 e2 F
  exact ⟨s₂, o, st2 _ h1, r⟩
theorem Go.getS {C n d : String} {i : Nat} {v : Value} (w : (Cond.fieldLink y.cls i C n d).before a0 Z = true) (hF : Sta Z h C n d v) (hd : decode bytes pc = .ok (.getstatic i, 3)) (hp : pc + 3 = pc') (q : Go wd l R Z y bytes maxL ret n0 K N Q h cells slots pc' Ls (v :: st)) : Go wd l R Z y bytes maxL ret n0 K N Q h cells slots pc Ls st := by
  subst hp
  intro p e s0 s m args below meth c T locs hR O X eT F
  obtain ⟨T2, X2, e2, st2⟩ := RoadKit.getS2 X O.1 O.2.2.2.2.2.1 O.2.2.2.1 (host := "") (Or.inl w) Via.refl eT hF (g := mkF m pc Ls st) rfl (hb O.2.1 hd)
  obtain ⟨s₂, o, h1, r⟩ := q p e s0 s m args below meth c T2 locs hR O X2 e2 F
  exact ⟨s₂, o, st2 _ h1, r⟩
theorem Go.putF {C n d : String} {i kk : Nat} {ty : FieldType} {a : Addr} {v old : Value} (w : (Cond.fieldLink y.cls i C n d).before a0 Z = true) (hF : Fld Z h a C n d old) (hE : Exa Z h a C) (hL : (Cond.lays C C n d).before a0 Z = true ∨ ((Cond.laysFinal C C n d).before a0 Z = true ∧ y.cls = C ∧ y.name = "<init>")) (wi : (Cond.instantiable C kk).before a0 Z = true)
    (hty : parseFieldDescriptor d = some ty) (hn : narrow ty v = v) (hf : fits ty v = true) (hd : decode bytes pc = .ok (.putfield i, 3)) (ha : n0 ≤ a) (hp : pc + 3 = pc') (q : ∀ h', Wr h h' a (slotOf Z C n d) v → Go wd l R Z y bytes maxL ret n0 K N Q h' cells slots pc' Ls st) : Go wd l R Z y bytes maxL ret n0 K N Q h cells slots pc Ls (v :: .ref a :: st) := by
  subst hp
  intro p e s0 s m args below meth c T locs hR O X eT F
  obtain ⟨T2, h2, X2, e2, W2, st2⟩ := RoadKit.putF X O.1 O.2.2.2.2.2.1 O.2.2.2.1 (host := "") (Or.inl w) Via.refl eT hF hE (hL.imp_right fun r => ⟨r.1, r.2.1, O.2.2.2.2.1.trans r.2.2⟩) wi hty hn hf (g := mkF m pc Ls (v :: .ref a :: st)) rfl rfl (hb O.2.1 hd)
  obtain ⟨s₂, o, h1, r⟩ := q h2 W2 p e s0 s m args below meth c T2 _ (hR.mono (Nat.le_of_eq W2.size.symm)) O X2 e2 (Fr.snoc X2 F ha)
  exact ⟨s₂, o, st2 _ h1, r⟩
/-! facts carried from heap to heap -/
def Sm (h h' : Heap) (a : Addr) : Prop := ∀ c : Cell, h[a]? = some c → h'[a]? = some c
theorem Sm.ext {h h' : Heap} {a : Addr} (E : Ext h h') : Sm h h' a := fun c q => E.2 a c q
theorem Sm.keep {h h' : Heap} {a : Addr} {ws : List Addr} (E : Keep h h' ws) (q : a ∉ ws) : Sm h h' a := fun c r => E.2.1 a c r q
theorem Sm.wr {h h' : Heap} {a b : Addr} {sl : Nat} {v : Value} (W : Wr h h' b sl v) (q : a ≠ b) : Sm h h' a := Sm.keep (Keep.of_wr W) (by simpa using q)
theorem Sm.trans {h h' h'' : Heap} {a : Addr} (A : Sm h h' a) (B : Sm h' h'' a) : Sm h h'' a := fun c r => B c (A c r)
theorem Fld.sm {h h' : Heap} {a : Addr} {C n d : String} {v : Value} (F : Fld Z h a C n d v) (S : Sm h h' a) : Fld Z h' a C n d v := by
  obtain ⟨cell, cf, k, i, f, h1, r⟩ := F; exact ⟨cell, cf, k, i, f, S _ h1, r⟩
theorem Exa.sm {h h' : Heap} {a : Addr} {C : String} (F : Exa Z h a C) (S : Sm h h' a) : Exa Z h' a C := by
  obtain ⟨cell, k, h1, r⟩ := F; exact ⟨cell, k, S _ h1, r⟩
theorem Arr.sm {h h' : Heap} {a : Addr} {c : Cell} {ty : FieldType} (F : Arr Z h a c ty) (S : Sm h h' a) : Arr Z h' a c ty := ⟨S _ F.1, F.2⟩
/-- the array at a holds just these values -/
def Ary (Z : State) (h : Heap) (a : Addr) (ty : FieldType) (vs : List Value) : Prop := ∃ c : Cell, Arr Z h a c ty ∧ c.slots = vs.toArray
theorem Ary.sm {h h' : Heap} {a : Addr} {ty : FieldType} {vs : List Value} (F : Ary Z h a ty vs) (S : Sm h h' a) : Ary Z h' a ty vs := by
  obtain ⟨c, A, r⟩ := F; exact ⟨c, A.sm S, r⟩
theorem Ary.lt {h : Heap} {a : Addr} {ty : FieldType} {vs : List Value} (F : Ary Z h a ty vs) : a < h.size := by
  obtain ⟨c, A, r⟩ := F; exact A.lt
theorem Ary.eq {h : Heap} {a : Addr} {ty : FieldType} {vs vs' : List Value} (F : Ary Z h a ty vs) (q : vs = vs') : Ary Z h a ty vs' := q ▸ F
theorem Ary.set {h h' : Heap} {a : Addr} {ty : FieldType} {vs : List Value} {k : Nat} {v : Value} (F : Ary Z h a ty vs) (W : Wr h h' a k v) : Ary Z h' a ty (vs.set k v) := by
  obtain ⟨c, A, r⟩ := F
  refine ⟨_, A.same W, ?_⟩
  show c.slots.setIfInBounds k v = _
  rw [r]; simp
theorem clamp_of {j : Int32} {k : Nat} (hj : j.toInt = (k : Int)) : j.toNatClampNeg = k := by
  show j.toInt.toNat = k; omega
theorem inb {j : Int32} {k : Nat} {c : Cell} {vs : List Value} (hj : j.toInt = (k : Int)) (hc : c.slots = vs.toArray) (hk : k < vs.length) : ¬ (j < 0 ∨ c.slots.size ≤ j.toNatClampNeg) := by
  have z : (0 : Int32).toInt = 0 := rfl
  rw [clamp_of hj, hc, Int32.lt_iff_toInt_lt, z]; simp; omega
theorem lt_of_get {vs : List Value} {k : Nat} {v : Value} (h : vs[k]? = some v) : k < vs.length := (List.getElem?_eq_some_iff.mp h).1
theorem Go.newA {aty : ArrayType} {n : Int32} {k : Nat} {ty : FieldType} (w : (Cond.arrayClass ty).before a0 Z = true) (hty : newarray.typeOf aty = ty) (hn : n.toInt = (k : Int)) {cap : Nat} (hcap : k ≤ cap) (hb8 : cap * 8 ≤ 536870912) (hd : decode bytes pc = .ok (.newarray aty, 2)) (hc : cells + 1 ≤ R.cells) (hs : slots + cap ≤ R.slots) (hp : pc + 2 = pc')
    (q : ∀ (h' : Heap) (a : Addr), a = h.size → Ext h h' → Ary Z h' a ty (List.replicate k (defaultValue ty)) → Go wd l R Z y bytes maxL ret n0 K N Q h' (cells + 1) (slots + cap) pc' Ls (.ref a :: st)) : Go wd l R Z y bytes maxL ret n0 K N Q h cells slots pc Ls (.int n :: st) := by
  subst hp hty
  intro p e s0 s m args below meth c T locs hR O X eT F
  have z : (0 : Int32).toInt = 0 := rfl
  have hn0 : ¬ n < 0 := by rw [Int32.lt_iff_toInt_lt, z]; omega
  obtain ⟨T2, h2, cA, X2, e2, E2, A2, st2⟩ := RoadKit.newP X O.1 O.2.2.2.2.2.1 w eT (g := mkF m pc Ls (.int n :: st)) rfl (hb O.2.1 hd) rfl hn0 (cap := cap) (by rw [clamp_of hn]; exact hcap) hb8 hc hs
  obtain ⟨s₂, o, h1, r⟩ := q h2 _ rfl E2 ⟨_, A2, by simp [RoadKit.newA, clamp_of hn]⟩ p e s0 s m args below meth c T2 locs (hR.mono E2.1) O X2 e2 F
  exact ⟨s₂, o, st2 _ h1, r⟩
theorem Go.alen {a : Addr} {ty : FieldType} {vs : List Value} {z : Int32} (hA : Ary Z h a ty vs) (hz : z.toInt = (vs.length : Int)) (hd : decode bytes pc = .ok (.arraylength, 1)) (hp : pc + 1 = pc') (q : Go wd l R Z y bytes maxL ret n0 K N Q h cells slots pc' Ls (.int z :: st)) : Go wd l R Z y bytes maxL ret n0 K N Q h cells slots pc Ls (.ref a :: st) := by
  subst hp
  obtain ⟨cl, A, r⟩ := hA
  have e1 : cl.slots.size.toInt32 = z := by
    have := z.toInt_lt
    rw [r]; apply Int32.toInt_inj.mp
    rw [hz]
    have q1 : vs.toArray.size = vs.length := by simp
    rw [q1]; exact len_toInt (by omega)
  exact Go.of q fun p e s m args below meth c T locs O X eT t hr => X.arraylength O.1 (cell := cl) (by rw [eT]; exact A.1) (State.isArrayOf_alike O.2.2.2.2.2.1.alike A.2.1) (g := mkF m pc Ls (.ref a :: st)) rfl (rest := st) rfl (hb O.2.1 hd) _ (by rw [e1]; exact hr)
theorem Go.ldI {a : Addr} {vs : List Value} {j : Int32} {k : Nat} {v : Value} (hA : Ary Z h a .int vs) (hj : j.toInt = (k : Int)) (hv : vs[k]? = some v) (hd : decode bytes pc = .ok (.iaload, 1)) (hp : pc + 1 = pc') (q : Go wd l R Z y bytes maxL ret n0 K N Q h cells slots pc' Ls (v :: st)) : Go wd l R Z y bytes maxL ret n0 K N Q h cells slots pc Ls (.int j :: .ref a :: st) := by
  subst hp
  obtain ⟨cl, A, r⟩ := hA
  exact Go.of q fun p e s m args below meth c T locs O X eT t hr => X.iaload O.1 (j := j) (v := v) (by rw [eT]; exact A.1) (State.isArrayOf_alike O.2.2.2.2.2.1.alike A.2.1) A.2.2 (inb hj r (lt_of_get hv)) (by rw [clamp_of hj, r]; simpa using hv) (g := mkF m pc Ls (.int j :: .ref a :: st)) rfl rfl (hb O.2.1 hd) _ hr
theorem Go.ldJ {a : Addr} {vs : List Value} {j : Int32} {k : Nat} {v : Value} (hA : Ary Z h a .long vs) (hj : j.toInt = (k : Int)) (hv : vs[k]? = some v) (hd : decode bytes pc = .ok (.laload, 1)) (hp : pc + 1 = pc') (q : Go wd l R Z y bytes maxL ret n0 K N Q h cells slots pc' Ls (v :: st)) : Go wd l R Z y bytes maxL ret n0 K N Q h cells slots pc Ls (.int j :: .ref a :: st) := by
  subst hp
  obtain ⟨cl, A, r⟩ := hA
  exact Go.of q fun p e s m args below meth c T locs O X eT t hr => X.laload O.1 (j := j) (v := v) (by rw [eT]; exact A.1) (State.isArrayOf_alike O.2.2.2.2.2.1.alike A.2.1) A.2.2 (inb hj r (lt_of_get hv)) (by rw [clamp_of hj, r]; simpa using hv) (g := mkF m pc Ls (.int j :: .ref a :: st)) rfl rfl (hb O.2.1 hd) _ hr
theorem Go.ldC {a : Addr} {vs : List Value} {j : Int32} {k : Nat} {v : Value} (hA : Ary Z h a .char vs) (hj : j.toInt = (k : Int)) (hv : vs[k]? = some v) (hd : decode bytes pc = .ok (.caload, 1)) (hp : pc + 1 = pc') (q : Go wd l R Z y bytes maxL ret n0 K N Q h cells slots pc' Ls (v :: st)) : Go wd l R Z y bytes maxL ret n0 K N Q h cells slots pc Ls (.int j :: .ref a :: st) := by
  subst hp
  obtain ⟨cl, A, r⟩ := hA
  exact Go.of q fun p e s m args below meth c T locs O X eT t hr => X.caload O.1 (j := j) (v := v) (by rw [eT]; exact A.1) (State.isArrayOf_alike O.2.2.2.2.2.1.alike A.2.1) A.2.2 (inb hj r (lt_of_get hv)) (by rw [clamp_of hj, r]; simpa using hv) (g := mkF m pc Ls (.int j :: .ref a :: st)) rfl rfl (hb O.2.1 hd) _ hr
theorem Go.ldA {a : Addr} {ty : FieldType} {vs : List Value} {j : Int32} {k : Nat} {v : Value} (hA : Ary Z h a ty vs) (hty : ty.isReference = true) (hj : j.toInt = (k : Int)) (hv : vs[k]? = some v) (hd : decode bytes pc = .ok (.aaload, 1)) (hp : pc + 1 = pc') (q : Go wd l R Z y bytes maxL ret n0 K N Q h cells slots pc' Ls (v :: st)) : Go wd l R Z y bytes maxL ret n0 K N Q h cells slots pc Ls (.int j :: .ref a :: st) := by
  subst hp
  obtain ⟨cl, A, r⟩ := hA
  exact Go.of q fun p e s m args below meth c T locs O X eT t hr => X.aaload O.1 (j := j) (v := v) (by rw [eT]; exact A.1) (State.isArrayOf_alike O.2.2.2.2.2.1.alike A.2.1) hty A.2.2 (inb hj r (lt_of_get hv)) (by rw [clamp_of hj, r]; simpa using hv) (g := mkF m pc Ls (.int j :: .ref a :: st)) rfl rfl (hb O.2.1 hd) _ hr
theorem Go.stI {a : Addr} {vs : List Value} {j v : Int32} {k : Nat} (hA : Ary Z h a .int vs) (hj : j.toInt = (k : Int)) (hk : k < vs.length) (hd : decode bytes pc = .ok (.iastore, 1)) (ha : n0 ≤ a) (hp : pc + 1 = pc')
    (q : ∀ h', Wr h h' a k (.int v) → Ary Z h' a .int (vs.set k (.int v)) → Go wd l R Z y bytes maxL ret n0 K N Q h' cells slots pc' Ls st) : Go wd l R Z y bytes maxL ret n0 K N Q h cells slots pc Ls (.int v :: .int j :: .ref a :: st) := by
  subst hp
  have hA' := hA
  obtain ⟨cl, A, r⟩ := hA
  intro p e s0 s m args below meth c T locs hR O X eT F
  obtain ⟨T2, h2, X2, e2, W2, st2⟩ := RoadKit.stI X O.1 O.2.2.2.2.2.1 eT A (j := j) (x := v) (inb hj r hk) (g := mkF m pc Ls (.int v :: .int j :: .ref a :: st)) rfl rfl (hb O.2.1 hd)
  rw [clamp_of hj] at X2 W2
  obtain ⟨s₂, o, h1, r⟩ := q h2 W2 (hA'.set W2) p e s0 s m args below meth c T2 _ (hR.mono (Nat.le_of_eq W2.size.symm)) O X2 e2 (Fr.snoc X2 F ha)
  exact ⟨s₂, o, st2 _ h1, r⟩
theorem Go.stJ {a : Addr} {vs : List Value} {j : Int32} {v : Int64} {k : Nat} (hA : Ary Z h a .long vs) (hj : j.toInt = (k : Int)) (hk : k < vs.length) (hd : decode bytes pc = .ok (.lastore, 1)) (ha : n0 ≤ a) (hp : pc + 1 = pc')
    (q : ∀ h', Wr h h' a k (.long v) → Ary Z h' a .long (vs.set k (.long v)) → Go wd l R Z y bytes maxL ret n0 K N Q h' cells slots pc' Ls st) : Go wd l R Z y bytes maxL ret n0 K N Q h cells slots pc Ls (.long v :: .int j :: .ref a :: st) := by
  subst hp
  have hA' := hA
  obtain ⟨cl, A, r⟩ := hA
  intro p e s0 s m args below meth c T locs hR O X eT F
  obtain ⟨T2, h2, X2, e2, W2, st2⟩ := RoadKit.stJ X O.1 O.2.2.2.2.2.1 eT A (j := j) (x := v) (inb hj r hk) (g := mkF m pc Ls (.long v :: .int j :: .ref a :: st)) rfl rfl (hb O.2.1 hd)
  rw [clamp_of hj] at X2 W2
  obtain ⟨s₂, o, h1, r⟩ := q h2 W2 (hA'.set W2) p e s0 s m args below meth c T2 _ (hR.mono (Nat.le_of_eq W2.size.symm)) O X2 e2 (Fr.snoc X2 F ha)
  exact ⟨s₂, o, st2 _ h1, r⟩
theorem Go.stC {a : Addr} {vs : List Value} {j v : Int32} {k : Nat} (hA : Ary Z h a .char vs) (hj : j.toInt = (k : Int)) (hk : k < vs.length) (hd : decode bytes pc = .ok (.castore, 1)) (ha : n0 ≤ a) (hp : pc + 1 = pc')
    (q : ∀ h', Wr h h' a k (.int (nar .char v)) → Ary Z h' a .char (vs.set k (.int (nar .char v))) → Go wd l R Z y bytes maxL ret n0 K N Q h' cells slots pc' Ls st) : Go wd l R Z y bytes maxL ret n0 K N Q h cells slots pc Ls (.int v :: .int j :: .ref a :: st) := by
  subst hp
  have hA' := hA
  obtain ⟨cl, A, r⟩ := hA
  intro p e s0 s m args below meth c T locs hR O X eT F
  obtain ⟨T2, h2, X2, e2, W2, st2⟩ := RoadKit.stC X O.1 O.2.2.2.2.2.1 eT A (j := j) (x := v) (inb hj r hk) (g := mkF m pc Ls (.int v :: .int j :: .ref a :: st)) rfl rfl (hb O.2.1 hd)
  rw [clamp_of hj] at X2 W2
  obtain ⟨s₂, o, h1, r⟩ := q h2 W2 (hA'.set W2) p e s0 s m args below meth c T2 _ (hR.mono (Nat.le_of_eq W2.size.symm)) O X2 e2 (Fr.snoc X2 F ha)
  exact ⟨s₂, o, st2 _ h1, r⟩
/-! a method by its contract -/
def Mt (wd : Bool) (l : Launch) (Z : State) (y : MethodName) (bytes : ByteArray) (maxL : Nat) (ret : Option FieldType) (rm : Room) (n0 : Nat) (Q : Option Value → Heap → Prop) (h : Heap) (as' : Array Value) : Prop :=
  MetFree l y (head1 [Cond.code y bytes maxL ret] rm) (fun a U => a = as' ∧ Z.Warmed39 U.vm ∧ U.heap = h) (fun _ _ _ _ _ => True) (fun _ U o U' => ∃ v L, o = .returned v ∧ ((Q v U'.heap ∧ h.size ≤ U'.heap.size) ∧ Fr n0 L) ∧ GoEnd wd U o U' L rm.cells rm.slots)
theorem met_go {rm : Room} {ws : List Jvm.Cond} {as' : Array Value} (hp : plainFor y = true) (hef : ∀ m, entryFrame m as' maxL = mkF m 0 Ls []) (g : Go wd l rm Z y bytes maxL ret n0 K N Q h 0 0 0 Ls []) :
    MetFree l y (head1 (Jvm.Cond.code y bytes maxL ret :: ws) rm) (fun a U => a = as' ∧ Z.Warmed39 U.vm ∧ U.heap = h) (fun _ _ _ _ _ => True) (fun _ U o U' => ∃ v L, o = .returned v ∧ ((Q v U'.heap ∧ h.size ≤ U'.heap.size) ∧ Fr n0 L) ∧ GoEnd wd U o U' L K N) := by
  refine MetFree.of_bodySF hp hisR ?_
  intro p e s m args below meth c s₁ Bd hml0 hP hK
  obtain ⟨rfl, hZ, hh⟩ := hP
  have O : Own Z y bytes maxL ret p s m meth c := ⟨Bd.exec, Bd.bytes, hml0, findClass_of_methodNamed Bd.named, (name_of_methodNamed Bd.named Bd.method).1, hZ, Bd.returns, Bd.notSynchronized⟩
  have X0 : Stand p l e rm s m args below meth c s₁ [] 0 0 := Stand.of_body Bd
  have e0 : s₁.heap = h := by rw [← hh, Bd.state]; rfl
  obtain ⟨s₂, o, h1, h2, h3, v, L, h4, h5, h6⟩ := g p e s s m args below meth c s₁ [] (GoRel.refl _ _ _) O X0 e0 (Fr.nil n0)
  exact ⟨s₂, o, castTop (hef m) h1, h2, h3, v, L, h4, ⟨⟨h5.1, hh ▸ h6.grow⟩, h5.2⟩, h6⟩
theorem Mt.go {rm : Room} {as' : Array Value} (hp : plainFor y = true) (hef : ∀ m, entryFrame m as' maxL = mkF m 0 Ls []) (g : Go wd l rm Z y bytes maxL ret n0 rm.cells rm.slots Q h 0 0 0 Ls []) : Mt wd l Z y bytes maxL ret rm n0 Q h as' := met_go (ws := []) hp hef g
variable {y2 : MethodName} {bytes2 : ByteArray} {maxL2 : Nat} {ret2 : Option FieldType} {rm : Room} {i W : Nat} {as' : Array Value} {argsL rest : List Value} {Q2 : Option Value → Heap → Prop} {ps : List FieldType} {r2 : Option FieldType}
theorem Go.callS (w1 : (Cond.methodLink y.cls i y2).before a0 Z = true) (w2 : (Cond.static y2).before a0 Z = true) (w3 : (Cond.initialized y2.cls).before a0 Z = true) (w4 : (Cond.code y2 bytes2 maxL2 ret2).before a0 Z = true) (hy : y2.cls ≠ "java/lang/invoke/MethodHandle" ∧ y2.cls ≠ "java/lang/invoke/VarHandle")
    (hM : Mt false l Z y2 bytes2 maxL2 ret2 rm n0 Q2 h argsL.toArray) (hd : decode bytes pc = .ok (.invokestatic i, 3)) (hz : Ls.size = maxL) (hpd : parseMethodDescriptor y2.desc = some ⟨ps, r2⟩) (hlen : argsL.length = ps.length) (hst : st = argsL.reverse ++ rest)
    (hW : (rest.map fun v => v.category).sum ≤ W) (hf : rm.frames + 1 ≤ R.frames) (hl : W + (maxL2 + 11) + rm.locals ≤ R.locals) (hc : cells + rm.cells ≤ R.cells) (hs : slots + rm.slots ≤ R.slots) (hp : pc + 3 = pc')
    (q : ∀ v h', Q2 v h' → Go wd l R Z y bytes maxL ret n0 K N Q h' (cells + rm.cells) (slots + rm.slots) pc' Ls (v.toList ++ rest)) : Go wd l R Z y bytes maxL ret n0 K N Q h cells slots pc Ls st := by
  subst hp hst
  intro p e s0 s m args below meth c T locs hR O X eT F
  obtain ⟨v, vm₁, ⟨T2, L2, k2, n2⟩, -, X2, ⟨Lc, hQ, l2, y2, z2⟩, st2⟩ := Jvm.LawKit.callS X O.1 (y := y2) O.2.2.2.1 (mvT O.2.2.2.2.2.1 w1) (mvT O.2.2.2.2.2.1 w2) (mvT O.2.2.2.2.2.1 w3) (mvT O.2.2.2.2.2.1 w4) hy
    (backOf (W := W) (Q := fun v h' L => (Q2 v h' ∧ h.size ≤ h'.size) ∧ Fr n0 L) hM O.2.2.2.2.2.1 w4 w3 hf hl) (g := mkF m pc Ls (argsL.reverse ++ rest)) rfl (hz.trans O.2.2.1.symm) (argsL := argsL) (rest := rest) (lenOf hpd hlen) rfl (by show 2 * 0 + _ ≤ _; omega) (hb O.2.1 hd) (fun _ _ => ⟨rfl, eT, hc, hs⟩)
  dsimp only [Pt.U, Pt.locs, Pt.cells, Pt.slots] at X2 l2 y2 z2 st2 hQ
  subst l2 y2 z2
  obtain ⟨s₂, o, h1, r⟩ := q v T2.heap hQ.1.1 p e s0 s m args below meth c T2 _ (hR.mono hQ.1.2) O X2 rfl (Fr.app F hQ.2)
  exact ⟨s₂, o, st2 _ h1, r⟩
theorem Go.callN {a : Addr} (hy1 : y2.name = "<init>") (w1 : (Cond.methodLink y.cls i y2).before a0 Z = true) (w2 : (Cond.instanceMethod y2).before a0 Z = true) (w3 : (Cond.initialized y2.cls).before a0 Z = true) (w4 : (Cond.code y2 bytes2 maxL2 none).before a0 Z = true) (hy : y2.cls ≠ "java/lang/invoke/MethodHandle" ∧ y2.cls ≠ "java/lang/invoke/VarHandle")
    (hM : Mt false l Z y2 bytes2 maxL2 none rm n0 Q2 h (.ref a :: argsL).toArray) (hd : decode bytes pc = .ok (.invokespecial i, 3)) (hz : Ls.size = maxL) (hpd : parseMethodDescriptor y2.desc = some ⟨ps, r2⟩) (hlen : argsL.length = ps.length) (hst : st = argsL.reverse ++ .ref a :: rest)
    (hW : (rest.map fun v => v.category).sum ≤ W) (hf : rm.frames + 1 ≤ R.frames) (hl : W + (maxL2 + 11) + rm.locals ≤ R.locals) (hc : cells + rm.cells ≤ R.cells) (hs : slots + rm.slots ≤ R.slots) (hp : pc + 3 = pc')
    (q : ∀ v h', Q2 v h' → Go wd l R Z y bytes maxL ret n0 K N Q h' (cells + rm.cells) (slots + rm.slots) pc' Ls (v.toList ++ rest)) : Go wd l R Z y bytes maxL ret n0 K N Q h cells slots pc Ls st := by
  subst hp hst
  intro p e s0 s m args below meth c T locs hR O X eT F
  obtain ⟨v, vm₁, ⟨T2, L2, k2, n2⟩, -, X2, ⟨Lc, hQ, l2, y2, z2⟩, st2⟩ := X.specialBack O.1 (y := y2) hy1 O.2.2.2.1 (mvT O.2.2.2.2.2.1 w1) (mvT O.2.2.2.2.2.1 w2) (mvT O.2.2.2.2.2.1 w4) hy
    (backOf (W := W) (Q := fun v h' L => (Q2 v h' ∧ h.size ≤ h'.size) ∧ Fr n0 L) hM O.2.2.2.2.2.1 w4 w3 hf hl) (g := mkF m pc Ls (argsL.reverse ++ .ref a :: rest)) rfl (hz.trans O.2.2.1.symm) (Steps.refl _) (a := a) (argsL := argsL) (rest := rest) (lenOf hpd hlen) rfl (by show 2 * 0 + _ ≤ _; omega) (hb O.2.1 hd) (fun _ _ => ⟨rfl, eT, hc, hs⟩)
  dsimp only [Pt.U, Pt.locs, Pt.cells, Pt.slots] at X2 l2 y2 z2 st2 hQ
  subst l2 y2 z2
  obtain ⟨s₂, o, h1, r⟩ := q v T2.heap hQ.1.1 p e s0 s m args below meth c T2 _ (hR.mono hQ.1.2) O X2 rfl (Fr.app F hQ.2)
  exact ⟨s₂, o, st2.trans h1, r⟩
theorem Go.callV {a : Addr} {C : String} (w1 : (Cond.methodLink y.cls i y2).before a0 Z = true) (w2 : (Cond.declares y2).before a0 Z = true) (w5 : (Cond.selects C y2 y2).before a0 Z = true) (w6 : (Cond.instanceMethod y2).before a0 Z = true) (w3 : (Cond.initialized y2.cls).before a0 Z = true) (w4 : (Cond.code y2 bytes2 maxL2 ret2).before a0 Z = true)
    (hy : y2.cls ≠ "java/lang/invoke/MethodHandle" ∧ y2.cls ≠ "java/lang/invoke/VarHandle") (hE : Exa Z h a C)
    (hM : Mt false l Z y2 bytes2 maxL2 ret2 rm n0 Q2 h (.ref a :: argsL).toArray) (hd : decode bytes pc = .ok (.invokevirtual i, 3)) (hz : Ls.size = maxL) (hpd : parseMethodDescriptor y2.desc = some ⟨ps, r2⟩) (hlen : argsL.length = ps.length) (hst : st = argsL.reverse ++ .ref a :: rest)
    (hW : (rest.map fun v => v.category).sum ≤ W) (hf : rm.frames + 1 ≤ R.frames) (hl : W + (maxL2 + 11) + rm.locals ≤ R.locals) (hc : cells + rm.cells ≤ R.cells) (hs : slots + rm.slots ≤ R.slots) (hp : pc + 3 = pc')
    (q : ∀ v h', Q2 v h' → Go wd l R Z y bytes maxL ret n0 K N Q h' (cells + rm.cells) (slots + rm.slots) pc' Ls (v.toList ++ rest)) : Go wd l R Z y bytes maxL ret n0 K N Q h cells slots pc Ls st := by
  subst hp hst
  intro p e s0 s m args below meth c T locs hR O X eT F
  obtain ⟨cq, kq, qa, qb, qc⟩ := isOf (T := T) O.2.2.2.2.2.1 eT hE
  obtain ⟨v, vm₁, ⟨T2, L2, k2, n2⟩, -, X2, ⟨Lc, hQ, l2, y2, z2⟩, st2⟩ := X.virtualBack O.1 (y := y2) (z := y2) O.2.2.2.1 (mvT O.2.2.2.2.2.1 w1) (mvT O.2.2.2.2.2.1 w2) (notFace_of_selects (args := #[]) (mvT O.2.2.2.2.2.1 w5)) (mvT O.2.2.2.2.2.1 w5) (mvT O.2.2.2.2.2.1 w6) hy
    (backOf (W := W) (Q := fun v h' L => (Q2 v h' ∧ h.size ≤ h'.size) ∧ Fr n0 L) hM O.2.2.2.2.2.1 w4 w3 hf hl) qa qc (g := mkF m pc Ls (argsL.reverse ++ .ref a :: rest)) rfl (hz.trans O.2.2.1.symm) (Steps.refl _) (argsL := argsL) (rest := rest) (lenOf hpd hlen) rfl (by show 2 * 0 + _ ≤ _; omega) (hb O.2.1 hd) (fun _ _ => ⟨rfl, eT, hc, hs⟩)
  dsimp only [Pt.U, Pt.locs, Pt.cells, Pt.slots] at X2 l2 y2 z2 st2 hQ
  subst l2 y2 z2
  obtain ⟨s₂, o, h1, r⟩ := q v T2.heap hQ.1.1 p e s0 s m args below meth c T2 _ (hR.mono hQ.1.2) O X2 rfl (Fr.app F hQ.2)
  exact ⟨s₂, o, st2.trans h1, r⟩
end GoLaws
end Jvm.RoadKit
namespace Jvm.Pilot.@@N@@
open Jvm Jvm.ClassFile Sem Op Lib Jvm.Free Jvm.Stand Jvm.LawKit Jvm.RoadKit Bundle Jvm.Pilot.@@N@@.Jvm.D
theorem d1_0 : decode prog_1_method_32_code 0 = .ok (.lload_n 0, 1) := by decide +kernel
theorem d1_1 : decode prog_1_method_32_code 1 = .ok (.lconst 1, 1) := by decide +kernel
theorem d1_2 : decode prog_1_method_32_code 2 = .ok (.lor, 1) := by decide +kernel
theorem d1_3 : decode prog_1_method_32_code 3 = .ok (.lstore_n 2, 1) := by decide +kernel
theorem d1_4 : decode prog_1_method_32_code 4 = .ok (.bipush 64, 2) := by decide +kernel
theorem d1_6 : decode prog_1_method_32_code 6 = .ok (.lload_n 2, 1) := by decide +kernel
theorem d1_7 : decode prog_1_method_32_code 7 = .ok (.invokestatic 192, 3) := by decide +kernel
theorem d1_10 : decode prog_1_method_32_code 10 = .ok (.isub, 1) := by decide +kernel
theorem d1_11 : decode prog_1_method_32_code 11 = .ok (.sipush 1233, 3) := by decide +kernel
theorem d1_14 : decode prog_1_method_32_code 14 = .ok (.imul, 1) := by decide +kernel
theorem d1_15 : decode prog_1_method_32_code 15 = .ok (.bipush 12, 2) := by decide +kernel
theorem d1_17 : decode prog_1_method_32_code 17 = .ok (.iushr, 1) := by decide +kernel
theorem d1_18 : decode prog_1_method_32_code 18 = .ok (.istore 4, 2) := by decide +kernel
theorem d1_20 : decode prog_1_method_32_code 20 = .ok (.lload_n 2, 1) := by decide +kernel
theorem d1_21 : decode prog_1_method_32_code 21 = .ok (.getstatic 211, 3) := by decide +kernel
theorem d1_24 : decode prog_1_method_32_code 24 = .ok (.iload 4, 2) := by decide +kernel
theorem d1_26 : decode prog_1_method_32_code 26 = .ok (.laload, 1) := by decide +kernel
theorem d1_27 : decode prog_1_method_32_code 27 = .ok (.lcmp, 1) := by decide +kernel
theorem d1_28 : decode prog_1_method_32_code 28 = .ok (.ifCond .ge 8, 3) := by decide +kernel
theorem d1_31 : decode prog_1_method_32_code 31 = .ok (.iload 4, 2) := by decide +kernel
theorem d1_33 : decode prog_1_method_32_code 33 = .ok (.goto 7, 3) := by decide +kernel
theorem d1_36 : decode prog_1_method_32_code 36 = .ok (.iload 4, 2) := by decide +kernel
theorem d1_38 : decode prog_1_method_32_code 38 = .ok (.iconst 1, 1) := by decide +kernel
theorem d1_39 : decode prog_1_method_32_code 39 = .ok (.iadd, 1) := by decide +kernel
theorem d1_40 : decode prog_1_method_32_code 40 = .ok (.ireturn, 1) := by decide +kernel
theorem d2_0 : decode jdk_35_method_48_code 0 = .ok (.lload_n 0, 1) := by decide +kernel
theorem d2_1 : decode jdk_35_method_48_code 1 = .ok (.bipush 32, 2) := by decide +kernel
theorem d2_3 : decode jdk_35_method_48_code 3 = .ok (.lushr, 1) := by decide +kernel
theorem d2_4 : decode jdk_35_method_48_code 4 = .ok (.l2i, 1) := by decide +kernel
theorem d2_5 : decode jdk_35_method_48_code 5 = .ok (.istore_n 2, 1) := by decide +kernel
theorem d2_6 : decode jdk_35_method_48_code 6 = .ok (.iload_n 2, 1) := by decide +kernel
theorem d2_7 : decode jdk_35_method_48_code 7 = .ok (.ifCond .ne 14, 3) := by decide +kernel
theorem d2_10 : decode jdk_35_method_48_code 10 = .ok (.bipush 32, 2) := by decide +kernel
theorem d2_12 : decode jdk_35_method_48_code 12 = .ok (.lload_n 0, 1) := by decide +kernel
theorem d2_13 : decode jdk_35_method_48_code 13 = .ok (.l2i, 1) := by decide +kernel
theorem d2_14 : decode jdk_35_method_48_code 14 = .ok (.invokestatic 308, 3) := by decide +kernel
theorem d2_17 : decode jdk_35_method_48_code 17 = .ok (.iadd, 1) := by decide +kernel
theorem d2_18 : decode jdk_35_method_48_code 18 = .ok (.goto 7, 3) := by decide +kernel
theorem d2_21 : decode jdk_35_method_48_code 21 = .ok (.iload_n 2, 1) := by decide +kernel
theorem d2_22 : decode jdk_35_method_48_code 22 = .ok (.invokestatic 308, 3) := by decide +kernel
theorem d2_25 : decode jdk_35_method_48_code 25 = .ok (.ireturn, 1) := by decide +kernel
theorem d3_0 : decode jdk_33_method_47_code 0 = .ok (.iload_n 0, 1) := by decide +kernel
theorem d3_1 : decode jdk_33_method_47_code 1 = .ok (.ifCond .gt 14, 3) := by decide +kernel
theorem d3_4 : decode jdk_33_method_47_code 4 = .ok (.iload_n 0, 1) := by decide +kernel
theorem d3_5 : decode jdk_33_method_47_code 5 = .ok (.ifCond .ne 8, 3) := by decide +kernel
theorem d3_8 : decode jdk_33_method_47_code 8 = .ok (.bipush 32, 2) := by decide +kernel
theorem d3_10 : decode jdk_33_method_47_code 10 = .ok (.goto 4, 3) := by decide +kernel
theorem d3_13 : decode jdk_33_method_47_code 13 = .ok (.iconst 0, 1) := by decide +kernel
theorem d3_14 : decode jdk_33_method_47_code 14 = .ok (.ireturn, 1) := by decide +kernel
theorem d3_15 : decode jdk_33_method_47_code 15 = .ok (.bipush 31, 2) := by decide +kernel
theorem d3_17 : decode jdk_33_method_47_code 17 = .ok (.istore_n 1, 1) := by decide +kernel
theorem d3_18 : decode jdk_33_method_47_code 18 = .ok (.iload_n 0, 1) := by decide +kernel
theorem d3_19 : decode jdk_33_method_47_code 19 = .ok (.ldc_w 264, 3) := by decide +kernel
theorem d3_22 : decode jdk_33_method_47_code 22 = .ok (.if_icmp .lt 11, 3) := by decide +kernel
theorem d3_25 : decode jdk_33_method_47_code 25 = .ok (.iinc 1 (-16), 3) := by decide +kernel
theorem d3_28 : decode jdk_33_method_47_code 28 = .ok (.iload_n 0, 1) := by decide +kernel
theorem d3_29 : decode jdk_33_method_47_code 29 = .ok (.bipush 16, 2) := by decide +kernel
theorem d3_31 : decode jdk_33_method_47_code 31 = .ok (.iushr, 1) := by decide +kernel
theorem d3_32 : decode jdk_33_method_47_code 32 = .ok (.istore_n 0, 1) := by decide +kernel
theorem d3_33 : decode jdk_33_method_47_code 33 = .ok (.iload_n 0, 1) := by decide +kernel
theorem d3_34 : decode jdk_33_method_47_code 34 = .ok (.sipush 256, 3) := by decide +kernel
theorem d3_37 : decode jdk_33_method_47_code 37 = .ok (.if_icmp .lt 11, 3) := by decide +kernel
theorem d3_40 : decode jdk_33_method_47_code 40 = .ok (.iinc 1 (-8), 3) := by decide +kernel
theorem d3_43 : decode jdk_33_method_47_code 43 = .ok (.iload_n 0, 1) := by decide +kernel
theorem d3_44 : decode jdk_33_method_47_code 44 = .ok (.bipush 8, 2) := by decide +kernel
theorem d3_46 : decode jdk_33_method_47_code 46 = .ok (.iushr, 1) := by decide +kernel
theorem d3_47 : decode jdk_33_method_47_code 47 = .ok (.istore_n 0, 1) := by decide +kernel
theorem d3_48 : decode jdk_33_method_47_code 48 = .ok (.iload_n 0, 1) := by decide +kernel
theorem d3_49 : decode jdk_33_method_47_code 49 = .ok (.bipush 16, 2) := by decide +kernel
theorem d3_51 : decode jdk_33_method_47_code 51 = .ok (.if_icmp .lt 10, 3) := by decide +kernel
theorem d3_54 : decode jdk_33_method_47_code 54 = .ok (.iinc 1 (-4), 3) := by decide +kernel
theorem d3_57 : decode jdk_33_method_47_code 57 = .ok (.iload_n 0, 1) := by decide +kernel
theorem d3_58 : decode jdk_33_method_47_code 58 = .ok (.iconst 4, 1) := by decide +kernel
theorem d3_59 : decode jdk_33_method_47_code 59 = .ok (.iushr, 1) := by decide +kernel
theorem d3_60 : decode jdk_33_method_47_code 60 = .ok (.istore_n 0, 1) := by decide +kernel
theorem d3_61 : decode jdk_33_method_47_code 61 = .ok (.iload_n 0, 1) := by decide +kernel
theorem d3_62 : decode jdk_33_method_47_code 62 = .ok (.iconst 4, 1) := by decide +kernel
theorem d3_63 : decode jdk_33_method_47_code 63 = .ok (.if_icmp .lt 10, 3) := by decide +kernel
theorem d3_66 : decode jdk_33_method_47_code 66 = .ok (.iinc 1 (-2), 3) := by decide +kernel
theorem d3_69 : decode jdk_33_method_47_code 69 = .ok (.iload_n 0, 1) := by decide +kernel
theorem d3_70 : decode jdk_33_method_47_code 70 = .ok (.iconst 2, 1) := by decide +kernel
theorem d3_71 : decode jdk_33_method_47_code 71 = .ok (.iushr, 1) := by decide +kernel
theorem d3_72 : decode jdk_33_method_47_code 72 = .ok (.istore_n 0, 1) := by decide +kernel
theorem d3_73 : decode jdk_33_method_47_code 73 = .ok (.iload_n 1, 1) := by decide +kernel
theorem d3_74 : decode jdk_33_method_47_code 74 = .ok (.iload_n 0, 1) := by decide +kernel
theorem d3_75 : decode jdk_33_method_47_code 75 = .ok (.iconst 1, 1) := by decide +kernel
theorem d3_76 : decode jdk_33_method_47_code 76 = .ok (.iushr, 1) := by decide +kernel
theorem d3_77 : decode jdk_33_method_47_code 77 = .ok (.isub, 1) := by decide +kernel
theorem d3_78 : decode jdk_33_method_47_code 78 = .ok (.ireturn, 1) := by decide +kernel
theorem d4_0 : decode method_3_code 0 = .ok (.lload_n 0, 1) := by decide +kernel
theorem d4_1 : decode method_3_code 1 = .ok (.ldc2_w 7, 3) := by decide +kernel
theorem d4_4 : decode method_3_code 4 = .ok (.lcmp, 1) := by decide +kernel
theorem d4_5 : decode method_3_code 5 = .ok (.ifCond .ge 5, 3) := by decide +kernel
theorem d4_8 : decode method_3_code 8 = .ok (.iconst 1, 1) := by decide +kernel
theorem d4_9 : decode method_3_code 9 = .ok (.ireturn, 1) := by decide +kernel
theorem d4_10 : decode method_3_code 10 = .ok (.lload_n 0, 1) := by decide +kernel
theorem d4_11 : decode method_3_code 11 = .ok (.ldc2_w 9, 3) := by decide +kernel
theorem d4_14 : decode method_3_code 14 = .ok (.lcmp, 1) := by decide +kernel
theorem d4_15 : decode method_3_code 15 = .ok (.ifCond .ge 5, 3) := by decide +kernel
theorem d4_18 : decode method_3_code 18 = .ok (.iconst 2, 1) := by decide +kernel
theorem d4_19 : decode method_3_code 19 = .ok (.ireturn, 1) := by decide +kernel
theorem d4_20 : decode method_3_code 20 = .ok (.lload_n 0, 1) := by decide +kernel
theorem d4_21 : decode method_3_code 21 = .ok (.ldc2_w 11, 3) := by decide +kernel
theorem d4_24 : decode method_3_code 24 = .ok (.lcmp, 1) := by decide +kernel
theorem d4_25 : decode method_3_code 25 = .ok (.ifCond .ge 5, 3) := by decide +kernel
theorem d4_28 : decode method_3_code 28 = .ok (.iconst 3, 1) := by decide +kernel
theorem d4_29 : decode method_3_code 29 = .ok (.ireturn, 1) := by decide +kernel
theorem d4_30 : decode method_3_code 30 = .ok (.lload_n 0, 1) := by decide +kernel
theorem d4_31 : decode method_3_code 31 = .ok (.ldc2_w 13, 3) := by decide +kernel
theorem d4_34 : decode method_3_code 34 = .ok (.lcmp, 1) := by decide +kernel
theorem d4_35 : decode method_3_code 35 = .ok (.ifCond .ge 5, 3) := by decide +kernel
theorem d4_38 : decode method_3_code 38 = .ok (.iconst 4, 1) := by decide +kernel
theorem d4_39 : decode method_3_code 39 = .ok (.ireturn, 1) := by decide +kernel
theorem d4_40 : decode method_3_code 40 = .ok (.lload_n 0, 1) := by decide +kernel
theorem d4_41 : decode method_3_code 41 = .ok (.ldc2_w 15, 3) := by decide +kernel
theorem d4_44 : decode method_3_code 44 = .ok (.lcmp, 1) := by decide +kernel
theorem d4_45 : decode method_3_code 45 = .ok (.ifCond .ge 5, 3) := by decide +kernel
theorem d4_48 : decode method_3_code 48 = .ok (.iconst 5, 1) := by decide +kernel
theorem d4_49 : decode method_3_code 49 = .ok (.ireturn, 1) := by decide +kernel
theorem d4_50 : decode method_3_code 50 = .ok (.lload_n 0, 1) := by decide +kernel
theorem d4_51 : decode method_3_code 51 = .ok (.ldc2_w 17, 3) := by decide +kernel
theorem d4_54 : decode method_3_code 54 = .ok (.lcmp, 1) := by decide +kernel
theorem d4_55 : decode method_3_code 55 = .ok (.ifCond .ge 6, 3) := by decide +kernel
theorem d4_58 : decode method_3_code 58 = .ok (.bipush 6, 2) := by decide +kernel
theorem d4_60 : decode method_3_code 60 = .ok (.ireturn, 1) := by decide +kernel
theorem d4_61 : decode method_3_code 61 = .ok (.lload_n 0, 1) := by decide +kernel
theorem d4_62 : decode method_3_code 62 = .ok (.ldc2_w 19, 3) := by decide +kernel
theorem d4_65 : decode method_3_code 65 = .ok (.lcmp, 1) := by decide +kernel
theorem d4_66 : decode method_3_code 66 = .ok (.ifCond .ge 6, 3) := by decide +kernel
theorem d4_69 : decode method_3_code 69 = .ok (.bipush 7, 2) := by decide +kernel
theorem d4_71 : decode method_3_code 71 = .ok (.ireturn, 1) := by decide +kernel
theorem d4_72 : decode method_3_code 72 = .ok (.lload_n 0, 1) := by decide +kernel
theorem d4_73 : decode method_3_code 73 = .ok (.ldc2_w 21, 3) := by decide +kernel
theorem d4_76 : decode method_3_code 76 = .ok (.lcmp, 1) := by decide +kernel
theorem d4_77 : decode method_3_code 77 = .ok (.ifCond .ge 6, 3) := by decide +kernel
theorem d4_80 : decode method_3_code 80 = .ok (.bipush 8, 2) := by decide +kernel
theorem d4_82 : decode method_3_code 82 = .ok (.ireturn, 1) := by decide +kernel
theorem d4_83 : decode method_3_code 83 = .ok (.lload_n 0, 1) := by decide +kernel
theorem d4_84 : decode method_3_code 84 = .ok (.ldc2_w 23, 3) := by decide +kernel
theorem d4_87 : decode method_3_code 87 = .ok (.lcmp, 1) := by decide +kernel
theorem d4_88 : decode method_3_code 88 = .ok (.ifCond .ge 6, 3) := by decide +kernel
theorem d4_91 : decode method_3_code 91 = .ok (.bipush 9, 2) := by decide +kernel
theorem d4_93 : decode method_3_code 93 = .ok (.ireturn, 1) := by decide +kernel
theorem d4_94 : decode method_3_code 94 = .ok (.lload_n 0, 1) := by decide +kernel
theorem d4_95 : decode method_3_code 95 = .ok (.ldc2_w 25, 3) := by decide +kernel
theorem d4_98 : decode method_3_code 98 = .ok (.lcmp, 1) := by decide +kernel
theorem d4_99 : decode method_3_code 99 = .ok (.ifCond .ge 6, 3) := by decide +kernel
theorem d4_102 : decode method_3_code 102 = .ok (.bipush 10, 2) := by decide +kernel
theorem d4_104 : decode method_3_code 104 = .ok (.ireturn, 1) := by decide +kernel
theorem d4_105 : decode method_3_code 105 = .ok (.lload_n 0, 1) := by decide +kernel
theorem d4_106 : decode method_3_code 106 = .ok (.ldc2_w 27, 3) := by decide +kernel
theorem d4_109 : decode method_3_code 109 = .ok (.lcmp, 1) := by decide +kernel
theorem d4_110 : decode method_3_code 110 = .ok (.ifCond .ge 6, 3) := by decide +kernel
theorem d4_113 : decode method_3_code 113 = .ok (.bipush 11, 2) := by decide +kernel
theorem d4_115 : decode method_3_code 115 = .ok (.ireturn, 1) := by decide +kernel
theorem d4_116 : decode method_3_code 116 = .ok (.lload_n 0, 1) := by decide +kernel
theorem d4_117 : decode method_3_code 117 = .ok (.ldc2_w 29, 3) := by decide +kernel
theorem d4_120 : decode method_3_code 120 = .ok (.lcmp, 1) := by decide +kernel
theorem d4_121 : decode method_3_code 121 = .ok (.ifCond .ge 6, 3) := by decide +kernel
theorem d4_124 : decode method_3_code 124 = .ok (.bipush 12, 2) := by decide +kernel
theorem d4_126 : decode method_3_code 126 = .ok (.ireturn, 1) := by decide +kernel
theorem d4_127 : decode method_3_code 127 = .ok (.lload_n 0, 1) := by decide +kernel
theorem d4_128 : decode method_3_code 128 = .ok (.ldc2_w 31, 3) := by decide +kernel
theorem d4_131 : decode method_3_code 131 = .ok (.lcmp, 1) := by decide +kernel
theorem d4_132 : decode method_3_code 132 = .ok (.ifCond .ge 6, 3) := by decide +kernel
theorem d4_135 : decode method_3_code 135 = .ok (.bipush 13, 2) := by decide +kernel
theorem d4_137 : decode method_3_code 137 = .ok (.ireturn, 1) := by decide +kernel
theorem d4_138 : decode method_3_code 138 = .ok (.lload_n 0, 1) := by decide +kernel
theorem d4_139 : decode method_3_code 139 = .ok (.ldc2_w 33, 3) := by decide +kernel
theorem d4_142 : decode method_3_code 142 = .ok (.lcmp, 1) := by decide +kernel
theorem d4_143 : decode method_3_code 143 = .ok (.ifCond .ge 6, 3) := by decide +kernel
theorem d4_146 : decode method_3_code 146 = .ok (.bipush 14, 2) := by decide +kernel
theorem d4_148 : decode method_3_code 148 = .ok (.ireturn, 1) := by decide +kernel
theorem d4_149 : decode method_3_code 149 = .ok (.lload_n 0, 1) := by decide +kernel
theorem d4_150 : decode method_3_code 150 = .ok (.ldc2_w 35, 3) := by decide +kernel
theorem d4_153 : decode method_3_code 153 = .ok (.lcmp, 1) := by decide +kernel
theorem d4_154 : decode method_3_code 154 = .ok (.ifCond .ge 6, 3) := by decide +kernel
theorem d4_157 : decode method_3_code 157 = .ok (.bipush 15, 2) := by decide +kernel
theorem d4_159 : decode method_3_code 159 = .ok (.ireturn, 1) := by decide +kernel
theorem d4_160 : decode method_3_code 160 = .ok (.lload_n 0, 1) := by decide +kernel
theorem d4_161 : decode method_3_code 161 = .ok (.ldc2_w 37, 3) := by decide +kernel
theorem d4_164 : decode method_3_code 164 = .ok (.lcmp, 1) := by decide +kernel
theorem d4_165 : decode method_3_code 165 = .ok (.ifCond .ge 6, 3) := by decide +kernel
theorem d4_168 : decode method_3_code 168 = .ok (.bipush 16, 2) := by decide +kernel
theorem d4_170 : decode method_3_code 170 = .ok (.ireturn, 1) := by decide +kernel
theorem d4_171 : decode method_3_code 171 = .ok (.lload_n 0, 1) := by decide +kernel
theorem d4_172 : decode method_3_code 172 = .ok (.ldc2_w 39, 3) := by decide +kernel
theorem d4_175 : decode method_3_code 175 = .ok (.lcmp, 1) := by decide +kernel
theorem d4_176 : decode method_3_code 176 = .ok (.ifCond .ge 6, 3) := by decide +kernel
theorem d4_179 : decode method_3_code 179 = .ok (.bipush 17, 2) := by decide +kernel
theorem d4_181 : decode method_3_code 181 = .ok (.ireturn, 1) := by decide +kernel
theorem d4_182 : decode method_3_code 182 = .ok (.lload_n 0, 1) := by decide +kernel
theorem d4_183 : decode method_3_code 183 = .ok (.ldc2_w 41, 3) := by decide +kernel
theorem d4_186 : decode method_3_code 186 = .ok (.lcmp, 1) := by decide +kernel
theorem d4_187 : decode method_3_code 187 = .ok (.ifCond .ge 6, 3) := by decide +kernel
theorem d4_190 : decode method_3_code 190 = .ok (.bipush 18, 2) := by decide +kernel
theorem d4_192 : decode method_3_code 192 = .ok (.ireturn, 1) := by decide +kernel
theorem d4_193 : decode method_3_code 193 = .ok (.bipush 19, 2) := by decide +kernel
theorem d4_195 : decode method_3_code 195 = .ok (.ireturn, 1) := by decide +kernel
theorem d5_0 : decode jdk_29_method_66_code 0 = .ok (.lload_n 0, 1) := by decide +kernel
theorem d5_1 : decode jdk_29_method_66_code 1 = .ok (.lload_n 2, 1) := by decide +kernel
theorem d5_2 : decode jdk_29_method_66_code 2 = .ok (.lcmp, 1) := by decide +kernel
theorem d5_3 : decode jdk_29_method_66_code 3 = .ok (.ifCond .lt 7, 3) := by decide +kernel
theorem d5_6 : decode jdk_29_method_66_code 6 = .ok (.lload_n 0, 1) := by decide +kernel
theorem d5_7 : decode jdk_29_method_66_code 7 = .ok (.goto 4, 3) := by decide +kernel
theorem d5_10 : decode jdk_29_method_66_code 10 = .ok (.lload_n 2, 1) := by decide +kernel
theorem d5_11 : decode jdk_29_method_66_code 11 = .ok (.lreturn, 1) := by decide +kernel
theorem pd0 : parseMethodDescriptor "(I)I" = some ⟨[.int], (some .int)⟩ := by decide +kernel
theorem pd1 : parseMethodDescriptor "(J)I" = some ⟨[.long], (some .int)⟩ := by decide +kernel
theorem pd2 : parseMethodDescriptor "(JJ)J" = some ⟨[.long, .long], (some .long)⟩ := by decide +kernel
theorem pn0 : plainName "com/example/tenscale/tenscale/Coefficient" = true := by first | (simp [plainName, overriddenIn]; done) | decide +kernel
theorem pn1 : plainName "com/example/tenscale/tenscale/CoefficientDigitCountPinLaw" = true := by first | (simp [plainName, overriddenIn]; done) | decide +kernel

theorem own_eqI {args : Array Value} {s : State} {t : Term} {n : Int32} (h : (Jvm.Cond.eq t (.int n)).value args s none s [] = some true) : t.eval args s none [] s = some (.int n) := by
  obtain ⟨x, y, e1, e2, k, k'⟩ := cmp_v (Or.inl h)
  obtain rfl : y = .int n := (Option.some.inj (e2.symm.trans (Term.int_eval n)))
  obtain ⟨z, rfl⟩ : ∃ z, x = .int z := k'
  have q : (Jvm.Cond.eq t (.int n)).value args s none s [] = some (decide (z = n)) := by simp [Cond.value, e1, e2]
  rw [q] at h
  rw [e1, of_decide_eq_true (Option.some.inj h)]

theorem own_eqL {args : Array Value} {s : State} {t : Term} {n : Int64} (h : (Jvm.Cond.eq t (.long n)).value args s none s [] = some true) : t.eval args s none [] s = some (.long n) := by
  obtain ⟨x, y, e1, e2, k, k'⟩ := cmp_v (Or.inl h)
  obtain rfl : y = .long n := (Option.some.inj (e2.symm.trans (long_at n)))
  obtain ⟨z, rfl⟩ : ∃ z, x = .long z := k'
  rw [eq_L e1 e2] at h
  rw [e1, of_decide_eq_true (Option.some.inj h)]

theorem own_len {args : Array Value} {s : State} {t : Term} {a : Addr} {c : Cell} {ty : FieldType} {n : Int32} {k : Nat} (ev : t.eval args s none [] s = some (.ref a)) (A : Arr s s.heap a c ty) (h : (Term.length t).eval args s none [] s = some (.int n)) (hk : n.toInt = (k : Int)) : c.slots.size = k := by
  have hA := A.fin (U := s) (Vm.Alike.refl _)
  by_cases hl : c.slots.size < 2 ^ 31
  · rw [len_f ev hA hl] at h
    have e : c.slots.size.toInt32 = n := by cases h; rfl
    have q := len_toInt hl
    rw [e] at q
    omega
  · simp [Term.eval, ev, hA, hl] at h
theorem own_ary {Z : State} {h : Heap} {a : Addr} {c : Cell} {ty : FieldType} {vs : List Value} (A : Arr Z h a c ty) (hs : c.slots.size = vs.length) (he : ∀ k, k < vs.length → c.slots[k]? = vs[k]?) : Ary Z h a ty vs := by
  refine ⟨c, A, ?_⟩
  apply Array.ext_getElem?
  intro i
  by_cases hi : i < vs.length
  · rw [he i hi]; simp
  · rw [Array.getElem?_eq_none (by omega), Array.getElem?_eq_none (by simp; omega)]
theorem own_elem {args : Array Value} {s : State} {t : Term} {a : Addr} {c : Cell} {ty : FieldType} {j : Int32} {k : Nat} {v : Value} (ev : t.eval args s none [] s = some (.ref a)) (A : Arr s s.heap a c ty) (h : (Term.elem t (.int j)).eval args s none [] s = some v) (hk : j.toInt = (k : Int)) : c.slots[k]? = some v := by
  have q := (elem_in h ev (Term.int_eval j) A.1).2
  rw [clamp_of hk] at q
  exact q

def own_dig (x r : Int) : Prop := (r = 1 ∧ x < 10) ∨ (r = 2 ∧ 10 ≤ x ∧ x < 100) ∨ (r = 3 ∧ 100 ≤ x ∧ x < 1000) ∨ (r = 4 ∧ 1000 ≤ x ∧ x < 10000) ∨ (r = 5 ∧ 10000 ≤ x ∧ x < 100000) ∨ (r = 6 ∧ 100000 ≤ x ∧ x < 1000000) ∨ (r = 7 ∧ 1000000 ≤ x ∧ x < 10000000) ∨ (r = 8 ∧ 10000000 ≤ x ∧ x < 100000000) ∨ (r = 9 ∧ 100000000 ≤ x ∧ x < 1000000000) ∨ (r = 10 ∧ 1000000000 ≤ x ∧ x < 10000000000) ∨ (r = 11 ∧ 10000000000 ≤ x ∧ x < 100000000000) ∨ (r = 12 ∧ 100000000000 ≤ x ∧ x < 1000000000000) ∨ (r = 13 ∧ 1000000000000 ≤ x ∧ x < 10000000000000) ∨ (r = 14 ∧ 10000000000000 ≤ x ∧ x < 100000000000000) ∨ (r = 15 ∧ 100000000000000 ≤ x ∧ x < 1000000000000000) ∨ (r = 16 ∧ 1000000000000000 ≤ x ∧ x < 10000000000000000) ∨ (r = 17 ∧ 10000000000000000 ≤ x ∧ x < 100000000000000000) ∨ (r = 18 ∧ 100000000000000000 ≤ x ∧ x < 1000000000000000000) ∨ (r = 19 ∧ 1000000000000000000 ≤ x)
theorem own_dig_eq {x : Int} {r t : Int32} (h1 : own_dig x r.toInt) (h2 : own_dig x t.toInt) : r.toInt = t.toInt := by
  unfold own_dig at h1 h2
  generalize r.toInt = r at *
  generalize t.toInt = t at *
  rcases h1 with h1 | h1 | h1 | h1 | h1 | h1 | h1 | h1 | h1 | h1 | h1 | h1 | h1 | h1 | h1 | h1 | h1 | h1 | h1 <;> omega
def own_tab (E : Nat) (P U : Int) : Prop := (E = 0 ∧ 0 ≤ P ∧ U ≤ 10) ∨ (E = 1 ∧ 1 ≤ P ∧ U ≤ 100) ∨ (E = 2 ∧ 10 ≤ P ∧ U ≤ 1000) ∨ (E = 3 ∧ 100 ≤ P ∧ U ≤ 10000) ∨ (E = 4 ∧ 1000 ≤ P ∧ U ≤ 100000) ∨ (E = 5 ∧ 10000 ≤ P ∧ U ≤ 1000000) ∨ (E = 6 ∧ 100000 ≤ P ∧ U ≤ 10000000) ∨ (E = 7 ∧ 1000000 ≤ P ∧ U ≤ 100000000) ∨ (E = 8 ∧ 10000000 ≤ P ∧ U ≤ 1000000000) ∨ (E = 9 ∧ 100000000 ≤ P ∧ U ≤ 10000000000) ∨ (E = 10 ∧ 1000000000 ≤ P ∧ U ≤ 100000000000) ∨ (E = 11 ∧ 10000000000 ≤ P ∧ U ≤ 1000000000000) ∨ (E = 12 ∧ 100000000000 ≤ P ∧ U ≤ 10000000000000) ∨ (E = 13 ∧ 1000000000000 ≤ P ∧ U ≤ 100000000000000) ∨ (E = 14 ∧ 10000000000000 ≤ P ∧ U ≤ 1000000000000000) ∨ (E = 15 ∧ 100000000000000 ≤ P ∧ U ≤ 10000000000000000) ∨ (E = 16 ∧ 1000000000000000 ≤ P ∧ U ≤ 100000000000000000) ∨ (E = 17 ∧ 10000000000000000 ≤ P ∧ U ≤ 1000000000000000000) ∨ (E = 18 ∧ 100000000000000000 ≤ P ∧ U ≤ 10000000000000000000)
theorem own_tab_all : ∀ c : Fin 63, ((c.val + 1) * 1233 / 4096 = 0 ∧ 0 ≤ (2 : Int) ^ c.val ∧ (2 : Int) ^ (c.val + 1) ≤ 10) ∨ ((c.val + 1) * 1233 / 4096 = 1 ∧ 1 ≤ (2 : Int) ^ c.val ∧ (2 : Int) ^ (c.val + 1) ≤ 100) ∨ ((c.val + 1) * 1233 / 4096 = 2 ∧ 10 ≤ (2 : Int) ^ c.val ∧ (2 : Int) ^ (c.val + 1) ≤ 1000) ∨ ((c.val + 1) * 1233 / 4096 = 3 ∧ 100 ≤ (2 : Int) ^ c.val ∧ (2 : Int) ^ (c.val + 1) ≤ 10000) ∨ ((c.val + 1) * 1233 / 4096 = 4 ∧ 1000 ≤ (2 : Int) ^ c.val ∧ (2 : Int) ^ (c.val + 1) ≤ 100000) ∨ ((c.val + 1) * 1233 / 4096 = 5 ∧ 10000 ≤ (2 : Int) ^ c.val ∧ (2 : Int) ^ (c.val + 1) ≤ 1000000) ∨ ((c.val + 1) * 1233 / 4096 = 6 ∧ 100000 ≤ (2 : Int) ^ c.val ∧ (2 : Int) ^ (c.val + 1) ≤ 10000000) ∨ ((c.val + 1) * 1233 / 4096 = 7 ∧ 1000000 ≤ (2 : Int) ^ c.val ∧ (2 : Int) ^ (c.val + 1) ≤ 100000000) ∨ ((c.val + 1) * 1233 / 4096 = 8 ∧ 10000000 ≤ (2 : Int) ^ c.val ∧ (2 : Int) ^ (c.val + 1) ≤ 1000000000) ∨ ((c.val + 1) * 1233 / 4096 = 9 ∧ 100000000 ≤ (2 : Int) ^ c.val ∧ (2 : Int) ^ (c.val + 1) ≤ 10000000000) ∨ ((c.val + 1) * 1233 / 4096 = 10 ∧ 1000000000 ≤ (2 : Int) ^ c.val ∧ (2 : Int) ^ (c.val + 1) ≤ 100000000000) ∨ ((c.val + 1) * 1233 / 4096 = 11 ∧ 10000000000 ≤ (2 : Int) ^ c.val ∧ (2 : Int) ^ (c.val + 1) ≤ 1000000000000) ∨ ((c.val + 1) * 1233 / 4096 = 12 ∧ 100000000000 ≤ (2 : Int) ^ c.val ∧ (2 : Int) ^ (c.val + 1) ≤ 10000000000000) ∨ ((c.val + 1) * 1233 / 4096 = 13 ∧ 1000000000000 ≤ (2 : Int) ^ c.val ∧ (2 : Int) ^ (c.val + 1) ≤ 100000000000000) ∨ ((c.val + 1) * 1233 / 4096 = 14 ∧ 10000000000000 ≤ (2 : Int) ^ c.val ∧ (2 : Int) ^ (c.val + 1) ≤ 1000000000000000) ∨ ((c.val + 1) * 1233 / 4096 = 15 ∧ 100000000000000 ≤ (2 : Int) ^ c.val ∧ (2 : Int) ^ (c.val + 1) ≤ 10000000000000000) ∨ ((c.val + 1) * 1233 / 4096 = 16 ∧ 1000000000000000 ≤ (2 : Int) ^ c.val ∧ (2 : Int) ^ (c.val + 1) ≤ 100000000000000000) ∨ ((c.val + 1) * 1233 / 4096 = 17 ∧ 10000000000000000 ≤ (2 : Int) ^ c.val ∧ (2 : Int) ^ (c.val + 1) ≤ 1000000000000000000) ∨ ((c.val + 1) * 1233 / 4096 = 18 ∧ 100000000000000000 ≤ (2 : Int) ^ c.val ∧ (2 : Int) ^ (c.val + 1) ≤ 10000000000000000000) := by decide +kernel
theorem own_tab_c (c : Nat) (h : c ≤ 62) : ((c + 1) * 1233 / 4096 = 0 ∧ 0 ≤ (2 : Int) ^ c ∧ (2 : Int) ^ (c + 1) ≤ 10) ∨ ((c + 1) * 1233 / 4096 = 1 ∧ 1 ≤ (2 : Int) ^ c ∧ (2 : Int) ^ (c + 1) ≤ 100) ∨ ((c + 1) * 1233 / 4096 = 2 ∧ 10 ≤ (2 : Int) ^ c ∧ (2 : Int) ^ (c + 1) ≤ 1000) ∨ ((c + 1) * 1233 / 4096 = 3 ∧ 100 ≤ (2 : Int) ^ c ∧ (2 : Int) ^ (c + 1) ≤ 10000) ∨ ((c + 1) * 1233 / 4096 = 4 ∧ 1000 ≤ (2 : Int) ^ c ∧ (2 : Int) ^ (c + 1) ≤ 100000) ∨ ((c + 1) * 1233 / 4096 = 5 ∧ 10000 ≤ (2 : Int) ^ c ∧ (2 : Int) ^ (c + 1) ≤ 1000000) ∨ ((c + 1) * 1233 / 4096 = 6 ∧ 100000 ≤ (2 : Int) ^ c ∧ (2 : Int) ^ (c + 1) ≤ 10000000) ∨ ((c + 1) * 1233 / 4096 = 7 ∧ 1000000 ≤ (2 : Int) ^ c ∧ (2 : Int) ^ (c + 1) ≤ 100000000) ∨ ((c + 1) * 1233 / 4096 = 8 ∧ 10000000 ≤ (2 : Int) ^ c ∧ (2 : Int) ^ (c + 1) ≤ 1000000000) ∨ ((c + 1) * 1233 / 4096 = 9 ∧ 100000000 ≤ (2 : Int) ^ c ∧ (2 : Int) ^ (c + 1) ≤ 10000000000) ∨ ((c + 1) * 1233 / 4096 = 10 ∧ 1000000000 ≤ (2 : Int) ^ c ∧ (2 : Int) ^ (c + 1) ≤ 100000000000) ∨ ((c + 1) * 1233 / 4096 = 11 ∧ 10000000000 ≤ (2 : Int) ^ c ∧ (2 : Int) ^ (c + 1) ≤ 1000000000000) ∨ ((c + 1) * 1233 / 4096 = 12 ∧ 100000000000 ≤ (2 : Int) ^ c ∧ (2 : Int) ^ (c + 1) ≤ 10000000000000) ∨ ((c + 1) * 1233 / 4096 = 13 ∧ 1000000000000 ≤ (2 : Int) ^ c ∧ (2 : Int) ^ (c + 1) ≤ 100000000000000) ∨ ((c + 1) * 1233 / 4096 = 14 ∧ 10000000000000 ≤ (2 : Int) ^ c ∧ (2 : Int) ^ (c + 1) ≤ 1000000000000000) ∨ ((c + 1) * 1233 / 4096 = 15 ∧ 100000000000000 ≤ (2 : Int) ^ c ∧ (2 : Int) ^ (c + 1) ≤ 10000000000000000) ∨ ((c + 1) * 1233 / 4096 = 16 ∧ 1000000000000000 ≤ (2 : Int) ^ c ∧ (2 : Int) ^ (c + 1) ≤ 100000000000000000) ∨ ((c + 1) * 1233 / 4096 = 17 ∧ 10000000000000000 ≤ (2 : Int) ^ c ∧ (2 : Int) ^ (c + 1) ≤ 1000000000000000000) ∨ ((c + 1) * 1233 / 4096 = 18 ∧ 100000000000000000 ≤ (2 : Int) ^ c ∧ (2 : Int) ^ (c + 1) ≤ 10000000000000000000) := own_tab_all ⟨c, by omega⟩
theorem own_or1 (p : Int64) (hp : 0 ≤ p.toInt) : (p.toInt % 2 = 0 ∧ (p ||| 1).toInt = p.toInt + 1) ∨ (p.toInt % 2 = 1 ∧ (p ||| 1).toInt = p.toInt) := by
  have hr := rng64 p
  have o1 : (1 : Int64).toInt = 1 := rfl
  have even : ∀ a : Int64, 0 ≤ a.toInt → a.toInt % 2 = 0 → (a ||| 1).toInt = a.toInt + 1 := by
    intro a ha h2
    have q := c_orL a 1 1 (by decide) 2 (by decide) h2 (by decide) (by decide)
    have r1 := rng64 (a ||| 1)
    have r2 := rng64 a
    omega
  rcases (by omega : p.toInt % 2 = 0 ∨ p.toInt % 2 = 1) with h | h
  · exact Or.inl ⟨h, even p hp h⟩
  · refine Or.inr ⟨h, ?_⟩
    have q := c_lsub p 1
    have r1 := rng64 (p - 1)
    have e : ((p - 1) ||| 1).toInt = p.toInt := by rw [even (p - 1) (by omega) (by omega)]; omega
    have e2 : (p - 1) ||| 1 = p := Int64.toInt_inj.mp e
    have e3 : p ||| 1 = p := by
      rw [← e2, Int64.or_assoc]
      rfl
    rw [e3]
theorem own_pows (k : Nat) (hk : k < 19) : ∃ q : Int64, ([.long (1 : Int64), .long (10 : Int64), .long (100 : Int64), .long (1000 : Int64), .long (10000 : Int64), .long (100000 : Int64), .long (1000000 : Int64), .long (10000000 : Int64), .long (100000000 : Int64), .long (1000000000 : Int64), .long (10000000000 : Int64), .long (100000000000 : Int64), .long (1000000000000 : Int64), .long (10000000000000 : Int64), .long (100000000000000 : Int64), .long (1000000000000000 : Int64), .long (10000000000000000 : Int64), .long (100000000000000000 : Int64), .long (1000000000000000000 : Int64)] : List Value)[k]? = some (.long q) ∧ 1 ≤ q.toInt ∧ q.toInt ≤ 1000000000000000000 := by
  rcases (by omega : k = 0 ∨ k = 1 ∨ k = 2 ∨ k = 3 ∨ k = 4 ∨ k = 5 ∨ k = 6 ∨ k = 7 ∨ k = 8 ∨ k = 9 ∨ k = 10 ∨ k = 11 ∨ k = 12 ∨ k = 13 ∨ k = 14 ∨ k = 15 ∨ k = 16 ∨ k = 17 ∨ k = 18) with rfl | rfl | rfl | rfl | rfl | rfl | rfl | rfl | rfl | rfl | rfl | rfl | rfl | rfl | rfl | rfl | rfl | rfl | rfl
  all_goals exact ⟨_, rfl, by decide, by decide⟩

set_option maxRecDepth 65536 in
set_option maxHeartbeats 40000000 in
theorem m_i (l : Launch) (Z : State) (a0 : Array Value) (hw : ∀ d ∈ tables_1, d.before a0 Z = true) (i : Int32) (h0 : Heap) (n0 : Nat) (z0 : n0 ≤ h0.size) (hi : i.toInt ≠ 0) : Mt false l Z (⟨"java/lang/Integer", "numberOfLeadingZeros", "(I)I"⟩ : MethodName) jdk_33_method_47_code 2 (some .int) ({ frames := 0, cells := 0, slots := 0, locals := 0 } : Room) n0 (fun v h => ∃ (r : Int32) (c : Nat), v = some (.int r) ∧ h0 = h ∧ r.toInt = 31 - (c : Int) ∧ c ≤ 31 ∧ (2 : Int) ^ c ≤ i.toInt % 4294967296 ∧ i.toInt % 4294967296 < (2 : Int) ^ (c + 1)) h0 #[(.int i)] := by
  refine Mt.go (Ls := #[.val (.int i), .unset]) (by first | exact plainFor_of_name (by decide +kernel) | decide +kernel | (simp [plainFor]; done)) (fun m => by first | (simp [entryFrame, mkF, argsToLocals, Value.category]; done) | rfl) ?_
  show (Go false l ({ frames := 0, cells := 0, slots := 0, locals := 0 } : Room) Z (⟨"java/lang/Integer", "numberOfLeadingZeros", "(I)I"⟩ : MethodName) jdk_33_method_47_code 2 (some .int) n0 0 0 (fun v h => ∃ (r : Int32) (c : Nat), v = some (.int r) ∧ h0 = h ∧ r.toInt = 31 - (c : Int) ∧ c ≤ 31 ∧ (2 : Int) ^ c ≤ i.toInt % 4294967296 ∧ i.toInt % 4294967296 < (2 : Int) ^ (c + 1))) h0 0 0 0 #[.val (.int i), .unset] []
  have hri := rng32 i
  refine Go.iloadN (pc' := 1) d3_0 rfl rfl ?_
  refine Go.ifc (pc1 := 15) (pc2 := 4) d3_1 (by decide) (by decide) rfl (fun (c_1 : 0 < i.toInt) => ?_) (fun (c_1 : i.toInt ≤ 0) => ?_)
  · refine Go.bipush (pc' := 17) (v := (31 : Int32)) d3_15 rfl rfl ?_
    refine Go.istoreN (pc' := 18) (Ls' := #[.val (.int i), .val (.int (31 : Int32))]) d3_17 rfl rfl ?_
    refine Go.iloadN (pc' := 19) d3_18 rfl rfl ?_
    refine Go.ldcW (pc' := 22) (hw _ (List.mem_of_getElem? (i := 33) rfl)) d3_19 rfl ?_
    refine Go.icmp (pc1 := 33) (pc2 := 25) d3_22 (by decide) (by decide) rfl (fun (c_2 : i.toInt < (65536 : Int)) => ?_) (fun (c_2 : (65536 : Int) ≤ i.toInt) => ?_)
    · refine Go.iloadN (pc' := 34) d3_33 rfl rfl ?_
      refine Go.sipush (pc' := 37) (v := (256 : Int32)) d3_34 rfl rfl ?_
      refine Go.icmp (pc1 := 48) (pc2 := 40) d3_37 (by decide) (by decide) rfl (fun (c_3 : i.toInt < (256 : Int)) => ?_) (fun (c_3 : (256 : Int) ≤ i.toInt) => ?_)
      · refine Go.iloadN (pc' := 49) d3_48 rfl rfl ?_
        refine Go.bipush (pc' := 51) (v := (16 : Int32)) d3_49 rfl rfl ?_
        refine Go.icmp (pc1 := 61) (pc2 := 54) d3_51 (by decide) (by decide) rfl (fun (c_4 : i.toInt < (16 : Int)) => ?_) (fun (c_4 : (16 : Int) ≤ i.toInt) => ?_)
        · refine Go.iloadN (pc' := 62) d3_61 rfl rfl ?_
          refine Go.iconst (pc' := 63) (v := (4 : Int32)) d3_62 rfl rfl ?_
          refine Go.icmp (pc1 := 73) (pc2 := 66) d3_63 (by decide) (by decide) rfl (fun (c_5 : i.toInt < (4 : Int)) => ?_) (fun (c_5 : (4 : Int) ≤ i.toInt) => ?_)
          · refine Go.iloadN (pc' := 74) d3_73 rfl rfl ?_
            refine Go.iloadN (pc' := 75) d3_74 rfl rfl ?_
            refine Go.iconst (pc' := 76) (v := (1 : Int32)) d3_75 rfl rfl ?_
            refine Go.iushr (pc' := 77) d3_76 rfl ?_
            refine Go.isub (pc' := 78) d3_77 rfl ?_
            generalize ev_6 : (31 : Int32) - ((i.toUInt32 >>> ((1 : Int32) &&& 31).toUInt32).toInt32) = v_6
            have k_7 : v_6.toInt = 31 - i.toInt / 2 := by
              rw [← ev_6]
              have : (31 : Int32).toInt = 31 := by decide
              have : (1 : Int32).toInt = 1 := by decide
              have := c_iushr i (1 : Int32) 1 (by decide) (by decide)
              have := rng32 ((i.toUInt32 >>> ((1 : Int32) &&& 31).toUInt32).toInt32)
              have := rng32 i
              have := c_isub (31 : Int32) ((i.toUInt32 >>> ((1 : Int32) &&& 31).toUInt32).toInt32)
              have := rng32 ((31 : Int32) - ((i.toUInt32 >>> ((1 : Int32) &&& 31).toUInt32).toInt32))
              omega
            rcases (by omega : i.toInt = 1 ∨ i.toInt = 2 ∨ i.toInt = 3) with hq | hq | hq
            · exact Go.retI d3_78 rfl ⟨_, 0, rfl, rfl, by omega, by decide, (by have : (2 : Int) ^ 0 = 1 := (by decide); omega), (by have : (2 : Int) ^ (0 + 1) = 2 := (by decide); omega)⟩ (by decide) (by decide)
            · exact Go.retI d3_78 rfl ⟨_, 1, rfl, rfl, by omega, by decide, (by have : (2 : Int) ^ 1 = 2 := (by decide); omega), (by have : (2 : Int) ^ (1 + 1) = 4 := (by decide); omega)⟩ (by decide) (by decide)
            · exact Go.retI d3_78 rfl ⟨_, 1, rfl, rfl, by omega, by decide, (by have : (2 : Int) ^ 1 = 2 := (by decide); omega), (by have : (2 : Int) ^ (1 + 1) = 4 := (by decide); omega)⟩ (by decide) (by decide)
          · refine Go.iinc (pc' := 69) (w := (29 : Int32)) (Ls' := #[.val (.int i), .val (.int (29 : Int32))]) d3_66 rfl rfl rfl rfl ?_
            refine Go.iloadN (pc' := 70) d3_69 rfl rfl ?_
            refine Go.iconst (pc' := 71) (v := (2 : Int32)) d3_70 rfl rfl ?_
            refine Go.iushr (pc' := 72) d3_71 rfl ?_
            generalize ev_8 : (i.toUInt32 >>> ((2 : Int32) &&& 31).toUInt32).toInt32 = v_8
            have k_9 : v_8.toInt = i.toInt / 4 := by
              rw [← ev_8]
              have : (2 : Int32).toInt = 2 := by decide
              have := c_iushr i (2 : Int32) 2 (by decide) (by decide)
              have := rng32 ((i.toUInt32 >>> ((2 : Int32) &&& 31).toUInt32).toInt32)
              have := rng32 i
              omega
            refine Go.istoreN (pc' := 73) (Ls' := #[.val (.int v_8), .val (.int (29 : Int32))]) d3_72 rfl rfl ?_
            refine Go.iloadN (pc' := 74) d3_73 rfl rfl ?_
            refine Go.iloadN (pc' := 75) d3_74 rfl rfl ?_
            refine Go.iconst (pc' := 76) (v := (1 : Int32)) d3_75 rfl rfl ?_
            refine Go.iushr (pc' := 77) d3_76 rfl ?_
            refine Go.isub (pc' := 78) d3_77 rfl ?_
            generalize ev_10 : (29 : Int32) - ((v_8.toUInt32 >>> ((1 : Int32) &&& 31).toUInt32).toInt32) = v_10
            have k_11 : v_10.toInt = 29 - v_8.toInt / 2 := by
              rw [← ev_10]
              have : (29 : Int32).toInt = 29 := by decide
              have : (1 : Int32).toInt = 1 := by decide
              have := c_iushr v_8 (1 : Int32) 1 (by decide) (by decide)
              have := rng32 ((v_8.toUInt32 >>> ((1 : Int32) &&& 31).toUInt32).toInt32)
              have := rng32 v_8
              have := c_isub (29 : Int32) ((v_8.toUInt32 >>> ((1 : Int32) &&& 31).toUInt32).toInt32)
              have := rng32 ((29 : Int32) - ((v_8.toUInt32 >>> ((1 : Int32) &&& 31).toUInt32).toInt32))
              omega
            rcases (by omega : v_8.toInt = 1 ∨ v_8.toInt = 2 ∨ v_8.toInt = 3) with hq | hq | hq
            · exact Go.retI d3_78 rfl ⟨_, 2, rfl, rfl, by omega, by decide, (by have : (2 : Int) ^ 2 = 4 := (by decide); omega), (by have : (2 : Int) ^ (2 + 1) = 8 := (by decide); omega)⟩ (by decide) (by decide)
            · exact Go.retI d3_78 rfl ⟨_, 3, rfl, rfl, by omega, by decide, (by have : (2 : Int) ^ 3 = 8 := (by decide); omega), (by have : (2 : Int) ^ (3 + 1) = 16 := (by decide); omega)⟩ (by decide) (by decide)
            · exact Go.retI d3_78 rfl ⟨_, 3, rfl, rfl, by omega, by decide, (by have : (2 : Int) ^ 3 = 8 := (by decide); omega), (by have : (2 : Int) ^ (3 + 1) = 16 := (by decide); omega)⟩ (by decide) (by decide)
        · refine Go.iinc (pc' := 57) (w := (27 : Int32)) (Ls' := #[.val (.int i), .val (.int (27 : Int32))]) d3_54 rfl rfl rfl rfl ?_
          refine Go.iloadN (pc' := 58) d3_57 rfl rfl ?_
          refine Go.iconst (pc' := 59) (v := (4 : Int32)) d3_58 rfl rfl ?_
          refine Go.iushr (pc' := 60) d3_59 rfl ?_
          generalize ev_12 : (i.toUInt32 >>> ((4 : Int32) &&& 31).toUInt32).toInt32 = v_12
          have k_13 : v_12.toInt = i.toInt / 16 := by
            rw [← ev_12]
            have : (4 : Int32).toInt = 4 := by decide
            have := c_iushr i (4 : Int32) 4 (by decide) (by decide)
            have := rng32 ((i.toUInt32 >>> ((4 : Int32) &&& 31).toUInt32).toInt32)
            have := rng32 i
            omega
          refine Go.istoreN (pc' := 61) (Ls' := #[.val (.int v_12), .val (.int (27 : Int32))]) d3_60 rfl rfl ?_
          refine Go.iloadN (pc' := 62) d3_61 rfl rfl ?_
          refine Go.iconst (pc' := 63) (v := (4 : Int32)) d3_62 rfl rfl ?_
          refine Go.icmp (pc1 := 73) (pc2 := 66) d3_63 (by decide) (by decide) rfl (fun (c_14 : v_12.toInt < (4 : Int)) => ?_) (fun (c_14 : (4 : Int) ≤ v_12.toInt) => ?_)
          · refine Go.iloadN (pc' := 74) d3_73 rfl rfl ?_
            refine Go.iloadN (pc' := 75) d3_74 rfl rfl ?_
            refine Go.iconst (pc' := 76) (v := (1 : Int32)) d3_75 rfl rfl ?_
            refine Go.iushr (pc' := 77) d3_76 rfl ?_
            refine Go.isub (pc' := 78) d3_77 rfl ?_
            generalize ev_15 : (27 : Int32) - ((v_12.toUInt32 >>> ((1 : Int32) &&& 31).toUInt32).toInt32) = v_15
            have k_16 : v_15.toInt = 27 - v_12.toInt / 2 := by
              rw [← ev_15]
              have : (27 : Int32).toInt = 27 := by decide
              have : (1 : Int32).toInt = 1 := by decide
              have := c_iushr v_12 (1 : Int32) 1 (by decide) (by decide)
              have := rng32 ((v_12.toUInt32 >>> ((1 : Int32) &&& 31).toUInt32).toInt32)
              have := rng32 v_12
              have := c_isub (27 : Int32) ((v_12.toUInt32 >>> ((1 : Int32) &&& 31).toUInt32).toInt32)
              have := rng32 ((27 : Int32) - ((v_12.toUInt32 >>> ((1 : Int32) &&& 31).toUInt32).toInt32))
              omega
            rcases (by omega : v_12.toInt = 1 ∨ v_12.toInt = 2 ∨ v_12.toInt = 3) with hq | hq | hq
            · exact Go.retI d3_78 rfl ⟨_, 4, rfl, rfl, by omega, by decide, (by have : (2 : Int) ^ 4 = 16 := (by decide); omega), (by have : (2 : Int) ^ (4 + 1) = 32 := (by decide); omega)⟩ (by decide) (by decide)
            · exact Go.retI d3_78 rfl ⟨_, 5, rfl, rfl, by omega, by decide, (by have : (2 : Int) ^ 5 = 32 := (by decide); omega), (by have : (2 : Int) ^ (5 + 1) = 64 := (by decide); omega)⟩ (by decide) (by decide)
            · exact Go.retI d3_78 rfl ⟨_, 5, rfl, rfl, by omega, by decide, (by have : (2 : Int) ^ 5 = 32 := (by decide); omega), (by have : (2 : Int) ^ (5 + 1) = 64 := (by decide); omega)⟩ (by decide) (by decide)
          · refine Go.iinc (pc' := 69) (w := (25 : Int32)) (Ls' := #[.val (.int v_12), .val (.int (25 : Int32))]) d3_66 rfl rfl rfl rfl ?_
            refine Go.iloadN (pc' := 70) d3_69 rfl rfl ?_
            refine Go.iconst (pc' := 71) (v := (2 : Int32)) d3_70 rfl rfl ?_
            refine Go.iushr (pc' := 72) d3_71 rfl ?_
            generalize ev_17 : (v_12.toUInt32 >>> ((2 : Int32) &&& 31).toUInt32).toInt32 = v_17
            have k_18 : v_17.toInt = v_12.toInt / 4 := by
              rw [← ev_17]
              have : (2 : Int32).toInt = 2 := by decide
              have := c_iushr v_12 (2 : Int32) 2 (by decide) (by decide)
              have := rng32 ((v_12.toUInt32 >>> ((2 : Int32) &&& 31).toUInt32).toInt32)
              have := rng32 v_12
              omega
            refine Go.istoreN (pc' := 73) (Ls' := #[.val (.int v_17), .val (.int (25 : Int32))]) d3_72 rfl rfl ?_
            refine Go.iloadN (pc' := 74) d3_73 rfl rfl ?_
            refine Go.iloadN (pc' := 75) d3_74 rfl rfl ?_
            refine Go.iconst (pc' := 76) (v := (1 : Int32)) d3_75 rfl rfl ?_
            refine Go.iushr (pc' := 77) d3_76 rfl ?_
            refine Go.isub (pc' := 78) d3_77 rfl ?_
            generalize ev_19 : (25 : Int32) - ((v_17.toUInt32 >>> ((1 : Int32) &&& 31).toUInt32).toInt32) = v_19
            have k_20 : v_19.toInt = 25 - v_17.toInt / 2 := by
              rw [← ev_19]
              have : (25 : Int32).toInt = 25 := by decide
              have : (1 : Int32).toInt = 1 := by decide
              have := c_iushr v_17 (1 : Int32) 1 (by decide) (by decide)
              have := rng32 ((v_17.toUInt32 >>> ((1 : Int32) &&& 31).toUInt32).toInt32)
              have := rng32 v_17
              have := c_isub (25 : Int32) ((v_17.toUInt32 >>> ((1 : Int32) &&& 31).toUInt32).toInt32)
              have := rng32 ((25 : Int32) - ((v_17.toUInt32 >>> ((1 : Int32) &&& 31).toUInt32).toInt32))
              omega
            rcases (by omega : v_17.toInt = 1 ∨ v_17.toInt = 2 ∨ v_17.toInt = 3) with hq | hq | hq
            · exact Go.retI d3_78 rfl ⟨_, 6, rfl, rfl, by omega, by decide, (by have : (2 : Int) ^ 6 = 64 := (by decide); omega), (by have : (2 : Int) ^ (6 + 1) = 128 := (by decide); omega)⟩ (by decide) (by decide)
            · exact Go.retI d3_78 rfl ⟨_, 7, rfl, rfl, by omega, by decide, (by have : (2 : Int) ^ 7 = 128 := (by decide); omega), (by have : (2 : Int) ^ (7 + 1) = 256 := (by decide); omega)⟩ (by decide) (by decide)
            · exact Go.retI d3_78 rfl ⟨_, 7, rfl, rfl, by omega, by decide, (by have : (2 : Int) ^ 7 = 128 := (by decide); omega), (by have : (2 : Int) ^ (7 + 1) = 256 := (by decide); omega)⟩ (by decide) (by decide)
      · refine Go.iinc (pc' := 43) (w := (23 : Int32)) (Ls' := #[.val (.int i), .val (.int (23 : Int32))]) d3_40 rfl rfl rfl rfl ?_
        refine Go.iloadN (pc' := 44) d3_43 rfl rfl ?_
        refine Go.bipush (pc' := 46) (v := (8 : Int32)) d3_44 rfl rfl ?_
        refine Go.iushr (pc' := 47) d3_46 rfl ?_
        generalize ev_21 : (i.toUInt32 >>> ((8 : Int32) &&& 31).toUInt32).toInt32 = v_21
        have k_22 : v_21.toInt = i.toInt / 256 := by
          rw [← ev_21]
          have : (8 : Int32).toInt = 8 := by decide
          have := c_iushr i (8 : Int32) 8 (by decide) (by decide)
          have := rng32 ((i.toUInt32 >>> ((8 : Int32) &&& 31).toUInt32).toInt32)
          have := rng32 i
          omega
        refine Go.istoreN (pc' := 48) (Ls' := #[.val (.int v_21), .val (.int (23 : Int32))]) d3_47 rfl rfl ?_
        refine Go.iloadN (pc' := 49) d3_48 rfl rfl ?_
        refine Go.bipush (pc' := 51) (v := (16 : Int32)) d3_49 rfl rfl ?_
        refine Go.icmp (pc1 := 61) (pc2 := 54) d3_51 (by decide) (by decide) rfl (fun (c_23 : v_21.toInt < (16 : Int)) => ?_) (fun (c_23 : (16 : Int) ≤ v_21.toInt) => ?_)
        · refine Go.iloadN (pc' := 62) d3_61 rfl rfl ?_
          refine Go.iconst (pc' := 63) (v := (4 : Int32)) d3_62 rfl rfl ?_
          refine Go.icmp (pc1 := 73) (pc2 := 66) d3_63 (by decide) (by decide) rfl (fun (c_24 : v_21.toInt < (4 : Int)) => ?_) (fun (c_24 : (4 : Int) ≤ v_21.toInt) => ?_)
          · refine Go.iloadN (pc' := 74) d3_73 rfl rfl ?_
            refine Go.iloadN (pc' := 75) d3_74 rfl rfl ?_
            refine Go.iconst (pc' := 76) (v := (1 : Int32)) d3_75 rfl rfl ?_
            refine Go.iushr (pc' := 77) d3_76 rfl ?_
            refine Go.isub (pc' := 78) d3_77 rfl ?_
            generalize ev_25 : (23 : Int32) - ((v_21.toUInt32 >>> ((1 : Int32) &&& 31).toUInt32).toInt32) = v_25
            have k_26 : v_25.toInt = 23 - v_21.toInt / 2 := by
              rw [← ev_25]
              have : (23 : Int32).toInt = 23 := by decide
              have : (1 : Int32).toInt = 1 := by decide
              have := c_iushr v_21 (1 : Int32) 1 (by decide) (by decide)
              have := rng32 ((v_21.toUInt32 >>> ((1 : Int32) &&& 31).toUInt32).toInt32)
              have := rng32 v_21
              have := c_isub (23 : Int32) ((v_21.toUInt32 >>> ((1 : Int32) &&& 31).toUInt32).toInt32)
              have := rng32 ((23 : Int32) - ((v_21.toUInt32 >>> ((1 : Int32) &&& 31).toUInt32).toInt32))
              omega
            rcases (by omega : v_21.toInt = 1 ∨ v_21.toInt = 2 ∨ v_21.toInt = 3) with hq | hq | hq
            · exact Go.retI d3_78 rfl ⟨_, 8, rfl, rfl, by omega, by decide, (by have : (2 : Int) ^ 8 = 256 := (by decide); omega), (by have : (2 : Int) ^ (8 + 1) = 512 := (by decide); omega)⟩ (by decide) (by decide)
            · exact Go.retI d3_78 rfl ⟨_, 9, rfl, rfl, by omega, by decide, (by have : (2 : Int) ^ 9 = 512 := (by decide); omega), (by have : (2 : Int) ^ (9 + 1) = 1024 := (by decide); omega)⟩ (by decide) (by decide)
            · exact Go.retI d3_78 rfl ⟨_, 9, rfl, rfl, by omega, by decide, (by have : (2 : Int) ^ 9 = 512 := (by decide); omega), (by have : (2 : Int) ^ (9 + 1) = 1024 := (by decide); omega)⟩ (by decide) (by decide)
          · refine Go.iinc (pc' := 69) (w := (21 : Int32)) (Ls' := #[.val (.int v_21), .val (.int (21 : Int32))]) d3_66 rfl rfl rfl rfl ?_
            refine Go.iloadN (pc' := 70) d3_69 rfl rfl ?_
            refine Go.iconst (pc' := 71) (v := (2 : Int32)) d3_70 rfl rfl ?_
            refine Go.iushr (pc' := 72) d3_71 rfl ?_
            generalize ev_27 : (v_21.toUInt32 >>> ((2 : Int32) &&& 31).toUInt32).toInt32 = v_27
            have k_28 : v_27.toInt = v_21.toInt / 4 := by
              rw [← ev_27]
              have : (2 : Int32).toInt = 2 := by decide
              have := c_iushr v_21 (2 : Int32) 2 (by decide) (by decide)
              have := rng32 ((v_21.toUInt32 >>> ((2 : Int32) &&& 31).toUInt32).toInt32)
              have := rng32 v_21
              omega
            refine Go.istoreN (pc' := 73) (Ls' := #[.val (.int v_27), .val (.int (21 : Int32))]) d3_72 rfl rfl ?_
            refine Go.iloadN (pc' := 74) d3_73 rfl rfl ?_
            refine Go.iloadN (pc' := 75) d3_74 rfl rfl ?_
            refine Go.iconst (pc' := 76) (v := (1 : Int32)) d3_75 rfl rfl ?_
            refine Go.iushr (pc' := 77) d3_76 rfl ?_
            refine Go.isub (pc' := 78) d3_77 rfl ?_
            generalize ev_29 : (21 : Int32) - ((v_27.toUInt32 >>> ((1 : Int32) &&& 31).toUInt32).toInt32) = v_29
            have k_30 : v_29.toInt = 21 - v_27.toInt / 2 := by
              rw [← ev_29]
              have : (21 : Int32).toInt = 21 := by decide
              have : (1 : Int32).toInt = 1 := by decide
              have := c_iushr v_27 (1 : Int32) 1 (by decide) (by decide)
              have := rng32 ((v_27.toUInt32 >>> ((1 : Int32) &&& 31).toUInt32).toInt32)
              have := rng32 v_27
              have := c_isub (21 : Int32) ((v_27.toUInt32 >>> ((1 : Int32) &&& 31).toUInt32).toInt32)
              have := rng32 ((21 : Int32) - ((v_27.toUInt32 >>> ((1 : Int32) &&& 31).toUInt32).toInt32))
              omega
            rcases (by omega : v_27.toInt = 1 ∨ v_27.toInt = 2 ∨ v_27.toInt = 3) with hq | hq | hq
            · exact Go.retI d3_78 rfl ⟨_, 10, rfl, rfl, by omega, by decide, (by have : (2 : Int) ^ 10 = 1024 := (by decide); omega), (by have : (2 : Int) ^ (10 + 1) = 2048 := (by decide); omega)⟩ (by decide) (by decide)
            · exact Go.retI d3_78 rfl ⟨_, 11, rfl, rfl, by omega, by decide, (by have : (2 : Int) ^ 11 = 2048 := (by decide); omega), (by have : (2 : Int) ^ (11 + 1) = 4096 := (by decide); omega)⟩ (by decide) (by decide)
            · exact Go.retI d3_78 rfl ⟨_, 11, rfl, rfl, by omega, by decide, (by have : (2 : Int) ^ 11 = 2048 := (by decide); omega), (by have : (2 : Int) ^ (11 + 1) = 4096 := (by decide); omega)⟩ (by decide) (by decide)
        · refine Go.iinc (pc' := 57) (w := (19 : Int32)) (Ls' := #[.val (.int v_21), .val (.int (19 : Int32))]) d3_54 rfl rfl rfl rfl ?_
          refine Go.iloadN (pc' := 58) d3_57 rfl rfl ?_
          refine Go.iconst (pc' := 59) (v := (4 : Int32)) d3_58 rfl rfl ?_
          refine Go.iushr (pc' := 60) d3_59 rfl ?_
          generalize ev_31 : (v_21.toUInt32 >>> ((4 : Int32) &&& 31).toUInt32).toInt32 = v_31
          have k_32 : v_31.toInt = v_21.toInt / 16 := by
            rw [← ev_31]
            have : (4 : Int32).toInt = 4 := by decide
            have := c_iushr v_21 (4 : Int32) 4 (by decide) (by decide)
            have := rng32 ((v_21.toUInt32 >>> ((4 : Int32) &&& 31).toUInt32).toInt32)
            have := rng32 v_21
            omega
          refine Go.istoreN (pc' := 61) (Ls' := #[.val (.int v_31), .val (.int (19 : Int32))]) d3_60 rfl rfl ?_
          refine Go.iloadN (pc' := 62) d3_61 rfl rfl ?_
          refine Go.iconst (pc' := 63) (v := (4 : Int32)) d3_62 rfl rfl ?_
          refine Go.icmp (pc1 := 73) (pc2 := 66) d3_63 (by decide) (by decide) rfl (fun (c_33 : v_31.toInt < (4 : Int)) => ?_) (fun (c_33 : (4 : Int) ≤ v_31.toInt) => ?_)
          · refine Go.iloadN (pc' := 74) d3_73 rfl rfl ?_
            refine Go.iloadN (pc' := 75) d3_74 rfl rfl ?_
            refine Go.iconst (pc' := 76) (v := (1 : Int32)) d3_75 rfl rfl ?_
            refine Go.iushr (pc' := 77) d3_76 rfl ?_
            refine Go.isub (pc' := 78) d3_77 rfl ?_
            generalize ev_34 : (19 : Int32) - ((v_31.toUInt32 >>> ((1 : Int32) &&& 31).toUInt32).toInt32) = v_34
            have k_35 : v_34.toInt = 19 - v_31.toInt / 2 := by
              rw [← ev_34]
              have : (19 : Int32).toInt = 19 := by decide
              have : (1 : Int32).toInt = 1 := by decide
              have := c_iushr v_31 (1 : Int32) 1 (by decide) (by decide)
              have := rng32 ((v_31.toUInt32 >>> ((1 : Int32) &&& 31).toUInt32).toInt32)
              have := rng32 v_31
              have := c_isub (19 : Int32) ((v_31.toUInt32 >>> ((1 : Int32) &&& 31).toUInt32).toInt32)
              have := rng32 ((19 : Int32) - ((v_31.toUInt32 >>> ((1 : Int32) &&& 31).toUInt32).toInt32))
              omega
            rcases (by omega : v_31.toInt = 1 ∨ v_31.toInt = 2 ∨ v_31.toInt = 3) with hq | hq | hq
            · exact Go.retI d3_78 rfl ⟨_, 12, rfl, rfl, by omega, by decide, (by have : (2 : Int) ^ 12 = 4096 := (by decide); omega), (by have : (2 : Int) ^ (12 + 1) = 8192 := (by decide); omega)⟩ (by decide) (by decide)
            · exact Go.retI d3_78 rfl ⟨_, 13, rfl, rfl, by omega, by decide, (by have : (2 : Int) ^ 13 = 8192 := (by decide); omega), (by have : (2 : Int) ^ (13 + 1) = 16384 := (by decide); omega)⟩ (by decide) (by decide)
            · exact Go.retI d3_78 rfl ⟨_, 13, rfl, rfl, by omega, by decide, (by have : (2 : Int) ^ 13 = 8192 := (by decide); omega), (by have : (2 : Int) ^ (13 + 1) = 16384 := (by decide); omega)⟩ (by decide) (by decide)
          · refine Go.iinc (pc' := 69) (w := (17 : Int32)) (Ls' := #[.val (.int v_31), .val (.int (17 : Int32))]) d3_66 rfl rfl rfl rfl ?_
            refine Go.iloadN (pc' := 70) d3_69 rfl rfl ?_
            refine Go.iconst (pc' := 71) (v := (2 : Int32)) d3_70 rfl rfl ?_
            refine Go.iushr (pc' := 72) d3_71 rfl ?_
            generalize ev_36 : (v_31.toUInt32 >>> ((2 : Int32) &&& 31).toUInt32).toInt32 = v_36
            have k_37 : v_36.toInt = v_31.toInt / 4 := by
              rw [← ev_36]
              have : (2 : Int32).toInt = 2 := by decide
              have := c_iushr v_31 (2 : Int32) 2 (by decide) (by decide)
              have := rng32 ((v_31.toUInt32 >>> ((2 : Int32) &&& 31).toUInt32).toInt32)
              have := rng32 v_31
              omega
            refine Go.istoreN (pc' := 73) (Ls' := #[.val (.int v_36), .val (.int (17 : Int32))]) d3_72 rfl rfl ?_
            refine Go.iloadN (pc' := 74) d3_73 rfl rfl ?_
            refine Go.iloadN (pc' := 75) d3_74 rfl rfl ?_
            refine Go.iconst (pc' := 76) (v := (1 : Int32)) d3_75 rfl rfl ?_
            refine Go.iushr (pc' := 77) d3_76 rfl ?_
            refine Go.isub (pc' := 78) d3_77 rfl ?_
            generalize ev_38 : (17 : Int32) - ((v_36.toUInt32 >>> ((1 : Int32) &&& 31).toUInt32).toInt32) = v_38
            have k_39 : v_38.toInt = 17 - v_36.toInt / 2 := by
              rw [← ev_38]
              have : (17 : Int32).toInt = 17 := by decide
              have : (1 : Int32).toInt = 1 := by decide
              have := c_iushr v_36 (1 : Int32) 1 (by decide) (by decide)
              have := rng32 ((v_36.toUInt32 >>> ((1 : Int32) &&& 31).toUInt32).toInt32)
              have := rng32 v_36
              have := c_isub (17 : Int32) ((v_36.toUInt32 >>> ((1 : Int32) &&& 31).toUInt32).toInt32)
              have := rng32 ((17 : Int32) - ((v_36.toUInt32 >>> ((1 : Int32) &&& 31).toUInt32).toInt32))
              omega
            rcases (by omega : v_36.toInt = 1 ∨ v_36.toInt = 2 ∨ v_36.toInt = 3) with hq | hq | hq
            · exact Go.retI d3_78 rfl ⟨_, 14, rfl, rfl, by omega, by decide, (by have : (2 : Int) ^ 14 = 16384 := (by decide); omega), (by have : (2 : Int) ^ (14 + 1) = 32768 := (by decide); omega)⟩ (by decide) (by decide)
            · exact Go.retI d3_78 rfl ⟨_, 15, rfl, rfl, by omega, by decide, (by have : (2 : Int) ^ 15 = 32768 := (by decide); omega), (by have : (2 : Int) ^ (15 + 1) = 65536 := (by decide); omega)⟩ (by decide) (by decide)
            · exact Go.retI d3_78 rfl ⟨_, 15, rfl, rfl, by omega, by decide, (by have : (2 : Int) ^ 15 = 32768 := (by decide); omega), (by have : (2 : Int) ^ (15 + 1) = 65536 := (by decide); omega)⟩ (by decide) (by decide)
    · refine Go.iinc (pc' := 28) (w := (15 : Int32)) (Ls' := #[.val (.int i), .val (.int (15 : Int32))]) d3_25 rfl rfl rfl rfl ?_
      refine Go.iloadN (pc' := 29) d3_28 rfl rfl ?_
      refine Go.bipush (pc' := 31) (v := (16 : Int32)) d3_29 rfl rfl ?_
      refine Go.iushr (pc' := 32) d3_31 rfl ?_
      generalize ev_40 : (i.toUInt32 >>> ((16 : Int32) &&& 31).toUInt32).toInt32 = v_40
      have k_41 : v_40.toInt = i.toInt / 65536 := by
        rw [← ev_40]
        have : (16 : Int32).toInt = 16 := by decide
        have := c_iushr i (16 : Int32) 16 (by decide) (by decide)
        have := rng32 ((i.toUInt32 >>> ((16 : Int32) &&& 31).toUInt32).toInt32)
        have := rng32 i
        omega
      refine Go.istoreN (pc' := 33) (Ls' := #[.val (.int v_40), .val (.int (15 : Int32))]) d3_32 rfl rfl ?_
      refine Go.iloadN (pc' := 34) d3_33 rfl rfl ?_
      refine Go.sipush (pc' := 37) (v := (256 : Int32)) d3_34 rfl rfl ?_
      refine Go.icmp (pc1 := 48) (pc2 := 40) d3_37 (by decide) (by decide) rfl (fun (c_42 : v_40.toInt < (256 : Int)) => ?_) (fun (c_42 : (256 : Int) ≤ v_40.toInt) => ?_)
      · refine Go.iloadN (pc' := 49) d3_48 rfl rfl ?_
        refine Go.bipush (pc' := 51) (v := (16 : Int32)) d3_49 rfl rfl ?_
        refine Go.icmp (pc1 := 61) (pc2 := 54) d3_51 (by decide) (by decide) rfl (fun (c_43 : v_40.toInt < (16 : Int)) => ?_) (fun (c_43 : (16 : Int) ≤ v_40.toInt) => ?_)
        · refine Go.iloadN (pc' := 62) d3_61 rfl rfl ?_
          refine Go.iconst (pc' := 63) (v := (4 : Int32)) d3_62 rfl rfl ?_
          refine Go.icmp (pc1 := 73) (pc2 := 66) d3_63 (by decide) (by decide) rfl (fun (c_44 : v_40.toInt < (4 : Int)) => ?_) (fun (c_44 : (4 : Int) ≤ v_40.toInt) => ?_)
          · refine Go.iloadN (pc' := 74) d3_73 rfl rfl ?_
            refine Go.iloadN (pc' := 75) d3_74 rfl rfl ?_
            refine Go.iconst (pc' := 76) (v := (1 : Int32)) d3_75 rfl rfl ?_
            refine Go.iushr (pc' := 77) d3_76 rfl ?_
            refine Go.isub (pc' := 78) d3_77 rfl ?_
            generalize ev_45 : (15 : Int32) - ((v_40.toUInt32 >>> ((1 : Int32) &&& 31).toUInt32).toInt32) = v_45
            have k_46 : v_45.toInt = 15 - v_40.toInt / 2 := by
              rw [← ev_45]
              have : (15 : Int32).toInt = 15 := by decide
              have : (1 : Int32).toInt = 1 := by decide
              have := c_iushr v_40 (1 : Int32) 1 (by decide) (by decide)
              have := rng32 ((v_40.toUInt32 >>> ((1 : Int32) &&& 31).toUInt32).toInt32)
              have := rng32 v_40
              have := c_isub (15 : Int32) ((v_40.toUInt32 >>> ((1 : Int32) &&& 31).toUInt32).toInt32)
              have := rng32 ((15 : Int32) - ((v_40.toUInt32 >>> ((1 : Int32) &&& 31).toUInt32).toInt32))
              omega
            rcases (by omega : v_40.toInt = 1 ∨ v_40.toInt = 2 ∨ v_40.toInt = 3) with hq | hq | hq
            · exact Go.retI d3_78 rfl ⟨_, 16, rfl, rfl, by omega, by decide, (by have : (2 : Int) ^ 16 = 65536 := (by decide); omega), (by have : (2 : Int) ^ (16 + 1) = 131072 := (by decide); omega)⟩ (by decide) (by decide)
            · exact Go.retI d3_78 rfl ⟨_, 17, rfl, rfl, by omega, by decide, (by have : (2 : Int) ^ 17 = 131072 := (by decide); omega), (by have : (2 : Int) ^ (17 + 1) = 262144 := (by decide); omega)⟩ (by decide) (by decide)
            · exact Go.retI d3_78 rfl ⟨_, 17, rfl, rfl, by omega, by decide, (by have : (2 : Int) ^ 17 = 131072 := (by decide); omega), (by have : (2 : Int) ^ (17 + 1) = 262144 := (by decide); omega)⟩ (by decide) (by decide)
          · refine Go.iinc (pc' := 69) (w := (13 : Int32)) (Ls' := #[.val (.int v_40), .val (.int (13 : Int32))]) d3_66 rfl rfl rfl rfl ?_
            refine Go.iloadN (pc' := 70) d3_69 rfl rfl ?_
            refine Go.iconst (pc' := 71) (v := (2 : Int32)) d3_70 rfl rfl ?_
            refine Go.iushr (pc' := 72) d3_71 rfl ?_
            generalize ev_47 : (v_40.toUInt32 >>> ((2 : Int32) &&& 31).toUInt32).toInt32 = v_47
            have k_48 : v_47.toInt = v_40.toInt / 4 := by
              rw [← ev_47]
              have : (2 : Int32).toInt = 2 := by decide
              have := c_iushr v_40 (2 : Int32) 2 (by decide) (by decide)
              have := rng32 ((v_40.toUInt32 >>> ((2 : Int32) &&& 31).toUInt32).toInt32)
              have := rng32 v_40
              omega
            refine Go.istoreN (pc' := 73) (Ls' := #[.val (.int v_47), .val (.int (13 : Int32))]) d3_72 rfl rfl ?_
            refine Go.iloadN (pc' := 74) d3_73 rfl rfl ?_
            refine Go.iloadN (pc' := 75) d3_74 rfl rfl ?_
            refine Go.iconst (pc' := 76) (v := (1 : Int32)) d3_75 rfl rfl ?_
            refine Go.iushr (pc' := 77) d3_76 rfl ?_
            refine Go.isub (pc' := 78) d3_77 rfl ?_
            generalize ev_49 : (13 : Int32) - ((v_47.toUInt32 >>> ((1 : Int32) &&& 31).toUInt32).toInt32) = v_49
            have k_50 : v_49.toInt = 13 - v_47.toInt / 2 := by
              rw [← ev_49]
              have : (13 : Int32).toInt = 13 := by decide
              have : (1 : Int32).toInt = 1 := by decide
              have := c_iushr v_47 (1 : Int32) 1 (by decide) (by decide)
              have := rng32 ((v_47.toUInt32 >>> ((1 : Int32) &&& 31).toUInt32).toInt32)
              have := rng32 v_47
              have := c_isub (13 : Int32) ((v_47.toUInt32 >>> ((1 : Int32) &&& 31).toUInt32).toInt32)
              have := rng32 ((13 : Int32) - ((v_47.toUInt32 >>> ((1 : Int32) &&& 31).toUInt32).toInt32))
              omega
            rcases (by omega : v_47.toInt = 1 ∨ v_47.toInt = 2 ∨ v_47.toInt = 3) with hq | hq | hq
            · exact Go.retI d3_78 rfl ⟨_, 18, rfl, rfl, by omega, by decide, (by have : (2 : Int) ^ 18 = 262144 := (by decide); omega), (by have : (2 : Int) ^ (18 + 1) = 524288 := (by decide); omega)⟩ (by decide) (by decide)
            · exact Go.retI d3_78 rfl ⟨_, 19, rfl, rfl, by omega, by decide, (by have : (2 : Int) ^ 19 = 524288 := (by decide); omega), (by have : (2 : Int) ^ (19 + 1) = 1048576 := (by decide); omega)⟩ (by decide) (by decide)
            · exact Go.retI d3_78 rfl ⟨_, 19, rfl, rfl, by omega, by decide, (by have : (2 : Int) ^ 19 = 524288 := (by decide); omega), (by have : (2 : Int) ^ (19 + 1) = 1048576 := (by decide); omega)⟩ (by decide) (by decide)
        · refine Go.iinc (pc' := 57) (w := (11 : Int32)) (Ls' := #[.val (.int v_40), .val (.int (11 : Int32))]) d3_54 rfl rfl rfl rfl ?_
          refine Go.iloadN (pc' := 58) d3_57 rfl rfl ?_
          refine Go.iconst (pc' := 59) (v := (4 : Int32)) d3_58 rfl rfl ?_
          refine Go.iushr (pc' := 60) d3_59 rfl ?_
          generalize ev_51 : (v_40.toUInt32 >>> ((4 : Int32) &&& 31).toUInt32).toInt32 = v_51
          have k_52 : v_51.toInt = v_40.toInt / 16 := by
            rw [← ev_51]
            have : (4 : Int32).toInt = 4 := by decide
            have := c_iushr v_40 (4 : Int32) 4 (by decide) (by decide)
            have := rng32 ((v_40.toUInt32 >>> ((4 : Int32) &&& 31).toUInt32).toInt32)
            have := rng32 v_40
            omega
          refine Go.istoreN (pc' := 61) (Ls' := #[.val (.int v_51), .val (.int (11 : Int32))]) d3_60 rfl rfl ?_
          refine Go.iloadN (pc' := 62) d3_61 rfl rfl ?_
          refine Go.iconst (pc' := 63) (v := (4 : Int32)) d3_62 rfl rfl ?_
          refine Go.icmp (pc1 := 73) (pc2 := 66) d3_63 (by decide) (by decide) rfl (fun (c_53 : v_51.toInt < (4 : Int)) => ?_) (fun (c_53 : (4 : Int) ≤ v_51.toInt) => ?_)
          · refine Go.iloadN (pc' := 74) d3_73 rfl rfl ?_
            refine Go.iloadN (pc' := 75) d3_74 rfl rfl ?_
            refine Go.iconst (pc' := 76) (v := (1 : Int32)) d3_75 rfl rfl ?_
            refine Go.iushr (pc' := 77) d3_76 rfl ?_
            refine Go.isub (pc' := 78) d3_77 rfl ?_
            generalize ev_54 : (11 : Int32) - ((v_51.toUInt32 >>> ((1 : Int32) &&& 31).toUInt32).toInt32) = v_54
            have k_55 : v_54.toInt = 11 - v_51.toInt / 2 := by
              rw [← ev_54]
              have : (11 : Int32).toInt = 11 := by decide
              have : (1 : Int32).toInt = 1 := by decide
              have := c_iushr v_51 (1 : Int32) 1 (by decide) (by decide)
              have := rng32 ((v_51.toUInt32 >>> ((1 : Int32) &&& 31).toUInt32).toInt32)
              have := rng32 v_51
              have := c_isub (11 : Int32) ((v_51.toUInt32 >>> ((1 : Int32) &&& 31).toUInt32).toInt32)
              have := rng32 ((11 : Int32) - ((v_51.toUInt32 >>> ((1 : Int32) &&& 31).toUInt32).toInt32))
              omega
            rcases (by omega : v_51.toInt = 1 ∨ v_51.toInt = 2 ∨ v_51.toInt = 3) with hq | hq | hq
            · exact Go.retI d3_78 rfl ⟨_, 20, rfl, rfl, by omega, by decide, (by have : (2 : Int) ^ 20 = 1048576 := (by decide); omega), (by have : (2 : Int) ^ (20 + 1) = 2097152 := (by decide); omega)⟩ (by decide) (by decide)
            · exact Go.retI d3_78 rfl ⟨_, 21, rfl, rfl, by omega, by decide, (by have : (2 : Int) ^ 21 = 2097152 := (by decide); omega), (by have : (2 : Int) ^ (21 + 1) = 4194304 := (by decide); omega)⟩ (by decide) (by decide)
            · exact Go.retI d3_78 rfl ⟨_, 21, rfl, rfl, by omega, by decide, (by have : (2 : Int) ^ 21 = 2097152 := (by decide); omega), (by have : (2 : Int) ^ (21 + 1) = 4194304 := (by decide); omega)⟩ (by decide) (by decide)
          · refine Go.iinc (pc' := 69) (w := (9 : Int32)) (Ls' := #[.val (.int v_51), .val (.int (9 : Int32))]) d3_66 rfl rfl rfl rfl ?_
            refine Go.iloadN (pc' := 70) d3_69 rfl rfl ?_
            refine Go.iconst (pc' := 71) (v := (2 : Int32)) d3_70 rfl rfl ?_
            refine Go.iushr (pc' := 72) d3_71 rfl ?_
            generalize ev_56 : (v_51.toUInt32 >>> ((2 : Int32) &&& 31).toUInt32).toInt32 = v_56
            have k_57 : v_56.toInt = v_51.toInt / 4 := by
              rw [← ev_56]
              have : (2 : Int32).toInt = 2 := by decide
              have := c_iushr v_51 (2 : Int32) 2 (by decide) (by decide)
              have := rng32 ((v_51.toUInt32 >>> ((2 : Int32) &&& 31).toUInt32).toInt32)
              have := rng32 v_51
              omega
            refine Go.istoreN (pc' := 73) (Ls' := #[.val (.int v_56), .val (.int (9 : Int32))]) d3_72 rfl rfl ?_
            refine Go.iloadN (pc' := 74) d3_73 rfl rfl ?_
            refine Go.iloadN (pc' := 75) d3_74 rfl rfl ?_
            refine Go.iconst (pc' := 76) (v := (1 : Int32)) d3_75 rfl rfl ?_
            refine Go.iushr (pc' := 77) d3_76 rfl ?_
            refine Go.isub (pc' := 78) d3_77 rfl ?_
            generalize ev_58 : (9 : Int32) - ((v_56.toUInt32 >>> ((1 : Int32) &&& 31).toUInt32).toInt32) = v_58
            have k_59 : v_58.toInt = 9 - v_56.toInt / 2 := by
              rw [← ev_58]
              have : (9 : Int32).toInt = 9 := by decide
              have : (1 : Int32).toInt = 1 := by decide
              have := c_iushr v_56 (1 : Int32) 1 (by decide) (by decide)
              have := rng32 ((v_56.toUInt32 >>> ((1 : Int32) &&& 31).toUInt32).toInt32)
              have := rng32 v_56
              have := c_isub (9 : Int32) ((v_56.toUInt32 >>> ((1 : Int32) &&& 31).toUInt32).toInt32)
              have := rng32 ((9 : Int32) - ((v_56.toUInt32 >>> ((1 : Int32) &&& 31).toUInt32).toInt32))
              omega
            rcases (by omega : v_56.toInt = 1 ∨ v_56.toInt = 2 ∨ v_56.toInt = 3) with hq | hq | hq
            · exact Go.retI d3_78 rfl ⟨_, 22, rfl, rfl, by omega, by decide, (by have : (2 : Int) ^ 22 = 4194304 := (by decide); omega), (by have : (2 : Int) ^ (22 + 1) = 8388608 := (by decide); omega)⟩ (by decide) (by decide)
            · exact Go.retI d3_78 rfl ⟨_, 23, rfl, rfl, by omega, by decide, (by have : (2 : Int) ^ 23 = 8388608 := (by decide); omega), (by have : (2 : Int) ^ (23 + 1) = 16777216 := (by decide); omega)⟩ (by decide) (by decide)
            · exact Go.retI d3_78 rfl ⟨_, 23, rfl, rfl, by omega, by decide, (by have : (2 : Int) ^ 23 = 8388608 := (by decide); omega), (by have : (2 : Int) ^ (23 + 1) = 16777216 := (by decide); omega)⟩ (by decide) (by decide)
      · refine Go.iinc (pc' := 43) (w := (7 : Int32)) (Ls' := #[.val (.int v_40), .val (.int (7 : Int32))]) d3_40 rfl rfl rfl rfl ?_
        refine Go.iloadN (pc' := 44) d3_43 rfl rfl ?_
        refine Go.bipush (pc' := 46) (v := (8 : Int32)) d3_44 rfl rfl ?_
        refine Go.iushr (pc' := 47) d3_46 rfl ?_
        generalize ev_60 : (v_40.toUInt32 >>> ((8 : Int32) &&& 31).toUInt32).toInt32 = v_60
        have k_61 : v_60.toInt = v_40.toInt / 256 := by
          rw [← ev_60]
          have : (8 : Int32).toInt = 8 := by decide
          have := c_iushr v_40 (8 : Int32) 8 (by decide) (by decide)
          have := rng32 ((v_40.toUInt32 >>> ((8 : Int32) &&& 31).toUInt32).toInt32)
          have := rng32 v_40
          omega
        refine Go.istoreN (pc' := 48) (Ls' := #[.val (.int v_60), .val (.int (7 : Int32))]) d3_47 rfl rfl ?_
        refine Go.iloadN (pc' := 49) d3_48 rfl rfl ?_
        refine Go.bipush (pc' := 51) (v := (16 : Int32)) d3_49 rfl rfl ?_
        refine Go.icmp (pc1 := 61) (pc2 := 54) d3_51 (by decide) (by decide) rfl (fun (c_62 : v_60.toInt < (16 : Int)) => ?_) (fun (c_62 : (16 : Int) ≤ v_60.toInt) => ?_)
        · refine Go.iloadN (pc' := 62) d3_61 rfl rfl ?_
          refine Go.iconst (pc' := 63) (v := (4 : Int32)) d3_62 rfl rfl ?_
          refine Go.icmp (pc1 := 73) (pc2 := 66) d3_63 (by decide) (by decide) rfl (fun (c_63 : v_60.toInt < (4 : Int)) => ?_) (fun (c_63 : (4 : Int) ≤ v_60.toInt) => ?_)
          · refine Go.iloadN (pc' := 74) d3_73 rfl rfl ?_
            refine Go.iloadN (pc' := 75) d3_74 rfl rfl ?_
            refine Go.iconst (pc' := 76) (v := (1 : Int32)) d3_75 rfl rfl ?_
            refine Go.iushr (pc' := 77) d3_76 rfl ?_
            refine Go.isub (pc' := 78) d3_77 rfl ?_
            generalize ev_64 : (7 : Int32) - ((v_60.toUInt32 >>> ((1 : Int32) &&& 31).toUInt32).toInt32) = v_64
            have k_65 : v_64.toInt = 7 - v_60.toInt / 2 := by
              rw [← ev_64]
              have : (7 : Int32).toInt = 7 := by decide
              have : (1 : Int32).toInt = 1 := by decide
              have := c_iushr v_60 (1 : Int32) 1 (by decide) (by decide)
              have := rng32 ((v_60.toUInt32 >>> ((1 : Int32) &&& 31).toUInt32).toInt32)
              have := rng32 v_60
              have := c_isub (7 : Int32) ((v_60.toUInt32 >>> ((1 : Int32) &&& 31).toUInt32).toInt32)
              have := rng32 ((7 : Int32) - ((v_60.toUInt32 >>> ((1 : Int32) &&& 31).toUInt32).toInt32))
              omega
            rcases (by omega : v_60.toInt = 1 ∨ v_60.toInt = 2 ∨ v_60.toInt = 3) with hq | hq | hq
            · exact Go.retI d3_78 rfl ⟨_, 24, rfl, rfl, by omega, by decide, (by have : (2 : Int) ^ 24 = 16777216 := (by decide); omega), (by have : (2 : Int) ^ (24 + 1) = 33554432 := (by decide); omega)⟩ (by decide) (by decide)
            · exact Go.retI d3_78 rfl ⟨_, 25, rfl, rfl, by omega, by decide, (by have : (2 : Int) ^ 25 = 33554432 := (by decide); omega), (by have : (2 : Int) ^ (25 + 1) = 67108864 := (by decide); omega)⟩ (by decide) (by decide)
            · exact Go.retI d3_78 rfl ⟨_, 25, rfl, rfl, by omega, by decide, (by have : (2 : Int) ^ 25 = 33554432 := (by decide); omega), (by have : (2 : Int) ^ (25 + 1) = 67108864 := (by decide); omega)⟩ (by decide) (by decide)
          · refine Go.iinc (pc' := 69) (w := (5 : Int32)) (Ls' := #[.val (.int v_60), .val (.int (5 : Int32))]) d3_66 rfl rfl rfl rfl ?_
            refine Go.iloadN (pc' := 70) d3_69 rfl rfl ?_
            refine Go.iconst (pc' := 71) (v := (2 : Int32)) d3_70 rfl rfl ?_
            refine Go.iushr (pc' := 72) d3_71 rfl ?_
            generalize ev_66 : (v_60.toUInt32 >>> ((2 : Int32) &&& 31).toUInt32).toInt32 = v_66
            have k_67 : v_66.toInt = v_60.toInt / 4 := by
              rw [← ev_66]
              have : (2 : Int32).toInt = 2 := by decide
              have := c_iushr v_60 (2 : Int32) 2 (by decide) (by decide)
              have := rng32 ((v_60.toUInt32 >>> ((2 : Int32) &&& 31).toUInt32).toInt32)
              have := rng32 v_60
              omega
            refine Go.istoreN (pc' := 73) (Ls' := #[.val (.int v_66), .val (.int (5 : Int32))]) d3_72 rfl rfl ?_
            refine Go.iloadN (pc' := 74) d3_73 rfl rfl ?_
            refine Go.iloadN (pc' := 75) d3_74 rfl rfl ?_
            refine Go.iconst (pc' := 76) (v := (1 : Int32)) d3_75 rfl rfl ?_
            refine Go.iushr (pc' := 77) d3_76 rfl ?_
            refine Go.isub (pc' := 78) d3_77 rfl ?_
            generalize ev_68 : (5 : Int32) - ((v_66.toUInt32 >>> ((1 : Int32) &&& 31).toUInt32).toInt32) = v_68
            have k_69 : v_68.toInt = 5 - v_66.toInt / 2 := by
              rw [← ev_68]
              have : (5 : Int32).toInt = 5 := by decide
              have : (1 : Int32).toInt = 1 := by decide
              have := c_iushr v_66 (1 : Int32) 1 (by decide) (by decide)
              have := rng32 ((v_66.toUInt32 >>> ((1 : Int32) &&& 31).toUInt32).toInt32)
              have := rng32 v_66
              have := c_isub (5 : Int32) ((v_66.toUInt32 >>> ((1 : Int32) &&& 31).toUInt32).toInt32)
              have := rng32 ((5 : Int32) - ((v_66.toUInt32 >>> ((1 : Int32) &&& 31).toUInt32).toInt32))
              omega
            rcases (by omega : v_66.toInt = 1 ∨ v_66.toInt = 2 ∨ v_66.toInt = 3) with hq | hq | hq
            · exact Go.retI d3_78 rfl ⟨_, 26, rfl, rfl, by omega, by decide, (by have : (2 : Int) ^ 26 = 67108864 := (by decide); omega), (by have : (2 : Int) ^ (26 + 1) = 134217728 := (by decide); omega)⟩ (by decide) (by decide)
            · exact Go.retI d3_78 rfl ⟨_, 27, rfl, rfl, by omega, by decide, (by have : (2 : Int) ^ 27 = 134217728 := (by decide); omega), (by have : (2 : Int) ^ (27 + 1) = 268435456 := (by decide); omega)⟩ (by decide) (by decide)
            · exact Go.retI d3_78 rfl ⟨_, 27, rfl, rfl, by omega, by decide, (by have : (2 : Int) ^ 27 = 134217728 := (by decide); omega), (by have : (2 : Int) ^ (27 + 1) = 268435456 := (by decide); omega)⟩ (by decide) (by decide)
        · refine Go.iinc (pc' := 57) (w := (3 : Int32)) (Ls' := #[.val (.int v_60), .val (.int (3 : Int32))]) d3_54 rfl rfl rfl rfl ?_
          refine Go.iloadN (pc' := 58) d3_57 rfl rfl ?_
          refine Go.iconst (pc' := 59) (v := (4 : Int32)) d3_58 rfl rfl ?_
          refine Go.iushr (pc' := 60) d3_59 rfl ?_
          generalize ev_70 : (v_60.toUInt32 >>> ((4 : Int32) &&& 31).toUInt32).toInt32 = v_70
          have k_71 : v_70.toInt = v_60.toInt / 16 := by
            rw [← ev_70]
            have : (4 : Int32).toInt = 4 := by decide
            have := c_iushr v_60 (4 : Int32) 4 (by decide) (by decide)
            have := rng32 ((v_60.toUInt32 >>> ((4 : Int32) &&& 31).toUInt32).toInt32)
            have := rng32 v_60
            omega
          refine Go.istoreN (pc' := 61) (Ls' := #[.val (.int v_70), .val (.int (3 : Int32))]) d3_60 rfl rfl ?_
          refine Go.iloadN (pc' := 62) d3_61 rfl rfl ?_
          refine Go.iconst (pc' := 63) (v := (4 : Int32)) d3_62 rfl rfl ?_
          refine Go.icmp (pc1 := 73) (pc2 := 66) d3_63 (by decide) (by decide) rfl (fun (c_72 : v_70.toInt < (4 : Int)) => ?_) (fun (c_72 : (4 : Int) ≤ v_70.toInt) => ?_)
          · refine Go.iloadN (pc' := 74) d3_73 rfl rfl ?_
            refine Go.iloadN (pc' := 75) d3_74 rfl rfl ?_
            refine Go.iconst (pc' := 76) (v := (1 : Int32)) d3_75 rfl rfl ?_
            refine Go.iushr (pc' := 77) d3_76 rfl ?_
            refine Go.isub (pc' := 78) d3_77 rfl ?_
            generalize ev_73 : (3 : Int32) - ((v_70.toUInt32 >>> ((1 : Int32) &&& 31).toUInt32).toInt32) = v_73
            have k_74 : v_73.toInt = 3 - v_70.toInt / 2 := by
              rw [← ev_73]
              have : (3 : Int32).toInt = 3 := by decide
              have : (1 : Int32).toInt = 1 := by decide
              have := c_iushr v_70 (1 : Int32) 1 (by decide) (by decide)
              have := rng32 ((v_70.toUInt32 >>> ((1 : Int32) &&& 31).toUInt32).toInt32)
              have := rng32 v_70
              have := c_isub (3 : Int32) ((v_70.toUInt32 >>> ((1 : Int32) &&& 31).toUInt32).toInt32)
              have := rng32 ((3 : Int32) - ((v_70.toUInt32 >>> ((1 : Int32) &&& 31).toUInt32).toInt32))
              omega
            rcases (by omega : v_70.toInt = 1 ∨ v_70.toInt = 2 ∨ v_70.toInt = 3) with hq | hq | hq
            · exact Go.retI d3_78 rfl ⟨_, 28, rfl, rfl, by omega, by decide, (by have : (2 : Int) ^ 28 = 268435456 := (by decide); omega), (by have : (2 : Int) ^ (28 + 1) = 536870912 := (by decide); omega)⟩ (by decide) (by decide)
            · exact Go.retI d3_78 rfl ⟨_, 29, rfl, rfl, by omega, by decide, (by have : (2 : Int) ^ 29 = 536870912 := (by decide); omega), (by have : (2 : Int) ^ (29 + 1) = 1073741824 := (by decide); omega)⟩ (by decide) (by decide)
            · exact Go.retI d3_78 rfl ⟨_, 29, rfl, rfl, by omega, by decide, (by have : (2 : Int) ^ 29 = 536870912 := (by decide); omega), (by have : (2 : Int) ^ (29 + 1) = 1073741824 := (by decide); omega)⟩ (by decide) (by decide)
          · refine Go.iinc (pc' := 69) (w := (1 : Int32)) (Ls' := #[.val (.int v_70), .val (.int (1 : Int32))]) d3_66 rfl rfl rfl rfl ?_
            refine Go.iloadN (pc' := 70) d3_69 rfl rfl ?_
            refine Go.iconst (pc' := 71) (v := (2 : Int32)) d3_70 rfl rfl ?_
            refine Go.iushr (pc' := 72) d3_71 rfl ?_
            generalize ev_75 : (v_70.toUInt32 >>> ((2 : Int32) &&& 31).toUInt32).toInt32 = v_75
            have k_76 : v_75.toInt = v_70.toInt / 4 := by
              rw [← ev_75]
              have : (2 : Int32).toInt = 2 := by decide
              have := c_iushr v_70 (2 : Int32) 2 (by decide) (by decide)
              have := rng32 ((v_70.toUInt32 >>> ((2 : Int32) &&& 31).toUInt32).toInt32)
              have := rng32 v_70
              omega
            refine Go.istoreN (pc' := 73) (Ls' := #[.val (.int v_75), .val (.int (1 : Int32))]) d3_72 rfl rfl ?_
            refine Go.iloadN (pc' := 74) d3_73 rfl rfl ?_
            refine Go.iloadN (pc' := 75) d3_74 rfl rfl ?_
            refine Go.iconst (pc' := 76) (v := (1 : Int32)) d3_75 rfl rfl ?_
            refine Go.iushr (pc' := 77) d3_76 rfl ?_
            refine Go.isub (pc' := 78) d3_77 rfl ?_
            generalize ev_77 : (1 : Int32) - ((v_75.toUInt32 >>> ((1 : Int32) &&& 31).toUInt32).toInt32) = v_77
            have k_78 : v_77.toInt = 1 - v_75.toInt / 2 := by
              rw [← ev_77]
              have : (1 : Int32).toInt = 1 := by decide
              have := c_iushr v_75 (1 : Int32) 1 (by decide) (by decide)
              have := rng32 ((v_75.toUInt32 >>> ((1 : Int32) &&& 31).toUInt32).toInt32)
              have := rng32 v_75
              have := c_isub (1 : Int32) ((v_75.toUInt32 >>> ((1 : Int32) &&& 31).toUInt32).toInt32)
              have := rng32 ((1 : Int32) - ((v_75.toUInt32 >>> ((1 : Int32) &&& 31).toUInt32).toInt32))
              omega
            rcases (by omega : v_75.toInt = 1 ∨ v_75.toInt = 2 ∨ v_75.toInt = 3) with hq | hq | hq
            · exact Go.retI d3_78 rfl ⟨_, 30, rfl, rfl, by omega, by decide, (by have : (2 : Int) ^ 30 = 1073741824 := (by decide); omega), (by have : (2 : Int) ^ (30 + 1) = 2147483648 := (by decide); omega)⟩ (by decide) (by decide)
            · exact Go.retI d3_78 rfl ⟨_, 31, rfl, rfl, by omega, by decide, (by have : (2 : Int) ^ 31 = 2147483648 := (by decide); omega), (by have : (2 : Int) ^ (31 + 1) = 4294967296 := (by decide); omega)⟩ (by decide) (by decide)
            · exact Go.retI d3_78 rfl ⟨_, 31, rfl, rfl, by omega, by decide, (by have : (2 : Int) ^ 31 = 2147483648 := (by decide); omega), (by have : (2 : Int) ^ (31 + 1) = 4294967296 := (by decide); omega)⟩ (by decide) (by decide)
  · refine Go.iloadN (pc' := 5) d3_4 rfl rfl ?_
    refine Go.ifc (pc1 := 13) (pc2 := 8) d3_5 (by decide) (by decide) rfl (fun (c_79 : i.toInt ≠ 0) => ?_) (fun (c_79 : i.toInt = 0) => ?_)
    · refine Go.iconst (pc' := 14) (v := (0 : Int32)) d3_13 rfl rfl ?_
      exact Go.retI d3_14 rfl ⟨_, 31, rfl, rfl, rfl, by decide, (by have : (2 : Int) ^ 31 = 2147483648 := (by decide); omega), (by have : (2 : Int) ^ (31 + 1) = 4294967296 := (by decide); omega)⟩ (by decide) (by decide)
    · refine Go.bipush (pc' := 10) (v := (32 : Int32)) d3_8 rfl rfl ?_
      refine Go.goto (pc' := 14) d3_10 (by decide) (by decide) ?_
      exfalso; omega
set_option maxRecDepth 65536 in
set_option maxHeartbeats 40000000 in
theorem m_l (l : Launch) (Z : State) (a0 : Array Value) (hw : ∀ d ∈ tables_1, d.before a0 Z = true) (p : Int64) (h0 : Heap) (n0 : Nat) (z0 : n0 ≤ h0.size) (hp : 0 < p.toInt) : Mt false l Z (⟨"java/lang/Long", "numberOfLeadingZeros", "(J)I"⟩ : MethodName) jdk_35_method_48_code 3 (some .int) ({ frames := 1, cells := 0, slots := 0, locals := 20 } : Room) n0 (fun v h => ∃ (r : Int32) (c : Nat), v = some (.int r) ∧ h0 = h ∧ r.toInt = 63 - (c : Int) ∧ c ≤ 62 ∧ (2 : Int) ^ c ≤ p.toInt ∧ p.toInt < (2 : Int) ^ (c + 1)) h0 #[(.long p)] := by
  refine Mt.go (Ls := #[.val (.long p), .second, .unset]) (by first | exact plainFor_of_name (by decide +kernel) | decide +kernel | (simp [plainFor]; done)) (fun m => by first | (simp [entryFrame, mkF, argsToLocals, Value.category]; done) | rfl) ?_
  show (Go false l ({ frames := 1, cells := 0, slots := 0, locals := 20 } : Room) Z (⟨"java/lang/Long", "numberOfLeadingZeros", "(J)I"⟩ : MethodName) jdk_35_method_48_code 3 (some .int) n0 0 0 (fun v h => ∃ (r : Int32) (c : Nat), v = some (.int r) ∧ h0 = h ∧ r.toInt = 63 - (c : Int) ∧ c ≤ 62 ∧ (2 : Int) ^ c ≤ p.toInt ∧ p.toInt < (2 : Int) ^ (c + 1))) h0 0 0 0 #[.val (.long p), .second, .unset] []
  have hrx := rng64 p
  refine Go.lloadN (pc' := 1) d2_0 rfl rfl ?_
  refine Go.bipush (pc' := 3) (v := (32 : Int32)) d2_1 rfl rfl ?_
  refine Go.lushr (pc' := 4) d2_3 rfl ?_
  refine Go.l2i (pc' := 5) d2_4 rfl ?_
  generalize ev_80 : ((p.toUInt64 >>> ((32 : Int32) &&& 0x3f).toInt64.toUInt64).toInt64).toInt32 = v_80
  have k_81 : v_80.toInt = p.toInt / 4294967296 := by
    rw [← ev_80]
    have : (32 : Int32).toInt = 32 := by decide
    have := c_lushr p (32 : Int32) 32 (by decide) (by decide)
    have := rng64 ((p.toUInt64 >>> ((32 : Int32) &&& 0x3f).toInt64.toUInt64).toInt64)
    have := rng64 p
    have := c_l2i ((p.toUInt64 >>> ((32 : Int32) &&& 0x3f).toInt64.toUInt64).toInt64)
    have := rng32 (((p.toUInt64 >>> ((32 : Int32) &&& 0x3f).toInt64.toUInt64).toInt64).toInt32)
    omega
  refine Go.istoreN (pc' := 6) (Ls' := #[.val (.long p), .second, .val (.int v_80)]) d2_5 rfl rfl ?_
  refine Go.iloadN (pc' := 7) d2_6 rfl rfl ?_
  refine Go.ifc (pc1 := 21) (pc2 := 10) d2_7 (by decide) (by decide) rfl (fun (c_82 : v_80.toInt ≠ 0) => ?_) (fun (c_82 : v_80.toInt = 0) => ?_)
  · refine Go.iloadN (pc' := 22) d2_21 rfl rfl ?_
    refine Go.callS (pc' := 25) (argsL := [(.int v_80)]) (rest := []) (W := 0) (hw _ (List.mem_of_getElem? (i := 29) rfl)) (hw _ (List.mem_of_getElem? (i := 30) rfl)) (hw _ (List.mem_of_getElem? (i := 31) rfl)) (hw _ (List.mem_of_getElem? (i := 32) rfl)) (by decide) (m_i l Z a0 hw v_80 h0 n0 z0 (by omega)) d2_22 rfl pd0 rfl rfl (Nat.le_of_eq rfl) (by decide) (by decide) (by decide) (by decide) rfl ?_
    rintro _ _ ⟨r, c, rfl, rfl, h1, h2, h3, h4⟩
    show (Go false l ({ frames := 1, cells := 0, slots := 0, locals := 20 } : Room) Z (⟨"java/lang/Long", "numberOfLeadingZeros", "(J)I"⟩ : MethodName) jdk_35_method_48_code 3 (some .int) n0 0 0 (fun v h => ∃ (r : Int32) (c : Nat), v = some (.int r) ∧ h0 = h ∧ r.toInt = 63 - (c : Int) ∧ c ≤ 62 ∧ (2 : Int) ^ c ≤ p.toInt ∧ p.toInt < (2 : Int) ^ (c + 1))) h0 (0 + 0) (0 + 0) 25 #[.val (.long p), .second, .val (.int v_80)] [(.int r)]
    have e1 : (2 : Int) ^ (c + 32) = 2 ^ c * 4294967296 := by rw [Int.pow_add]; rfl
    have e2 : (2 : Int) ^ (c + 32 + 1) = 2 ^ (c + 1) * 4294967296 := by rw [show c + 32 + 1 = c + 1 + 32 by omega, Int.pow_add]; rfl
    have hc : c ≠ 31 := by
      rintro rfl
      have : (2 : Int) ^ 31 = 2147483648 := by decide
      omega
    exact Go.retI d2_25 rfl ⟨_, c + 32, rfl, rfl, by omega, by omega, by rw [e1]; omega, by rw [e2]; omega⟩ (by decide) (by decide)
  · refine Go.bipush (pc' := 12) (v := (32 : Int32)) d2_10 rfl rfl ?_
    refine Go.lloadN (pc' := 13) d2_12 rfl rfl ?_
    refine Go.l2i (pc' := 14) d2_13 rfl ?_
    generalize ev_83 : p.toInt32 = v_83
    have k_84 : v_83.toInt % 4294967296 = p.toInt := by
      rw [← ev_83]
      have := c_l2i p
      have := rng32 p.toInt32
      have := rng64 p
      omega
    refine Go.callS (pc' := 17) (argsL := [(.int v_83)]) (rest := [(.int (32 : Int32))]) (W := 1) (hw _ (List.mem_of_getElem? (i := 29) rfl)) (hw _ (List.mem_of_getElem? (i := 30) rfl)) (hw _ (List.mem_of_getElem? (i := 31) rfl)) (hw _ (List.mem_of_getElem? (i := 32) rfl)) (by decide) (m_i l Z a0 hw v_83 h0 n0 z0 (by omega)) d2_14 rfl pd0 rfl rfl (Nat.le_of_eq rfl) (by decide) (by decide) (by decide) (by decide) rfl ?_
    rintro _ _ ⟨r, c, rfl, rfl, h1, h2, h3, h4⟩
    show (Go false l ({ frames := 1, cells := 0, slots := 0, locals := 20 } : Room) Z (⟨"java/lang/Long", "numberOfLeadingZeros", "(J)I"⟩ : MethodName) jdk_35_method_48_code 3 (some .int) n0 0 0 (fun v h => ∃ (r : Int32) (c : Nat), v = some (.int r) ∧ h0 = h ∧ r.toInt = 63 - (c : Int) ∧ c ≤ 62 ∧ (2 : Int) ^ c ≤ p.toInt ∧ p.toInt < (2 : Int) ^ (c + 1))) h0 (0 + 0) (0 + 0) 17 #[.val (.long p), .second, .val (.int v_80)] [(.int r), (.int (32 : Int32))]
    refine Go.iadd (pc' := 18) d2_17 rfl ?_
    generalize ev_85 : (32 : Int32) + r = v_85
    have k_86 : v_85.toInt = 63 - (c : Int) := by
      rw [← ev_85]
      have : (32 : Int32).toInt = 32 := by decide
      have := c_iadd (32 : Int32) r
      have := rng32 ((32 : Int32) + r)
      have := rng32 r
      omega
    refine Go.goto (pc' := 25) d2_18 (by decide) (by decide) ?_
    exact Go.retI d2_25 rfl ⟨_, c, rfl, rfl, by omega, by omega, by omega, by omega⟩ (by decide) (by decide)
set_option maxRecDepth 65536 in
set_option maxHeartbeats 40000000 in
theorem m_d (l : Launch) (Z : State) (a0 : Array Value) (hw : ∀ d ∈ tables_1, d.before a0 Z = true) (b : Addr) (p : Int64) (h0 : Heap) (n0 : Nat) (z0 : n0 ≤ h0.size) (hS : Sta Z h0 "com/example/tenscale/tenscale/Coefficient" "LONG_POWERS" "[J" (.ref b)) (hA : Ary Z h0 b .long [.long (1 : Int64), .long (10 : Int64), .long (100 : Int64), .long (1000 : Int64), .long (10000 : Int64), .long (100000 : Int64), .long (1000000 : Int64), .long (10000000 : Int64), .long (100000000 : Int64), .long (1000000000 : Int64), .long (10000000000 : Int64), .long (100000000000 : Int64), .long (1000000000000 : Int64), .long (10000000000000 : Int64), .long (100000000000000 : Int64), .long (1000000000000000 : Int64), .long (10000000000000000 : Int64), .long (100000000000000000 : Int64), .long (1000000000000000000 : Int64)]) (hp : 0 ≤ p.toInt) : Mt false l Z (⟨"com/example/tenscale/tenscale/Coefficient", "digitCount", "(J)I"⟩ : MethodName) prog_1_method_32_code 5 (some .int) ({ frames := 2, cells := 0, slots := 0, locals := 40 } : Room) n0 (fun v h => ∃ r : Int32, v = some (.int r) ∧ h0 = h ∧ own_dig p.toInt r.toInt) h0 #[(.long p)] := by
  refine Mt.go (Ls := #[.val (.long p), .second, .unset, .unset, .unset]) (plainFor_of_name pn0) (fun m => by first | (simp [entryFrame, mkF, argsToLocals, Value.category]; done) | rfl) ?_
  show (Go false l ({ frames := 2, cells := 0, slots := 0, locals := 40 } : Room) Z (⟨"com/example/tenscale/tenscale/Coefficient", "digitCount", "(J)I"⟩ : MethodName) prog_1_method_32_code 5 (some .int) n0 0 0 (fun v h => ∃ r : Int32, v = some (.int r) ∧ h0 = h ∧ own_dig p.toInt r.toInt)) h0 0 0 0 #[.val (.long p), .second, .unset, .unset, .unset] []
  refine Go.lloadN (pc' := 1) d1_0 rfl rfl ?_
  refine Go.lconst (pc' := 2) (v := (1 : Int64)) d1_1 rfl rfl ?_
  refine Go.lor (pc' := 3) d1_2 rfl ?_
  generalize ex_87 : p ||| (1 : Int64) = x_87
  have kx := own_or1 p hp; rw [ex_87] at kx
  refine Go.lstoreN (pc' := 4) (Ls' := #[.val (.long p), .second, .val (.long x_87), .second, .unset]) d1_3 rfl rfl ?_
  refine Go.bipush (pc' := 6) (v := (64 : Int32)) d1_4 rfl rfl ?_
  refine Go.lloadN (pc' := 7) d1_6 rfl rfl ?_
  refine Go.callS (pc' := 10) (argsL := [(.long x_87)]) (rest := [(.int (64 : Int32))]) (W := 1) (hw _ (List.mem_of_getElem? (i := 25) rfl)) (hw _ (List.mem_of_getElem? (i := 26) rfl)) (hw _ (List.mem_of_getElem? (i := 27) rfl)) (hw _ (List.mem_of_getElem? (i := 28) rfl)) (by decide) (m_l l Z a0 hw x_87 h0 n0 z0 (by omega)) d1_7 rfl pd1 rfl rfl (Nat.le_of_eq rfl) (by decide) (by decide) (by decide) (by decide) rfl ?_
  rintro _ _ ⟨r, c, rfl, rfl, h1, h2, h3, h4⟩
  show (Go false l ({ frames := 2, cells := 0, slots := 0, locals := 40 } : Room) Z (⟨"com/example/tenscale/tenscale/Coefficient", "digitCount", "(J)I"⟩ : MethodName) prog_1_method_32_code 5 (some .int) n0 0 0 (fun v h => ∃ r : Int32, v = some (.int r) ∧ h0 = h ∧ own_dig p.toInt r.toInt)) h0 (0 + 0) (0 + 0) 10 #[.val (.long p), .second, .val (.long x_87), .second, .unset] [(.int r), (.int (64 : Int32))]
  refine Go.isub (pc' := 11) d1_10 rfl ?_
  generalize en_88 : (64 : Int32) - r = n_88
  have k_89 : n_88.toInt = (c : Int) + 1 := by
    rw [← en_88]
    have : (64 : Int32).toInt = 64 := by decide
    have := c_isub (64 : Int32) r
    have := rng32 ((64 : Int32) - r)
    have := rng32 r
    omega
  refine Go.sipush (pc' := 14) (v := (1233 : Int32)) d1_11 rfl rfl ?_
  refine Go.imul (pc' := 15) d1_14 rfl ?_
  generalize en_90 : n_88 * (1233 : Int32) = n_90
  have k_91 : n_90.toInt = ((c : Int) + 1) * 1233 := by
    rw [← en_90]
    have : (1233 : Int32).toInt = 1233 := by decide
    have hm_92 := c_imul n_88 (1233 : Int32)
    rw [show (1233 : Int32).toInt = 1233 from by decide] at hm_92
    have := rng32 (n_88 * (1233 : Int32))
    have := rng32 n_88
    omega
  have hmod : n_90.toInt % 4294967296 = n_90.toInt := by omega
  refine Go.bipush (pc' := 17) (v := (12 : Int32)) d1_15 rfl rfl ?_
  refine Go.iushr (pc' := 18) d1_17 rfl ?_
  generalize ee_93 : (n_90.toUInt32 >>> ((12 : Int32) &&& 31).toUInt32).toInt32 = e_93
  have k_94 : e_93.toInt = (((c + 1) * 1233 / 4096 : Nat) : Int) := by
    rw [← ee_93]
    have : (12 : Int32).toInt = 12 := by decide
    have := c_iushr n_90 (12 : Int32) 12 (by decide) (by decide)
    have := rng32 ((n_90.toUInt32 >>> ((12 : Int32) &&& 31).toUInt32).toInt32)
    have := rng32 n_90
    omega
  have ht := own_tab_c c h2
  generalize (c + 1) * 1233 / 4096 = E at *
  generalize (2 : Int) ^ c = P at *
  generalize (2 : Int) ^ (c + 1) = U at *
  refine Go.istore (pc' := 20) (Ls' := #[.val (.long p), .second, .val (.long x_87), .second, .val (.int e_93)]) d1_18 rfl rfl ?_
  refine Go.lloadN (pc' := 21) d1_20 rfl rfl ?_
  refine Go.getS (pc' := 24) (hw _ (List.mem_of_getElem? (i := 34) rfl)) hS d1_21 rfl ?_
  refine Go.iload (pc' := 26) d1_24 rfl rfl ?_
  rcases ht with ⟨rfl, ht1, ht2⟩ | ⟨rfl, ht1, ht2⟩ | ⟨rfl, ht1, ht2⟩ | ⟨rfl, ht1, ht2⟩ | ⟨rfl, ht1, ht2⟩ | ⟨rfl, ht1, ht2⟩ | ⟨rfl, ht1, ht2⟩ | ⟨rfl, ht1, ht2⟩ | ⟨rfl, ht1, ht2⟩ | ⟨rfl, ht1, ht2⟩ | ⟨rfl, ht1, ht2⟩ | ⟨rfl, ht1, ht2⟩ | ⟨rfl, ht1, ht2⟩ | ⟨rfl, ht1, ht2⟩ | ⟨rfl, ht1, ht2⟩ | ⟨rfl, ht1, ht2⟩ | ⟨rfl, ht1, ht2⟩ | ⟨rfl, ht1, ht2⟩ | ⟨rfl, ht1, ht2⟩
  · refine Go.ldJ (pc' := 27) (k := 0) (v := (.long (1 : Int64))) hA (by omega) rfl d1_26 rfl ?_
    refine Go.lcmp (pc' := 28) d1_27 rfl ?_
    refine Go.ifw (pc1 := 36) (pc2 := 31) d1_28 (by decide) (by decide) rfl (fun (c_95 : (1 : Int) ≤ x_87.toInt) => ?_) (fun (c_95 : x_87.toInt < (1 : Int)) => ?_)
    · refine Go.iload (pc' := 38) d1_36 rfl rfl ?_
      refine Go.iconst (pc' := 39) (v := (1 : Int32)) d1_38 rfl rfl ?_
      refine Go.iadd (pc' := 40) d1_39 rfl ?_
      generalize ev_96 : e_93 + (1 : Int32) = v_96
      have k_97 : v_96.toInt = 1 := by
        rw [← ev_96]
        have : (1 : Int32).toInt = 1 := by decide
        have := c_iadd e_93 (1 : Int32)
        have := rng32 (e_93 + (1 : Int32))
        have := rng32 e_93
        omega
      exact Go.retI d1_40 rfl ⟨_, rfl, rfl, Or.inl ⟨by omega, by omega⟩⟩ (by decide) (by decide)
    · refine Go.iload (pc' := 33) d1_31 rfl rfl ?_
      refine Go.goto (pc' := 40) d1_33 (by decide) (by decide) ?_
      exfalso; omega
  · refine Go.ldJ (pc' := 27) (k := 1) (v := (.long (10 : Int64))) hA (by omega) rfl d1_26 rfl ?_
    refine Go.lcmp (pc' := 28) d1_27 rfl ?_
    refine Go.ifw (pc1 := 36) (pc2 := 31) d1_28 (by decide) (by decide) rfl (fun (c_98 : (10 : Int) ≤ x_87.toInt) => ?_) (fun (c_98 : x_87.toInt < (10 : Int)) => ?_)
    · refine Go.iload (pc' := 38) d1_36 rfl rfl ?_
      refine Go.iconst (pc' := 39) (v := (1 : Int32)) d1_38 rfl rfl ?_
      refine Go.iadd (pc' := 40) d1_39 rfl ?_
      generalize ev_99 : e_93 + (1 : Int32) = v_99
      have k_100 : v_99.toInt = 2 := by
        rw [← ev_99]
        have : (1 : Int32).toInt = 1 := by decide
        have := c_iadd e_93 (1 : Int32)
        have := rng32 (e_93 + (1 : Int32))
        have := rng32 e_93
        omega
      exact Go.retI d1_40 rfl ⟨_, rfl, rfl, Or.inr (Or.inl ⟨by omega, by omega, by omega⟩)⟩ (by decide) (by decide)
    · refine Go.iload (pc' := 33) d1_31 rfl rfl ?_
      refine Go.goto (pc' := 40) d1_33 (by decide) (by decide) ?_
      exact Go.retI d1_40 rfl ⟨_, rfl, rfl, Or.inl ⟨by omega, by omega⟩⟩ (by decide) (by decide)
  · refine Go.ldJ (pc' := 27) (k := 2) (v := (.long (100 : Int64))) hA (by omega) rfl d1_26 rfl ?_
    refine Go.lcmp (pc' := 28) d1_27 rfl ?_
    refine Go.ifw (pc1 := 36) (pc2 := 31) d1_28 (by decide) (by decide) rfl (fun (c_101 : (100 : Int) ≤ x_87.toInt) => ?_) (fun (c_101 : x_87.toInt < (100 : Int)) => ?_)
    · refine Go.iload (pc' := 38) d1_36 rfl rfl ?_
      refine Go.iconst (pc' := 39) (v := (1 : Int32)) d1_38 rfl rfl ?_
      refine Go.iadd (pc' := 40) d1_39 rfl ?_
      generalize ev_102 : e_93 + (1 : Int32) = v_102
      have k_103 : v_102.toInt = 3 := by
        rw [← ev_102]
        have : (1 : Int32).toInt = 1 := by decide
        have := c_iadd e_93 (1 : Int32)
        have := rng32 (e_93 + (1 : Int32))
        have := rng32 e_93
        omega
      exact Go.retI d1_40 rfl ⟨_, rfl, rfl, Or.inr (Or.inr (Or.inl ⟨by omega, by omega, by omega⟩))⟩ (by decide) (by decide)
    · refine Go.iload (pc' := 33) d1_31 rfl rfl ?_
      refine Go.goto (pc' := 40) d1_33 (by decide) (by decide) ?_
      exact Go.retI d1_40 rfl ⟨_, rfl, rfl, Or.inr (Or.inl ⟨by omega, by omega, by omega⟩)⟩ (by decide) (by decide)
  · refine Go.ldJ (pc' := 27) (k := 3) (v := (.long (1000 : Int64))) hA (by omega) rfl d1_26 rfl ?_
    refine Go.lcmp (pc' := 28) d1_27 rfl ?_
    refine Go.ifw (pc1 := 36) (pc2 := 31) d1_28 (by decide) (by decide) rfl (fun (c_104 : (1000 : Int) ≤ x_87.toInt) => ?_) (fun (c_104 : x_87.toInt < (1000 : Int)) => ?_)
    · refine Go.iload (pc' := 38) d1_36 rfl rfl ?_
      refine Go.iconst (pc' := 39) (v := (1 : Int32)) d1_38 rfl rfl ?_
      refine Go.iadd (pc' := 40) d1_39 rfl ?_
      generalize ev_105 : e_93 + (1 : Int32) = v_105
      have k_106 : v_105.toInt = 4 := by
        rw [← ev_105]
        have : (1 : Int32).toInt = 1 := by decide
        have := c_iadd e_93 (1 : Int32)
        have := rng32 (e_93 + (1 : Int32))
        have := rng32 e_93
        omega
      exact Go.retI d1_40 rfl ⟨_, rfl, rfl, Or.inr (Or.inr (Or.inr (Or.inl ⟨by omega, by omega, by omega⟩)))⟩ (by decide) (by decide)
    · refine Go.iload (pc' := 33) d1_31 rfl rfl ?_
      refine Go.goto (pc' := 40) d1_33 (by decide) (by decide) ?_
      exact Go.retI d1_40 rfl ⟨_, rfl, rfl, Or.inr (Or.inr (Or.inl ⟨by omega, by omega, by omega⟩))⟩ (by decide) (by decide)
  · refine Go.ldJ (pc' := 27) (k := 4) (v := (.long (10000 : Int64))) hA (by omega) rfl d1_26 rfl ?_
    refine Go.lcmp (pc' := 28) d1_27 rfl ?_
    refine Go.ifw (pc1 := 36) (pc2 := 31) d1_28 (by decide) (by decide) rfl (fun (c_107 : (10000 : Int) ≤ x_87.toInt) => ?_) (fun (c_107 : x_87.toInt < (10000 : Int)) => ?_)
    · refine Go.iload (pc' := 38) d1_36 rfl rfl ?_
      refine Go.iconst (pc' := 39) (v := (1 : Int32)) d1_38 rfl rfl ?_
      refine Go.iadd (pc' := 40) d1_39 rfl ?_
      generalize ev_108 : e_93 + (1 : Int32) = v_108
      have k_109 : v_108.toInt = 5 := by
        rw [← ev_108]
        have : (1 : Int32).toInt = 1 := by decide
        have := c_iadd e_93 (1 : Int32)
        have := rng32 (e_93 + (1 : Int32))
        have := rng32 e_93
        omega
      exact Go.retI d1_40 rfl ⟨_, rfl, rfl, Or.inr (Or.inr (Or.inr (Or.inr (Or.inl ⟨by omega, by omega, by omega⟩))))⟩ (by decide) (by decide)
    · refine Go.iload (pc' := 33) d1_31 rfl rfl ?_
      refine Go.goto (pc' := 40) d1_33 (by decide) (by decide) ?_
      exact Go.retI d1_40 rfl ⟨_, rfl, rfl, Or.inr (Or.inr (Or.inr (Or.inl ⟨by omega, by omega, by omega⟩)))⟩ (by decide) (by decide)
  · refine Go.ldJ (pc' := 27) (k := 5) (v := (.long (100000 : Int64))) hA (by omega) rfl d1_26 rfl ?_
    refine Go.lcmp (pc' := 28) d1_27 rfl ?_
    refine Go.ifw (pc1 := 36) (pc2 := 31) d1_28 (by decide) (by decide) rfl (fun (c_110 : (100000 : Int) ≤ x_87.toInt) => ?_) (fun (c_110 : x_87.toInt < (100000 : Int)) => ?_)
    · refine Go.iload (pc' := 38) d1_36 rfl rfl ?_
      refine Go.iconst (pc' := 39) (v := (1 : Int32)) d1_38 rfl rfl ?_
      refine Go.iadd (pc' := 40) d1_39 rfl ?_
      generalize ev_111 : e_93 + (1 : Int32) = v_111
      have k_112 : v_111.toInt = 6 := by
        rw [← ev_111]
        have : (1 : Int32).toInt = 1 := by decide
        have := c_iadd e_93 (1 : Int32)
        have := rng32 (e_93 + (1 : Int32))
        have := rng32 e_93
        omega
      exact Go.retI d1_40 rfl ⟨_, rfl, rfl, Or.inr (Or.inr (Or.inr (Or.inr (Or.inr (Or.inl ⟨by omega, by omega, by omega⟩)))))⟩ (by decide) (by decide)
    · refine Go.iload (pc' := 33) d1_31 rfl rfl ?_
      refine Go.goto (pc' := 40) d1_33 (by decide) (by decide) ?_
      exact Go.retI d1_40 rfl ⟨_, rfl, rfl, Or.inr (Or.inr (Or.inr (Or.inr (Or.inl ⟨by omega, by omega, by omega⟩))))⟩ (by decide) (by decide)
  · refine Go.ldJ (pc' := 27) (k := 6) (v := (.long (1000000 : Int64))) hA (by omega) rfl d1_26 rfl ?_
    refine Go.lcmp (pc' := 28) d1_27 rfl ?_
    refine Go.ifw (pc1 := 36) (pc2 := 31) d1_28 (by decide) (by decide) rfl (fun (c_113 : (1000000 : Int) ≤ x_87.toInt) => ?_) (fun (c_113 : x_87.toInt < (1000000 : Int)) => ?_)
    · refine Go.iload (pc' := 38) d1_36 rfl rfl ?_
      refine Go.iconst (pc' := 39) (v := (1 : Int32)) d1_38 rfl rfl ?_
      refine Go.iadd (pc' := 40) d1_39 rfl ?_
      generalize ev_114 : e_93 + (1 : Int32) = v_114
      have k_115 : v_114.toInt = 7 := by
        rw [← ev_114]
        have : (1 : Int32).toInt = 1 := by decide
        have := c_iadd e_93 (1 : Int32)
        have := rng32 (e_93 + (1 : Int32))
        have := rng32 e_93
        omega
      exact Go.retI d1_40 rfl ⟨_, rfl, rfl, Or.inr (Or.inr (Or.inr (Or.inr (Or.inr (Or.inr (Or.inl ⟨by omega, by omega, by omega⟩))))))⟩ (by decide) (by decide)
    · refine Go.iload (pc' := 33) d1_31 rfl rfl ?_
      refine Go.goto (pc' := 40) d1_33 (by decide) (by decide) ?_
      exact Go.retI d1_40 rfl ⟨_, rfl, rfl, Or.inr (Or.inr (Or.inr (Or.inr (Or.inr (Or.inl ⟨by omega, by omega, by omega⟩)))))⟩ (by decide) (by decide)
  · refine Go.ldJ (pc' := 27) (k := 7) (v := (.long (10000000 : Int64))) hA (by omega) rfl d1_26 rfl ?_
    refine Go.lcmp (pc' := 28) d1_27 rfl ?_
    refine Go.ifw (pc1 := 36) (pc2 := 31) d1_28 (by decide) (by decide) rfl (fun (c_116 : (10000000 : Int) ≤ x_87.toInt) => ?_) (fun (c_116 : x_87.toInt < (10000000 : Int)) => ?_)
    · refine Go.iload (pc' := 38) d1_36 rfl rfl ?_
      refine Go.iconst (pc' := 39) (v := (1 : Int32)) d1_38 rfl rfl ?_
      refine Go.iadd (pc' := 40) d1_39 rfl ?_
      generalize ev_117 : e_93 + (1 : Int32) = v_117
      have k_118 : v_117.toInt = 8 := by
        rw [← ev_117]
        have : (1 : Int32).toInt = 1 := by decide
        have := c_iadd e_93 (1 : Int32)
        have := rng32 (e_93 + (1 : Int32))
        have := rng32 e_93
        omega
      exact Go.retI d1_40 rfl ⟨_, rfl, rfl, Or.inr (Or.inr (Or.inr (Or.inr (Or.inr (Or.inr (Or.inr (Or.inl ⟨by omega, by omega, by omega⟩)))))))⟩ (by decide) (by decide)
    · refine Go.iload (pc' := 33) d1_31 rfl rfl ?_
      refine Go.goto (pc' := 40) d1_33 (by decide) (by decide) ?_
      exact Go.retI d1_40 rfl ⟨_, rfl, rfl, Or.inr (Or.inr (Or.inr (Or.inr (Or.inr (Or.inr (Or.inl ⟨by omega, by omega, by omega⟩))))))⟩ (by decide) (by decide)
  · refine Go.ldJ (pc' := 27) (k := 8) (v := (.long (100000000 : Int64))) hA (by omega) rfl d1_26 rfl ?_
    refine Go.lcmp (pc' := 28) d1_27 rfl ?_
    refine Go.ifw (pc1 := 36) (pc2 := 31) d1_28 (by decide) (by decide) rfl (fun (c_119 : (100000000 : Int) ≤ x_87.toInt) => ?_) (fun (c_119 : x_87.toInt < (100000000 : Int)) => ?_)
    · refine Go.iload (pc' := 38) d1_36 rfl rfl ?_
      refine Go.iconst (pc' := 39) (v := (1 : Int32)) d1_38 rfl rfl ?_
      refine Go.iadd (pc' := 40) d1_39 rfl ?_
      generalize ev_120 : e_93 + (1 : Int32) = v_120
      have k_121 : v_120.toInt = 9 := by
        rw [← ev_120]
        have : (1 : Int32).toInt = 1 := by decide
        have := c_iadd e_93 (1 : Int32)
        have := rng32 (e_93 + (1 : Int32))
        have := rng32 e_93
        omega
      exact Go.retI d1_40 rfl ⟨_, rfl, rfl, Or.inr (Or.inr (Or.inr (Or.inr (Or.inr (Or.inr (Or.inr (Or.inr (Or.inl ⟨by omega, by omega, by omega⟩))))))))⟩ (by decide) (by decide)
    · refine Go.iload (pc' := 33) d1_31 rfl rfl ?_
      refine Go.goto (pc' := 40) d1_33 (by decide) (by decide) ?_
      exact Go.retI d1_40 rfl ⟨_, rfl, rfl, Or.inr (Or.inr (Or.inr (Or.inr (Or.inr (Or.inr (Or.inr (Or.inl ⟨by omega, by omega, by omega⟩)))))))⟩ (by decide) (by decide)
  · refine Go.ldJ (pc' := 27) (k := 9) (v := (.long (1000000000 : Int64))) hA (by omega) rfl d1_26 rfl ?_
    refine Go.lcmp (pc' := 28) d1_27 rfl ?_
    refine Go.ifw (pc1 := 36) (pc2 := 31) d1_28 (by decide) (by decide) rfl (fun (c_122 : (1000000000 : Int) ≤ x_87.toInt) => ?_) (fun (c_122 : x_87.toInt < (1000000000 : Int)) => ?_)
    · refine Go.iload (pc' := 38) d1_36 rfl rfl ?_
      refine Go.iconst (pc' := 39) (v := (1 : Int32)) d1_38 rfl rfl ?_
      refine Go.iadd (pc' := 40) d1_39 rfl ?_
      generalize ev_123 : e_93 + (1 : Int32) = v_123
      have k_124 : v_123.toInt = 10 := by
        rw [← ev_123]
        have : (1 : Int32).toInt = 1 := by decide
        have := c_iadd e_93 (1 : Int32)
        have := rng32 (e_93 + (1 : Int32))
        have := rng32 e_93
        omega
      exact Go.retI d1_40 rfl ⟨_, rfl, rfl, Or.inr (Or.inr (Or.inr (Or.inr (Or.inr (Or.inr (Or.inr (Or.inr (Or.inr (Or.inl ⟨by omega, by omega, by omega⟩)))))))))⟩ (by decide) (by decide)
    · refine Go.iload (pc' := 33) d1_31 rfl rfl ?_
      refine Go.goto (pc' := 40) d1_33 (by decide) (by decide) ?_
      exact Go.retI d1_40 rfl ⟨_, rfl, rfl, Or.inr (Or.inr (Or.inr (Or.inr (Or.inr (Or.inr (Or.inr (Or.inr (Or.inl ⟨by omega, by omega, by omega⟩))))))))⟩ (by decide) (by decide)
  · refine Go.ldJ (pc' := 27) (k := 10) (v := (.long (10000000000 : Int64))) hA (by omega) rfl d1_26 rfl ?_
    refine Go.lcmp (pc' := 28) d1_27 rfl ?_
    refine Go.ifw (pc1 := 36) (pc2 := 31) d1_28 (by decide) (by decide) rfl (fun (c_125 : (10000000000 : Int) ≤ x_87.toInt) => ?_) (fun (c_125 : x_87.toInt < (10000000000 : Int)) => ?_)
    · refine Go.iload (pc' := 38) d1_36 rfl rfl ?_
      refine Go.iconst (pc' := 39) (v := (1 : Int32)) d1_38 rfl rfl ?_
      refine Go.iadd (pc' := 40) d1_39 rfl ?_
      generalize ev_126 : e_93 + (1 : Int32) = v_126
      have k_127 : v_126.toInt = 11 := by
        rw [← ev_126]
        have : (1 : Int32).toInt = 1 := by decide
        have := c_iadd e_93 (1 : Int32)
        have := rng32 (e_93 + (1 : Int32))
        have := rng32 e_93
        omega
      exact Go.retI d1_40 rfl ⟨_, rfl, rfl, Or.inr (Or.inr (Or.inr (Or.inr (Or.inr (Or.inr (Or.inr (Or.inr (Or.inr (Or.inr (Or.inl ⟨by omega, by omega, by omega⟩))))))))))⟩ (by decide) (by decide)
    · refine Go.iload (pc' := 33) d1_31 rfl rfl ?_
      refine Go.goto (pc' := 40) d1_33 (by decide) (by decide) ?_
      exact Go.retI d1_40 rfl ⟨_, rfl, rfl, Or.inr (Or.inr (Or.inr (Or.inr (Or.inr (Or.inr (Or.inr (Or.inr (Or.inr (Or.inl ⟨by omega, by omega, by omega⟩)))))))))⟩ (by decide) (by decide)
  · refine Go.ldJ (pc' := 27) (k := 11) (v := (.long (100000000000 : Int64))) hA (by omega) rfl d1_26 rfl ?_
    refine Go.lcmp (pc' := 28) d1_27 rfl ?_
    refine Go.ifw (pc1 := 36) (pc2 := 31) d1_28 (by decide) (by decide) rfl (fun (c_128 : (100000000000 : Int) ≤ x_87.toInt) => ?_) (fun (c_128 : x_87.toInt < (100000000000 : Int)) => ?_)
    · refine Go.iload (pc' := 38) d1_36 rfl rfl ?_
      refine Go.iconst (pc' := 39) (v := (1 : Int32)) d1_38 rfl rfl ?_
      refine Go.iadd (pc' := 40) d1_39 rfl ?_
      generalize ev_129 : e_93 + (1 : Int32) = v_129
      have k_130 : v_129.toInt = 12 := by
        rw [← ev_129]
        have : (1 : Int32).toInt = 1 := by decide
        have := c_iadd e_93 (1 : Int32)
        have := rng32 (e_93 + (1 : Int32))
        have := rng32 e_93
        omega
      exact Go.retI d1_40 rfl ⟨_, rfl, rfl, Or.inr (Or.inr (Or.inr (Or.inr (Or.inr (Or.inr (Or.inr (Or.inr (Or.inr (Or.inr (Or.inr (Or.inl ⟨by omega, by omega, by omega⟩)))))))))))⟩ (by decide) (by decide)
    · refine Go.iload (pc' := 33) d1_31 rfl rfl ?_
      refine Go.goto (pc' := 40) d1_33 (by decide) (by decide) ?_
      exact Go.retI d1_40 rfl ⟨_, rfl, rfl, Or.inr (Or.inr (Or.inr (Or.inr (Or.inr (Or.inr (Or.inr (Or.inr (Or.inr (Or.inr (Or.inl ⟨by omega, by omega, by omega⟩))))))))))⟩ (by decide) (by decide)
  · refine Go.ldJ (pc' := 27) (k := 12) (v := (.long (1000000000000 : Int64))) hA (by omega) rfl d1_26 rfl ?_
    refine Go.lcmp (pc' := 28) d1_27 rfl ?_
    refine Go.ifw (pc1 := 36) (pc2 := 31) d1_28 (by decide) (by decide) rfl (fun (c_131 : (1000000000000 : Int) ≤ x_87.toInt) => ?_) (fun (c_131 : x_87.toInt < (1000000000000 : Int)) => ?_)
    · refine Go.iload (pc' := 38) d1_36 rfl rfl ?_
      refine Go.iconst (pc' := 39) (v := (1 : Int32)) d1_38 rfl rfl ?_
      refine Go.iadd (pc' := 40) d1_39 rfl ?_
      generalize ev_132 : e_93 + (1 : Int32) = v_132
      have k_133 : v_132.toInt = 13 := by
        rw [← ev_132]
        have : (1 : Int32).toInt = 1 := by decide
        have := c_iadd e_93 (1 : Int32)
        have := rng32 (e_93 + (1 : Int32))
        have := rng32 e_93
        omega
      exact Go.retI d1_40 rfl ⟨_, rfl, rfl, Or.inr (Or.inr (Or.inr (Or.inr (Or.inr (Or.inr (Or.inr (Or.inr (Or.inr (Or.inr (Or.inr (Or.inr (Or.inl ⟨by omega, by omega, by omega⟩))))))))))))⟩ (by decide) (by decide)
    · refine Go.iload (pc' := 33) d1_31 rfl rfl ?_
      refine Go.goto (pc' := 40) d1_33 (by decide) (by decide) ?_
      exact Go.retI d1_40 rfl ⟨_, rfl, rfl, Or.inr (Or.inr (Or.inr (Or.inr (Or.inr (Or.inr (Or.inr (Or.inr (Or.inr (Or.inr (Or.inr (Or.inl ⟨by omega, by omega, by omega⟩)))))))))))⟩ (by decide) (by decide)
  · refine Go.ldJ (pc' := 27) (k := 13) (v := (.long (10000000000000 : Int64))) hA (by omega) rfl d1_26 rfl ?_
    refine Go.lcmp (pc' := 28) d1_27 rfl ?_
    refine Go.ifw (pc1 := 36) (pc2 := 31) d1_28 (by decide) (by decide) rfl (fun (c_134 : (10000000000000 : Int) ≤ x_87.toInt) => ?_) (fun (c_134 : x_87.toInt < (10000000000000 : Int)) => ?_)
    · refine Go.iload (pc' := 38) d1_36 rfl rfl ?_
      refine Go.iconst (pc' := 39) (v := (1 : Int32)) d1_38 rfl rfl ?_
      refine Go.iadd (pc' := 40) d1_39 rfl ?_
      generalize ev_135 : e_93 + (1 : Int32) = v_135
      have k_136 : v_135.toInt = 14 := by
        rw [← ev_135]
        have : (1 : Int32).toInt = 1 := by decide
        have := c_iadd e_93 (1 : Int32)
        have := rng32 (e_93 + (1 : Int32))
        have := rng32 e_93
        omega
      exact Go.retI d1_40 rfl ⟨_, rfl, rfl, Or.inr (Or.inr (Or.inr (Or.inr (Or.inr (Or.inr (Or.inr (Or.inr (Or.inr (Or.inr (Or.inr (Or.inr (Or.inr (Or.inl ⟨by omega, by omega, by omega⟩)))))))))))))⟩ (by decide) (by decide)
    · refine Go.iload (pc' := 33) d1_31 rfl rfl ?_
      refine Go.goto (pc' := 40) d1_33 (by decide) (by decide) ?_
      exact Go.retI d1_40 rfl ⟨_, rfl, rfl, Or.inr (Or.inr (Or.inr (Or.inr (Or.inr (Or.inr (Or.inr (Or.inr (Or.inr (Or.inr (Or.inr (Or.inr (Or.inl ⟨by omega, by omega, by omega⟩))))))))))))⟩ (by decide) (by decide)
  · refine Go.ldJ (pc' := 27) (k := 14) (v := (.long (100000000000000 : Int64))) hA (by omega) rfl d1_26 rfl ?_
    refine Go.lcmp (pc' := 28) d1_27 rfl ?_
    refine Go.ifw (pc1 := 36) (pc2 := 31) d1_28 (by decide) (by decide) rfl (fun (c_137 : (100000000000000 : Int) ≤ x_87.toInt) => ?_) (fun (c_137 : x_87.toInt < (100000000000000 : Int)) => ?_)
    · refine Go.iload (pc' := 38) d1_36 rfl rfl ?_
      refine Go.iconst (pc' := 39) (v := (1 : Int32)) d1_38 rfl rfl ?_
      refine Go.iadd (pc' := 40) d1_39 rfl ?_
      generalize ev_138 : e_93 + (1 : Int32) = v_138
      have k_139 : v_138.toInt = 15 := by
        rw [← ev_138]
        have : (1 : Int32).toInt = 1 := by decide
        have := c_iadd e_93 (1 : Int32)
        have := rng32 (e_93 + (1 : Int32))
        have := rng32 e_93
        omega
      exact Go.retI d1_40 rfl ⟨_, rfl, rfl, Or.inr (Or.inr (Or.inr (Or.inr (Or.inr (Or.inr (Or.inr (Or.inr (Or.inr (Or.inr (Or.inr (Or.inr (Or.inr (Or.inr (Or.inl ⟨by omega, by omega, by omega⟩))))))))))))))⟩ (by decide) (by decide)
    · refine Go.iload (pc' := 33) d1_31 rfl rfl ?_
      refine Go.goto (pc' := 40) d1_33 (by decide) (by decide) ?_
      exact Go.retI d1_40 rfl ⟨_, rfl, rfl, Or.inr (Or.inr (Or.inr (Or.inr (Or.inr (Or.inr (Or.inr (Or.inr (Or.inr (Or.inr (Or.inr (Or.inr (Or.inr (Or.inl ⟨by omega, by omega, by omega⟩)))))))))))))⟩ (by decide) (by decide)
  · refine Go.ldJ (pc' := 27) (k := 15) (v := (.long (1000000000000000 : Int64))) hA (by omega) rfl d1_26 rfl ?_
    refine Go.lcmp (pc' := 28) d1_27 rfl ?_
    refine Go.ifw (pc1 := 36) (pc2 := 31) d1_28 (by decide) (by decide) rfl (fun (c_140 : (1000000000000000 : Int) ≤ x_87.toInt) => ?_) (fun (c_140 : x_87.toInt < (1000000000000000 : Int)) => ?_)
    · refine Go.iload (pc' := 38) d1_36 rfl rfl ?_
      refine Go.iconst (pc' := 39) (v := (1 : Int32)) d1_38 rfl rfl ?_
      refine Go.iadd (pc' := 40) d1_39 rfl ?_
      generalize ev_141 : e_93 + (1 : Int32) = v_141
      have k_142 : v_141.toInt = 16 := by
        rw [← ev_141]
        have : (1 : Int32).toInt = 1 := by decide
        have := c_iadd e_93 (1 : Int32)
        have := rng32 (e_93 + (1 : Int32))
        have := rng32 e_93
        omega
      exact Go.retI d1_40 rfl ⟨_, rfl, rfl, Or.inr (Or.inr (Or.inr (Or.inr (Or.inr (Or.inr (Or.inr (Or.inr (Or.inr (Or.inr (Or.inr (Or.inr (Or.inr (Or.inr (Or.inr (Or.inl ⟨by omega, by omega, by omega⟩)))))))))))))))⟩ (by decide) (by decide)
    · refine Go.iload (pc' := 33) d1_31 rfl rfl ?_
      refine Go.goto (pc' := 40) d1_33 (by decide) (by decide) ?_
      exact Go.retI d1_40 rfl ⟨_, rfl, rfl, Or.inr (Or.inr (Or.inr (Or.inr (Or.inr (Or.inr (Or.inr (Or.inr (Or.inr (Or.inr (Or.inr (Or.inr (Or.inr (Or.inr (Or.inl ⟨by omega, by omega, by omega⟩))))))))))))))⟩ (by decide) (by decide)
  · refine Go.ldJ (pc' := 27) (k := 16) (v := (.long (10000000000000000 : Int64))) hA (by omega) rfl d1_26 rfl ?_
    refine Go.lcmp (pc' := 28) d1_27 rfl ?_
    refine Go.ifw (pc1 := 36) (pc2 := 31) d1_28 (by decide) (by decide) rfl (fun (c_143 : (10000000000000000 : Int) ≤ x_87.toInt) => ?_) (fun (c_143 : x_87.toInt < (10000000000000000 : Int)) => ?_)
    · refine Go.iload (pc' := 38) d1_36 rfl rfl ?_
      refine Go.iconst (pc' := 39) (v := (1 : Int32)) d1_38 rfl rfl ?_
      refine Go.iadd (pc' := 40) d1_39 rfl ?_
      generalize ev_144 : e_93 + (1 : Int32) = v_144
      have k_145 : v_144.toInt = 17 := by
        rw [← ev_144]
        have : (1 : Int32).toInt = 1 := by decide
        have := c_iadd e_93 (1 : Int32)
        have := rng32 (e_93 + (1 : Int32))
        have := rng32 e_93
        omega
      exact Go.retI d1_40 rfl ⟨_, rfl, rfl, Or.inr (Or.inr (Or.inr (Or.inr (Or.inr (Or.inr (Or.inr (Or.inr (Or.inr (Or.inr (Or.inr (Or.inr (Or.inr (Or.inr (Or.inr (Or.inr (Or.inl ⟨by omega, by omega, by omega⟩))))))))))))))))⟩ (by decide) (by decide)
    · refine Go.iload (pc' := 33) d1_31 rfl rfl ?_
      refine Go.goto (pc' := 40) d1_33 (by decide) (by decide) ?_
      exact Go.retI d1_40 rfl ⟨_, rfl, rfl, Or.inr (Or.inr (Or.inr (Or.inr (Or.inr (Or.inr (Or.inr (Or.inr (Or.inr (Or.inr (Or.inr (Or.inr (Or.inr (Or.inr (Or.inr (Or.inl ⟨by omega, by omega, by omega⟩)))))))))))))))⟩ (by decide) (by decide)
  · refine Go.ldJ (pc' := 27) (k := 17) (v := (.long (100000000000000000 : Int64))) hA (by omega) rfl d1_26 rfl ?_
    refine Go.lcmp (pc' := 28) d1_27 rfl ?_
    refine Go.ifw (pc1 := 36) (pc2 := 31) d1_28 (by decide) (by decide) rfl (fun (c_146 : (100000000000000000 : Int) ≤ x_87.toInt) => ?_) (fun (c_146 : x_87.toInt < (100000000000000000 : Int)) => ?_)
    · refine Go.iload (pc' := 38) d1_36 rfl rfl ?_
      refine Go.iconst (pc' := 39) (v := (1 : Int32)) d1_38 rfl rfl ?_
      refine Go.iadd (pc' := 40) d1_39 rfl ?_
      generalize ev_147 : e_93 + (1 : Int32) = v_147
      have k_148 : v_147.toInt = 18 := by
        rw [← ev_147]
        have : (1 : Int32).toInt = 1 := by decide
        have := c_iadd e_93 (1 : Int32)
        have := rng32 (e_93 + (1 : Int32))
        have := rng32 e_93
        omega
      exact Go.retI d1_40 rfl ⟨_, rfl, rfl, Or.inr (Or.inr (Or.inr (Or.inr (Or.inr (Or.inr (Or.inr (Or.inr (Or.inr (Or.inr (Or.inr (Or.inr (Or.inr (Or.inr (Or.inr (Or.inr (Or.inr (Or.inl ⟨by omega, by omega, by omega⟩)))))))))))))))))⟩ (by decide) (by decide)
    · refine Go.iload (pc' := 33) d1_31 rfl rfl ?_
      refine Go.goto (pc' := 40) d1_33 (by decide) (by decide) ?_
      exact Go.retI d1_40 rfl ⟨_, rfl, rfl, Or.inr (Or.inr (Or.inr (Or.inr (Or.inr (Or.inr (Or.inr (Or.inr (Or.inr (Or.inr (Or.inr (Or.inr (Or.inr (Or.inr (Or.inr (Or.inr (Or.inl ⟨by omega, by omega, by omega⟩))))))))))))))))⟩ (by decide) (by decide)
  · refine Go.ldJ (pc' := 27) (k := 18) (v := (.long (1000000000000000000 : Int64))) hA (by omega) rfl d1_26 rfl ?_
    refine Go.lcmp (pc' := 28) d1_27 rfl ?_
    refine Go.ifw (pc1 := 36) (pc2 := 31) d1_28 (by decide) (by decide) rfl (fun (c_149 : (1000000000000000000 : Int) ≤ x_87.toInt) => ?_) (fun (c_149 : x_87.toInt < (1000000000000000000 : Int)) => ?_)
    · refine Go.iload (pc' := 38) d1_36 rfl rfl ?_
      refine Go.iconst (pc' := 39) (v := (1 : Int32)) d1_38 rfl rfl ?_
      refine Go.iadd (pc' := 40) d1_39 rfl ?_
      generalize ev_150 : e_93 + (1 : Int32) = v_150
      have k_151 : v_150.toInt = 19 := by
        rw [← ev_150]
        have : (1 : Int32).toInt = 1 := by decide
        have := c_iadd e_93 (1 : Int32)
        have := rng32 (e_93 + (1 : Int32))
        have := rng32 e_93
        omega
      exact Go.retI d1_40 rfl ⟨_, rfl, rfl, Or.inr (Or.inr (Or.inr (Or.inr (Or.inr (Or.inr (Or.inr (Or.inr (Or.inr (Or.inr (Or.inr (Or.inr (Or.inr (Or.inr (Or.inr (Or.inr (Or.inr (Or.inr (⟨by omega, by omega⟩))))))))))))))))))⟩ (by decide) (by decide)
    · refine Go.iload (pc' := 33) d1_31 rfl rfl ?_
      refine Go.goto (pc' := 40) d1_33 (by decide) (by decide) ?_
      exact Go.retI d1_40 rfl ⟨_, rfl, rfl, Or.inr (Or.inr (Or.inr (Or.inr (Or.inr (Or.inr (Or.inr (Or.inr (Or.inr (Or.inr (Or.inr (Or.inr (Or.inr (Or.inr (Or.inr (Or.inr (Or.inr (Or.inl ⟨by omega, by omega, by omega⟩)))))))))))))))))⟩ (by decide) (by decide)
set_option maxRecDepth 65536 in
set_option maxHeartbeats 40000000 in
theorem m_r (l : Launch) (Z : State) (a0 : Array Value) (hw : ∀ d ∈ tables_1, d.before a0 Z = true) (p : Int64) (h0 : Heap) (n0 : Nat) (z0 : n0 ≤ h0.size) (hp : 0 ≤ p.toInt) : Mt false l Z (⟨"com/example/tenscale/tenscale/CoefficientDigitCountPinLaw", "reference", "(J)I"⟩ : MethodName) method_3_code 2 (some .int) ({ frames := 0, cells := 0, slots := 0, locals := 0 } : Room) n0 (fun v h => ∃ r : Int32, v = some (.int r) ∧ h0 = h ∧ own_dig p.toInt r.toInt) h0 #[(.long p)] := by
  refine Mt.go (Ls := #[.val (.long p), .second]) (plainFor_of_name pn1) (fun m => by first | (simp [entryFrame, mkF, argsToLocals, Value.category]; done) | rfl) ?_
  show (Go false l ({ frames := 0, cells := 0, slots := 0, locals := 0 } : Room) Z (⟨"com/example/tenscale/tenscale/CoefficientDigitCountPinLaw", "reference", "(J)I"⟩ : MethodName) method_3_code 2 (some .int) n0 0 0 (fun v h => ∃ r : Int32, v = some (.int r) ∧ h0 = h ∧ own_dig p.toInt r.toInt)) h0 0 0 0 #[.val (.long p), .second] []
  refine Go.lloadN (pc' := 1) d4_0 rfl rfl ?_
  refine Go.ldcL (pc' := 4) (hw _ (List.mem_of_getElem? (i := 1) rfl)) d4_1 rfl ?_
  refine Go.lcmp (pc' := 5) d4_4 rfl ?_
  refine Go.ifw (pc1 := 10) (pc2 := 8) d4_5 (by decide) (by decide) rfl (fun (c_152 : (10 : Int) ≤ p.toInt) => ?_) (fun (c_152 : p.toInt < (10 : Int)) => ?_)
  · refine Go.lloadN (pc' := 11) d4_10 rfl rfl ?_
    refine Go.ldcL (pc' := 14) (hw _ (List.mem_of_getElem? (i := 2) rfl)) d4_11 rfl ?_
    refine Go.lcmp (pc' := 15) d4_14 rfl ?_
    refine Go.ifw (pc1 := 20) (pc2 := 18) d4_15 (by decide) (by decide) rfl (fun (c_153 : (100 : Int) ≤ p.toInt) => ?_) (fun (c_153 : p.toInt < (100 : Int)) => ?_)
    · refine Go.lloadN (pc' := 21) d4_20 rfl rfl ?_
      refine Go.ldcL (pc' := 24) (hw _ (List.mem_of_getElem? (i := 3) rfl)) d4_21 rfl ?_
      refine Go.lcmp (pc' := 25) d4_24 rfl ?_
      refine Go.ifw (pc1 := 30) (pc2 := 28) d4_25 (by decide) (by decide) rfl (fun (c_154 : (1000 : Int) ≤ p.toInt) => ?_) (fun (c_154 : p.toInt < (1000 : Int)) => ?_)
      · refine Go.lloadN (pc' := 31) d4_30 rfl rfl ?_
        refine Go.ldcL (pc' := 34) (hw _ (List.mem_of_getElem? (i := 4) rfl)) d4_31 rfl ?_
        refine Go.lcmp (pc' := 35) d4_34 rfl ?_
        refine Go.ifw (pc1 := 40) (pc2 := 38) d4_35 (by decide) (by decide) rfl (fun (c_155 : (10000 : Int) ≤ p.toInt) => ?_) (fun (c_155 : p.toInt < (10000 : Int)) => ?_)
        · refine Go.lloadN (pc' := 41) d4_40 rfl rfl ?_
          refine Go.ldcL (pc' := 44) (hw _ (List.mem_of_getElem? (i := 5) rfl)) d4_41 rfl ?_
          refine Go.lcmp (pc' := 45) d4_44 rfl ?_
          refine Go.ifw (pc1 := 50) (pc2 := 48) d4_45 (by decide) (by decide) rfl (fun (c_156 : (100000 : Int) ≤ p.toInt) => ?_) (fun (c_156 : p.toInt < (100000 : Int)) => ?_)
          · refine Go.lloadN (pc' := 51) d4_50 rfl rfl ?_
            refine Go.ldcL (pc' := 54) (hw _ (List.mem_of_getElem? (i := 6) rfl)) d4_51 rfl ?_
            refine Go.lcmp (pc' := 55) d4_54 rfl ?_
            refine Go.ifw (pc1 := 61) (pc2 := 58) d4_55 (by decide) (by decide) rfl (fun (c_157 : (1000000 : Int) ≤ p.toInt) => ?_) (fun (c_157 : p.toInt < (1000000 : Int)) => ?_)
            · refine Go.lloadN (pc' := 62) d4_61 rfl rfl ?_
              refine Go.ldcL (pc' := 65) (hw _ (List.mem_of_getElem? (i := 7) rfl)) d4_62 rfl ?_
              refine Go.lcmp (pc' := 66) d4_65 rfl ?_
              refine Go.ifw (pc1 := 72) (pc2 := 69) d4_66 (by decide) (by decide) rfl (fun (c_158 : (10000000 : Int) ≤ p.toInt) => ?_) (fun (c_158 : p.toInt < (10000000 : Int)) => ?_)
              · refine Go.lloadN (pc' := 73) d4_72 rfl rfl ?_
                refine Go.ldcL (pc' := 76) (hw _ (List.mem_of_getElem? (i := 8) rfl)) d4_73 rfl ?_
                refine Go.lcmp (pc' := 77) d4_76 rfl ?_
                refine Go.ifw (pc1 := 83) (pc2 := 80) d4_77 (by decide) (by decide) rfl (fun (c_159 : (100000000 : Int) ≤ p.toInt) => ?_) (fun (c_159 : p.toInt < (100000000 : Int)) => ?_)
                · refine Go.lloadN (pc' := 84) d4_83 rfl rfl ?_
                  refine Go.ldcL (pc' := 87) (hw _ (List.mem_of_getElem? (i := 9) rfl)) d4_84 rfl ?_
                  refine Go.lcmp (pc' := 88) d4_87 rfl ?_
                  refine Go.ifw (pc1 := 94) (pc2 := 91) d4_88 (by decide) (by decide) rfl (fun (c_160 : (1000000000 : Int) ≤ p.toInt) => ?_) (fun (c_160 : p.toInt < (1000000000 : Int)) => ?_)
                  · refine Go.lloadN (pc' := 95) d4_94 rfl rfl ?_
                    refine Go.ldcL (pc' := 98) (hw _ (List.mem_of_getElem? (i := 10) rfl)) d4_95 rfl ?_
                    refine Go.lcmp (pc' := 99) d4_98 rfl ?_
                    refine Go.ifw (pc1 := 105) (pc2 := 102) d4_99 (by decide) (by decide) rfl (fun (c_161 : (10000000000 : Int) ≤ p.toInt) => ?_) (fun (c_161 : p.toInt < (10000000000 : Int)) => ?_)
                    · refine Go.lloadN (pc' := 106) d4_105 rfl rfl ?_
                      refine Go.ldcL (pc' := 109) (hw _ (List.mem_of_getElem? (i := 11) rfl)) d4_106 rfl ?_
                      refine Go.lcmp (pc' := 110) d4_109 rfl ?_
                      refine Go.ifw (pc1 := 116) (pc2 := 113) d4_110 (by decide) (by decide) rfl (fun (c_162 : (100000000000 : Int) ≤ p.toInt) => ?_) (fun (c_162 : p.toInt < (100000000000 : Int)) => ?_)
                      · refine Go.lloadN (pc' := 117) d4_116 rfl rfl ?_
                        refine Go.ldcL (pc' := 120) (hw _ (List.mem_of_getElem? (i := 12) rfl)) d4_117 rfl ?_
                        refine Go.lcmp (pc' := 121) d4_120 rfl ?_
                        refine Go.ifw (pc1 := 127) (pc2 := 124) d4_121 (by decide) (by decide) rfl (fun (c_163 : (1000000000000 : Int) ≤ p.toInt) => ?_) (fun (c_163 : p.toInt < (1000000000000 : Int)) => ?_)
                        · refine Go.lloadN (pc' := 128) d4_127 rfl rfl ?_
                          refine Go.ldcL (pc' := 131) (hw _ (List.mem_of_getElem? (i := 13) rfl)) d4_128 rfl ?_
                          refine Go.lcmp (pc' := 132) d4_131 rfl ?_
                          refine Go.ifw (pc1 := 138) (pc2 := 135) d4_132 (by decide) (by decide) rfl (fun (c_164 : (10000000000000 : Int) ≤ p.toInt) => ?_) (fun (c_164 : p.toInt < (10000000000000 : Int)) => ?_)
                          · refine Go.lloadN (pc' := 139) d4_138 rfl rfl ?_
                            refine Go.ldcL (pc' := 142) (hw _ (List.mem_of_getElem? (i := 14) rfl)) d4_139 rfl ?_
                            refine Go.lcmp (pc' := 143) d4_142 rfl ?_
                            refine Go.ifw (pc1 := 149) (pc2 := 146) d4_143 (by decide) (by decide) rfl (fun (c_165 : (100000000000000 : Int) ≤ p.toInt) => ?_) (fun (c_165 : p.toInt < (100000000000000 : Int)) => ?_)
                            · refine Go.lloadN (pc' := 150) d4_149 rfl rfl ?_
                              refine Go.ldcL (pc' := 153) (hw _ (List.mem_of_getElem? (i := 15) rfl)) d4_150 rfl ?_
                              refine Go.lcmp (pc' := 154) d4_153 rfl ?_
                              refine Go.ifw (pc1 := 160) (pc2 := 157) d4_154 (by decide) (by decide) rfl (fun (c_166 : (1000000000000000 : Int) ≤ p.toInt) => ?_) (fun (c_166 : p.toInt < (1000000000000000 : Int)) => ?_)
                              · refine Go.lloadN (pc' := 161) d4_160 rfl rfl ?_
                                refine Go.ldcL (pc' := 164) (hw _ (List.mem_of_getElem? (i := 16) rfl)) d4_161 rfl ?_
                                refine Go.lcmp (pc' := 165) d4_164 rfl ?_
                                refine Go.ifw (pc1 := 171) (pc2 := 168) d4_165 (by decide) (by decide) rfl (fun (c_167 : (10000000000000000 : Int) ≤ p.toInt) => ?_) (fun (c_167 : p.toInt < (10000000000000000 : Int)) => ?_)
                                · refine Go.lloadN (pc' := 172) d4_171 rfl rfl ?_
                                  refine Go.ldcL (pc' := 175) (hw _ (List.mem_of_getElem? (i := 17) rfl)) d4_172 rfl ?_
                                  refine Go.lcmp (pc' := 176) d4_175 rfl ?_
                                  refine Go.ifw (pc1 := 182) (pc2 := 179) d4_176 (by decide) (by decide) rfl (fun (c_168 : (100000000000000000 : Int) ≤ p.toInt) => ?_) (fun (c_168 : p.toInt < (100000000000000000 : Int)) => ?_)
                                  · refine Go.lloadN (pc' := 183) d4_182 rfl rfl ?_
                                    refine Go.ldcL (pc' := 186) (hw _ (List.mem_of_getElem? (i := 18) rfl)) d4_183 rfl ?_
                                    refine Go.lcmp (pc' := 187) d4_186 rfl ?_
                                    refine Go.ifw (pc1 := 193) (pc2 := 190) d4_187 (by decide) (by decide) rfl (fun (c_169 : (1000000000000000000 : Int) ≤ p.toInt) => ?_) (fun (c_169 : p.toInt < (1000000000000000000 : Int)) => ?_)
                                    · refine Go.bipush (pc' := 195) (v := (19 : Int32)) d4_193 rfl rfl ?_
                                      have q : (19 : Int32).toInt = 19 := by decide
                                      exact Go.retI d4_195 rfl ⟨_, rfl, rfl, Or.inr (Or.inr (Or.inr (Or.inr (Or.inr (Or.inr (Or.inr (Or.inr (Or.inr (Or.inr (Or.inr (Or.inr (Or.inr (Or.inr (Or.inr (Or.inr (Or.inr (Or.inr (⟨by omega, by omega⟩))))))))))))))))))⟩ (by decide) (by decide)
                                    · refine Go.bipush (pc' := 192) (v := (18 : Int32)) d4_190 rfl rfl ?_
                                      have q : (18 : Int32).toInt = 18 := by decide
                                      exact Go.retI d4_192 rfl ⟨_, rfl, rfl, Or.inr (Or.inr (Or.inr (Or.inr (Or.inr (Or.inr (Or.inr (Or.inr (Or.inr (Or.inr (Or.inr (Or.inr (Or.inr (Or.inr (Or.inr (Or.inr (Or.inr (Or.inl ⟨by omega, by omega, by omega⟩)))))))))))))))))⟩ (by decide) (by decide)
                                  · refine Go.bipush (pc' := 181) (v := (17 : Int32)) d4_179 rfl rfl ?_
                                    have q : (17 : Int32).toInt = 17 := by decide
                                    exact Go.retI d4_181 rfl ⟨_, rfl, rfl, Or.inr (Or.inr (Or.inr (Or.inr (Or.inr (Or.inr (Or.inr (Or.inr (Or.inr (Or.inr (Or.inr (Or.inr (Or.inr (Or.inr (Or.inr (Or.inr (Or.inl ⟨by omega, by omega, by omega⟩))))))))))))))))⟩ (by decide) (by decide)
                                · refine Go.bipush (pc' := 170) (v := (16 : Int32)) d4_168 rfl rfl ?_
                                  have q : (16 : Int32).toInt = 16 := by decide
                                  exact Go.retI d4_170 rfl ⟨_, rfl, rfl, Or.inr (Or.inr (Or.inr (Or.inr (Or.inr (Or.inr (Or.inr (Or.inr (Or.inr (Or.inr (Or.inr (Or.inr (Or.inr (Or.inr (Or.inr (Or.inl ⟨by omega, by omega, by omega⟩)))))))))))))))⟩ (by decide) (by decide)
                              · refine Go.bipush (pc' := 159) (v := (15 : Int32)) d4_157 rfl rfl ?_
                                have q : (15 : Int32).toInt = 15 := by decide
                                exact Go.retI d4_159 rfl ⟨_, rfl, rfl, Or.inr (Or.inr (Or.inr (Or.inr (Or.inr (Or.inr (Or.inr (Or.inr (Or.inr (Or.inr (Or.inr (Or.inr (Or.inr (Or.inr (Or.inl ⟨by omega, by omega, by omega⟩))))))))))))))⟩ (by decide) (by decide)
                            · refine Go.bipush (pc' := 148) (v := (14 : Int32)) d4_146 rfl rfl ?_
                              have q : (14 : Int32).toInt = 14 := by decide
                              exact Go.retI d4_148 rfl ⟨_, rfl, rfl, Or.inr (Or.inr (Or.inr (Or.inr (Or.inr (Or.inr (Or.inr (Or.inr (Or.inr (Or.inr (Or.inr (Or.inr (Or.inr (Or.inl ⟨by omega, by omega, by omega⟩)))))))))))))⟩ (by decide) (by decide)
                          · refine Go.bipush (pc' := 137) (v := (13 : Int32)) d4_135 rfl rfl ?_
                            have q : (13 : Int32).toInt = 13 := by decide
                            exact Go.retI d4_137 rfl ⟨_, rfl, rfl, Or.inr (Or.inr (Or.inr (Or.inr (Or.inr (Or.inr (Or.inr (Or.inr (Or.inr (Or.inr (Or.inr (Or.inr (Or.inl ⟨by omega, by omega, by omega⟩))))))))))))⟩ (by decide) (by decide)
                        · refine Go.bipush (pc' := 126) (v := (12 : Int32)) d4_124 rfl rfl ?_
                          have q : (12 : Int32).toInt = 12 := by decide
                          exact Go.retI d4_126 rfl ⟨_, rfl, rfl, Or.inr (Or.inr (Or.inr (Or.inr (Or.inr (Or.inr (Or.inr (Or.inr (Or.inr (Or.inr (Or.inr (Or.inl ⟨by omega, by omega, by omega⟩)))))))))))⟩ (by decide) (by decide)
                      · refine Go.bipush (pc' := 115) (v := (11 : Int32)) d4_113 rfl rfl ?_
                        have q : (11 : Int32).toInt = 11 := by decide
                        exact Go.retI d4_115 rfl ⟨_, rfl, rfl, Or.inr (Or.inr (Or.inr (Or.inr (Or.inr (Or.inr (Or.inr (Or.inr (Or.inr (Or.inr (Or.inl ⟨by omega, by omega, by omega⟩))))))))))⟩ (by decide) (by decide)
                    · refine Go.bipush (pc' := 104) (v := (10 : Int32)) d4_102 rfl rfl ?_
                      have q : (10 : Int32).toInt = 10 := by decide
                      exact Go.retI d4_104 rfl ⟨_, rfl, rfl, Or.inr (Or.inr (Or.inr (Or.inr (Or.inr (Or.inr (Or.inr (Or.inr (Or.inr (Or.inl ⟨by omega, by omega, by omega⟩)))))))))⟩ (by decide) (by decide)
                  · refine Go.bipush (pc' := 93) (v := (9 : Int32)) d4_91 rfl rfl ?_
                    have q : (9 : Int32).toInt = 9 := by decide
                    exact Go.retI d4_93 rfl ⟨_, rfl, rfl, Or.inr (Or.inr (Or.inr (Or.inr (Or.inr (Or.inr (Or.inr (Or.inr (Or.inl ⟨by omega, by omega, by omega⟩))))))))⟩ (by decide) (by decide)
                · refine Go.bipush (pc' := 82) (v := (8 : Int32)) d4_80 rfl rfl ?_
                  have q : (8 : Int32).toInt = 8 := by decide
                  exact Go.retI d4_82 rfl ⟨_, rfl, rfl, Or.inr (Or.inr (Or.inr (Or.inr (Or.inr (Or.inr (Or.inr (Or.inl ⟨by omega, by omega, by omega⟩)))))))⟩ (by decide) (by decide)
              · refine Go.bipush (pc' := 71) (v := (7 : Int32)) d4_69 rfl rfl ?_
                have q : (7 : Int32).toInt = 7 := by decide
                exact Go.retI d4_71 rfl ⟨_, rfl, rfl, Or.inr (Or.inr (Or.inr (Or.inr (Or.inr (Or.inr (Or.inl ⟨by omega, by omega, by omega⟩))))))⟩ (by decide) (by decide)
            · refine Go.bipush (pc' := 60) (v := (6 : Int32)) d4_58 rfl rfl ?_
              have q : (6 : Int32).toInt = 6 := by decide
              exact Go.retI d4_60 rfl ⟨_, rfl, rfl, Or.inr (Or.inr (Or.inr (Or.inr (Or.inr (Or.inl ⟨by omega, by omega, by omega⟩)))))⟩ (by decide) (by decide)
          · refine Go.iconst (pc' := 49) (v := (5 : Int32)) d4_48 rfl rfl ?_
            have q : (5 : Int32).toInt = 5 := by decide
            exact Go.retI d4_49 rfl ⟨_, rfl, rfl, Or.inr (Or.inr (Or.inr (Or.inr (Or.inl ⟨by omega, by omega, by omega⟩))))⟩ (by decide) (by decide)
        · refine Go.iconst (pc' := 39) (v := (4 : Int32)) d4_38 rfl rfl ?_
          have q : (4 : Int32).toInt = 4 := by decide
          exact Go.retI d4_39 rfl ⟨_, rfl, rfl, Or.inr (Or.inr (Or.inr (Or.inl ⟨by omega, by omega, by omega⟩)))⟩ (by decide) (by decide)
      · refine Go.iconst (pc' := 29) (v := (3 : Int32)) d4_28 rfl rfl ?_
        have q : (3 : Int32).toInt = 3 := by decide
        exact Go.retI d4_29 rfl ⟨_, rfl, rfl, Or.inr (Or.inr (Or.inl ⟨by omega, by omega, by omega⟩))⟩ (by decide) (by decide)
    · refine Go.iconst (pc' := 19) (v := (2 : Int32)) d4_18 rfl rfl ?_
      have q : (2 : Int32).toInt = 2 := by decide
      exact Go.retI d4_19 rfl ⟨_, rfl, rfl, Or.inr (Or.inl ⟨by omega, by omega, by omega⟩)⟩ (by decide) (by decide)
  · refine Go.iconst (pc' := 9) (v := (1 : Int32)) d4_8 rfl rfl ?_
    have q : (1 : Int32).toInt = 1 := by decide
    exact Go.retI d4_9 rfl ⟨_, rfl, rfl, Or.inl ⟨by omega, by omega⟩⟩ (by decide) (by decide)
set_option maxRecDepth 65536 in
set_option maxHeartbeats 40000000 in
theorem m_m (l : Launch) (Z : State) (a0 : Array Value) (hw : ∀ d ∈ tables_1, d.before a0 Z = true) (p q : Int64) (h0 : Heap) (n0 : Nat) (z0 : n0 ≤ h0.size)  : Mt false l Z (⟨"java/lang/Math", "max", "(JJ)J"⟩ : MethodName) jdk_29_method_66_code 4 (some .long) ({ frames := 0, cells := 0, slots := 0, locals := 0 } : Room) n0 (fun v h => ∃ r : Int64, v = some (.long r) ∧ h0 = h ∧ p.toInt ≤ r.toInt) h0 #[(.long p), (.long q)] := by
  refine Mt.go (Ls := #[.val (.long p), .second, .val (.long q), .second]) (by first | exact plainFor_of_name (by decide +kernel) | decide +kernel | (simp [plainFor]; done)) (fun m => by first | (simp [entryFrame, mkF, argsToLocals, Value.category]; done) | rfl) ?_
  show (Go false l ({ frames := 0, cells := 0, slots := 0, locals := 0 } : Room) Z (⟨"java/lang/Math", "max", "(JJ)J"⟩ : MethodName) jdk_29_method_66_code 4 (some .long) n0 0 0 (fun v h => ∃ r : Int64, v = some (.long r) ∧ h0 = h ∧ p.toInt ≤ r.toInt)) h0 0 0 0 #[.val (.long p), .second, .val (.long q), .second] []
  refine Go.lloadN (pc' := 1) d5_0 rfl rfl ?_
  refine Go.lloadN (pc' := 2) d5_1 rfl rfl ?_
  refine Go.lcmp (pc' := 3) d5_2 rfl ?_
  refine Go.ifw (pc1 := 10) (pc2 := 6) d5_3 (by decide) (by decide) rfl (fun (c_170 : p.toInt < q.toInt) => ?_) (fun (c_170 : q.toInt ≤ p.toInt) => ?_)
  · refine Go.lloadN (pc' := 11) d5_10 rfl rfl ?_
    exact Go.retL d5_11 rfl ⟨_, rfl, rfl, by omega⟩ (by decide) (by decide)
  · refine Go.lloadN (pc' := 7) d5_6 rfl rfl ?_
    refine Go.goto (pc' := 11) d5_7 (by decide) (by decide) ?_
    exact Go.retL d5_11 rfl ⟨_, rfl, rfl, by omega⟩ (by decide) (by decide)
set_option maxRecDepth 65536 in
set_option maxHeartbeats 40000000 in
theorem rm1 (l : Launch) (Z : State) (a0 : Array Value) (hw : ∀ d ∈ tables_1, d.before a0 Z = true) (ws : List Jvm.Cond) (x0 : Int64) (k0 d0 s0 : Int32) (b : Addr) (h0 : Heap) (n0 : Nat) (z0 : n0 ≤ h0.size) (hO : Old Z n0 h0) (hS : Sta Z Z.heap "com/example/tenscale/tenscale/Coefficient" "LONG_POWERS" "[J" (.ref b)) (hA : Ary Z h0 b .long [.long (1 : Int64), .long (10 : Int64), .long (100 : Int64), .long (1000 : Int64), .long (10000 : Int64), .long (100000 : Int64), .long (1000000 : Int64), .long (10000000 : Int64), .long (100000000 : Int64), .long (1000000000 : Int64), .long (10000000000 : Int64), .long (100000000000 : Int64), .long (1000000000000 : Int64), .long (10000000000000 : Int64), .long (100000000000000 : Int64), .long (1000000000000000 : Int64), .long (10000000000000000 : Int64), .long (100000000000000000 : Int64), .long (1000000000000000000 : Int64)]) : MetFree l x (head1 (Jvm.Cond.code x code maxLocals ret :: ws) room_1) (fun a U => a = #[(.long x0), (.int k0), (.int d0), (.int s0)] ∧ Z.Warmed39 U.vm ∧ U.heap = h0) (fun _ _ _ _ _ => True) (fun _ U o U' => ∃ v L, o = .returned v ∧ (((fun v h => v = some (.int 1)) v U'.heap ∧ h0.size ≤ U'.heap.size) ∧ Fr n0 L) ∧ GoEnd false U o U' L 16 128) := by
  refine met_go (y := x) (Q := fun v h => v = some (.int 1)) (Ls := #[.val (.long x0), .second, .val (.int k0), .val (.int d0), .val (.int s0), .unset, .unset, .unset, .unset, .unset, .unset, .unset]) (plainFor_of_name pn1) (fun m => by first | (simp [entryFrame, mkF, argsToLocals, Value.category, maxLocals]; done) | rfl) ?_
  show (Go false l room_1 Z x code maxLocals ret n0 16 128 (fun v h => v = some (.int 1))) h0 0 0 0 #[.val (.long x0), .second, .val (.int k0), .val (.int d0), .val (.int s0), .unset, .unset, .unset, .unset, .unset, .unset, .unset] []
  have hS0 : Sta Z h0 "com/example/tenscale/tenscale/Coefficient" "LONG_POWERS" "[J" (.ref b) := Sta.ext hO.2 hS
  refine Go.bipush (pc' := 2) (v := (19 : Int32)) at_0 rfl rfl ?_
  refine Go.newA (pc' := 4) (k := 19) (ty := .long) (cap := 19) (hw _ (List.mem_of_getElem? (i := 0) rfl)) rfl rfl (by decide) (by decide) at_2 (by decide) (by decide) rfl ?_
  intro h_171 a_172 q_173 E_174 A_175
  have n_177 : b ≠ a_172 := Nat.ne_of_lt (q_173 ▸ hA.lt)
  have g_178 : n0 ≤ a_172 := q_173 ▸ z0
  have f_180 : Ary Z h_171 b .long [(.long (1 : Int64)), (.long (10 : Int64)), (.long (100 : Int64)), (.long (1000 : Int64)), (.long (10000 : Int64)), (.long (100000 : Int64)), (.long (1000000 : Int64)), (.long (10000000 : Int64)), (.long (100000000 : Int64)), (.long (1000000000 : Int64)), (.long (10000000000 : Int64)), (.long (100000000000 : Int64)), (.long (1000000000000 : Int64)), (.long (10000000000000 : Int64)), (.long (100000000000000 : Int64)), (.long (1000000000000000 : Int64)), (.long (10000000000000000 : Int64)), (.long (100000000000000000 : Int64)), (.long (1000000000000000000 : Int64))] := hA.sm (Sm.ext E_174)
  have t_181 : b < h_171.size := Nat.lt_of_lt_of_le hA.lt E_174.1
  have z_182 : n0 ≤ h_171.size := Nat.le_trans z0 E_174.1
  have O_183 : Old Z n0 h_171 := hO.ext E_174
  have f_179 : Sta Z h_171 "com/example/tenscale/tenscale/Coefficient" "LONG_POWERS" "[J" (.ref b) := Sta.ext O_183.2 hS
  have t_184 : a_172 < h_171.size := A_175.lt
  change Ary Z h_171 a_172 .long [(.long (0 : Int64)), (.long (0 : Int64)), (.long (0 : Int64)), (.long (0 : Int64)), (.long (0 : Int64)), (.long (0 : Int64)), (.long (0 : Int64)), (.long (0 : Int64)), (.long (0 : Int64)), (.long (0 : Int64)), (.long (0 : Int64)), (.long (0 : Int64)), (.long (0 : Int64)), (.long (0 : Int64)), (.long (0 : Int64)), (.long (0 : Int64)), (.long (0 : Int64)), (.long (0 : Int64)), (.long (0 : Int64))] at A_175
  refine Go.dup (pc' := 5) at_4 rfl rfl ?_
  refine Go.iconst (pc' := 6) (v := (0 : Int32)) at_5 rfl rfl ?_
  refine Go.lconst (pc' := 7) (v := (1 : Int64)) at_6 rfl rfl ?_
  refine Go.stJ (pc' := 8) (k := 0) A_175 rfl (by show 0 < 19; decide) at_7 g_178 rfl ?_
  intro h_185 W_186 A_187
  have f_188 : Ary Z h_185 b .long [(.long (1 : Int64)), (.long (10 : Int64)), (.long (100 : Int64)), (.long (1000 : Int64)), (.long (10000 : Int64)), (.long (100000 : Int64)), (.long (1000000 : Int64)), (.long (10000000 : Int64)), (.long (100000000 : Int64)), (.long (1000000000 : Int64)), (.long (10000000000 : Int64)), (.long (100000000000 : Int64)), (.long (1000000000000 : Int64)), (.long (10000000000000 : Int64)), (.long (100000000000000 : Int64)), (.long (1000000000000000 : Int64)), (.long (10000000000000000 : Int64)), (.long (100000000000000000 : Int64)), (.long (1000000000000000000 : Int64))] := f_180.sm (Sm.wr W_186 n_177)
  have t_190 : b < h_185.size := Nat.lt_of_lt_of_le t_181 (Nat.le_of_eq W_186.size.symm)
  have t_191 : a_172 < h_185.size := Nat.lt_of_lt_of_le t_184 (Nat.le_of_eq W_186.size.symm)
  have z_192 : n0 ≤ h_185.size := Nat.le_trans z_182 (Nat.le_of_eq W_186.size.symm)
  have O_193 : Old Z n0 h_185 := O_183.wr W_186 g_178
  have f_189 : Sta Z h_185 "com/example/tenscale/tenscale/Coefficient" "LONG_POWERS" "[J" (.ref b) := Sta.ext O_193.2 hS
  change Ary Z h_185 a_172 .long [(.long (1 : Int64)), (.long (0 : Int64)), (.long (0 : Int64)), (.long (0 : Int64)), (.long (0 : Int64)), (.long (0 : Int64)), (.long (0 : Int64)), (.long (0 : Int64)), (.long (0 : Int64)), (.long (0 : Int64)), (.long (0 : Int64)), (.long (0 : Int64)), (.long (0 : Int64)), (.long (0 : Int64)), (.long (0 : Int64)), (.long (0 : Int64)), (.long (0 : Int64)), (.long (0 : Int64)), (.long (0 : Int64))] at A_187
  refine Go.dup (pc' := 9) at_8 rfl rfl ?_
  refine Go.iconst (pc' := 10) (v := (1 : Int32)) at_9 rfl rfl ?_
  refine Go.ldcL (pc' := 13) (hw _ (List.mem_of_getElem? (i := 1) rfl)) at_10 rfl ?_
  refine Go.stJ (pc' := 14) (k := 1) A_187 rfl (by show 1 < 19; decide) at_13 g_178 rfl ?_
  intro h_194 W_195 A_196
  have f_197 : Ary Z h_194 b .long [(.long (1 : Int64)), (.long (10 : Int64)), (.long (100 : Int64)), (.long (1000 : Int64)), (.long (10000 : Int64)), (.long (100000 : Int64)), (.long (1000000 : Int64)), (.long (10000000 : Int64)), (.long (100000000 : Int64)), (.long (1000000000 : Int64)), (.long (10000000000 : Int64)), (.long (100000000000 : Int64)), (.long (1000000000000 : Int64)), (.long (10000000000000 : Int64)), (.long (100000000000000 : Int64)), (.long (1000000000000000 : Int64)), (.long (10000000000000000 : Int64)), (.long (100000000000000000 : Int64)), (.long (1000000000000000000 : Int64))] := f_188.sm (Sm.wr W_195 n_177)
  have t_199 : b < h_194.size := Nat.lt_of_lt_of_le t_190 (Nat.le_of_eq W_195.size.symm)
  have t_200 : a_172 < h_194.size := Nat.lt_of_lt_of_le t_191 (Nat.le_of_eq W_195.size.symm)
  have z_201 : n0 ≤ h_194.size := Nat.le_trans z_192 (Nat.le_of_eq W_195.size.symm)
  have O_202 : Old Z n0 h_194 := O_193.wr W_195 g_178
  have f_198 : Sta Z h_194 "com/example/tenscale/tenscale/Coefficient" "LONG_POWERS" "[J" (.ref b) := Sta.ext O_202.2 hS
  change Ary Z h_194 a_172 .long [(.long (1 : Int64)), (.long (10 : Int64)), (.long (0 : Int64)), (.long (0 : Int64)), (.long (0 : Int64)), (.long (0 : Int64)), (.long (0 : Int64)), (.long (0 : Int64)), (.long (0 : Int64)), (.long (0 : Int64)), (.long (0 : Int64)), (.long (0 : Int64)), (.long (0 : Int64)), (.long (0 : Int64)), (.long (0 : Int64)), (.long (0 : Int64)), (.long (0 : Int64)), (.long (0 : Int64)), (.long (0 : Int64))] at A_196
  refine Go.dup (pc' := 15) at_14 rfl rfl ?_
  refine Go.iconst (pc' := 16) (v := (2 : Int32)) at_15 rfl rfl ?_
  refine Go.ldcL (pc' := 19) (hw _ (List.mem_of_getElem? (i := 2) rfl)) at_16 rfl ?_
  refine Go.stJ (pc' := 20) (k := 2) A_196 rfl (by show 2 < 19; decide) at_19 g_178 rfl ?_
  intro h_203 W_204 A_205
  have f_206 : Ary Z h_203 b .long [(.long (1 : Int64)), (.long (10 : Int64)), (.long (100 : Int64)), (.long (1000 : Int64)), (.long (10000 : Int64)), (.long (100000 : Int64)), (.long (1000000 : Int64)), (.long (10000000 : Int64)), (.long (100000000 : Int64)), (.long (1000000000 : Int64)), (.long (10000000000 : Int64)), (.long (100000000000 : Int64)), (.long (1000000000000 : Int64)), (.long (10000000000000 : Int64)), (.long (100000000000000 : Int64)), (.long (1000000000000000 : Int64)), (.long (10000000000000000 : Int64)), (.long (100000000000000000 : Int64)), (.long (1000000000000000000 : Int64))] := f_197.sm (Sm.wr W_204 n_177)
  have t_208 : b < h_203.size := Nat.lt_of_lt_of_le t_199 (Nat.le_of_eq W_204.size.symm)
  have t_209 : a_172 < h_203.size := Nat.lt_of_lt_of_le t_200 (Nat.le_of_eq W_204.size.symm)
  have z_210 : n0 ≤ h_203.size := Nat.le_trans z_201 (Nat.le_of_eq W_204.size.symm)
  have O_211 : Old Z n0 h_203 := O_202.wr W_204 g_178
  have f_207 : Sta Z h_203 "com/example/tenscale/tenscale/Coefficient" "LONG_POWERS" "[J" (.ref b) := Sta.ext O_211.2 hS
  change Ary Z h_203 a_172 .long [(.long (1 : Int64)), (.long (10 : Int64)), (.long (100 : Int64)), (.long (0 : Int64)), (.long (0 : Int64)), (.long (0 : Int64)), (.long (0 : Int64)), (.long (0 : Int64)), (.long (0 : Int64)), (.long (0 : Int64)), (.long (0 : Int64)), (.long (0 : Int64)), (.long (0 : Int64)), (.long (0 : Int64)), (.long (0 : Int64)), (.long (0 : Int64)), (.long (0 : Int64)), (.long (0 : Int64)), (.long (0 : Int64))] at A_205
  refine Go.dup (pc' := 21) at_20 rfl rfl ?_
  refine Go.iconst (pc' := 22) (v := (3 : Int32)) at_21 rfl rfl ?_
  refine Go.ldcL (pc' := 25) (hw _ (List.mem_of_getElem? (i := 3) rfl)) at_22 rfl ?_
  refine Go.stJ (pc' := 26) (k := 3) A_205 rfl (by show 3 < 19; decide) at_25 g_178 rfl ?_
  intro h_212 W_213 A_214
  have f_215 : Ary Z h_212 b .long [(.long (1 : Int64)), (.long (10 : Int64)), (.long (100 : Int64)), (.long (1000 : Int64)), (.long (10000 : Int64)), (.long (100000 : Int64)), (.long (1000000 : Int64)), (.long (10000000 : Int64)), (.long (100000000 : Int64)), (.long (1000000000 : Int64)), (.long (10000000000 : Int64)), (.long (100000000000 : Int64)), (.long (1000000000000 : Int64)), (.long (10000000000000 : Int64)), (.long (100000000000000 : Int64)), (.long (1000000000000000 : Int64)), (.long (10000000000000000 : Int64)), (.long (100000000000000000 : Int64)), (.long (1000000000000000000 : Int64))] := f_206.sm (Sm.wr W_213 n_177)
  have t_217 : b < h_212.size := Nat.lt_of_lt_of_le t_208 (Nat.le_of_eq W_213.size.symm)
  have t_218 : a_172 < h_212.size := Nat.lt_of_lt_of_le t_209 (Nat.le_of_eq W_213.size.symm)
  have z_219 : n0 ≤ h_212.size := Nat.le_trans z_210 (Nat.le_of_eq W_213.size.symm)
  have O_220 : Old Z n0 h_212 := O_211.wr W_213 g_178
  have f_216 : Sta Z h_212 "com/example/tenscale/tenscale/Coefficient" "LONG_POWERS" "[J" (.ref b) := Sta.ext O_220.2 hS
  change Ary Z h_212 a_172 .long [(.long (1 : Int64)), (.long (10 : Int64)), (.long (100 : Int64)), (.long (1000 : Int64)), (.long (0 : Int64)), (.long (0 : Int64)), (.long (0 : Int64)), (.long (0 : Int64)), (.long (0 : Int64)), (.long (0 : Int64)), (.long (0 : Int64)), (.long (0 : Int64)), (.long (0 : Int64)), (.long (0 : Int64)), (.long (0 : Int64)), (.long (0 : Int64)), (.long (0 : Int64)), (.long (0 : Int64)), (.long (0 : Int64))] at A_214
  refine Go.dup (pc' := 27) at_26 rfl rfl ?_
  refine Go.iconst (pc' := 28) (v := (4 : Int32)) at_27 rfl rfl ?_
  refine Go.ldcL (pc' := 31) (hw _ (List.mem_of_getElem? (i := 4) rfl)) at_28 rfl ?_
  refine Go.stJ (pc' := 32) (k := 4) A_214 rfl (by show 4 < 19; decide) at_31 g_178 rfl ?_
  intro h_221 W_222 A_223
  have f_224 : Ary Z h_221 b .long [(.long (1 : Int64)), (.long (10 : Int64)), (.long (100 : Int64)), (.long (1000 : Int64)), (.long (10000 : Int64)), (.long (100000 : Int64)), (.long (1000000 : Int64)), (.long (10000000 : Int64)), (.long (100000000 : Int64)), (.long (1000000000 : Int64)), (.long (10000000000 : Int64)), (.long (100000000000 : Int64)), (.long (1000000000000 : Int64)), (.long (10000000000000 : Int64)), (.long (100000000000000 : Int64)), (.long (1000000000000000 : Int64)), (.long (10000000000000000 : Int64)), (.long (100000000000000000 : Int64)), (.long (1000000000000000000 : Int64))] := f_215.sm (Sm.wr W_222 n_177)
  have t_226 : b < h_221.size := Nat.lt_of_lt_of_le t_217 (Nat.le_of_eq W_222.size.symm)
  have t_227 : a_172 < h_221.size := Nat.lt_of_lt_of_le t_218 (Nat.le_of_eq W_222.size.symm)
  have z_228 : n0 ≤ h_221.size := Nat.le_trans z_219 (Nat.le_of_eq W_222.size.symm)
  have O_229 : Old Z n0 h_221 := O_220.wr W_222 g_178
  have f_225 : Sta Z h_221 "com/example/tenscale/tenscale/Coefficient" "LONG_POWERS" "[J" (.ref b) := Sta.ext O_229.2 hS
  change Ary Z h_221 a_172 .long [(.long (1 : Int64)), (.long (10 : Int64)), (.long (100 : Int64)), (.long (1000 : Int64)), (.long (10000 : Int64)), (.long (0 : Int64)), (.long (0 : Int64)), (.long (0 : Int64)), (.long (0 : Int64)), (.long (0 : Int64)), (.long (0 : Int64)), (.long (0 : Int64)), (.long (0 : Int64)), (.long (0 : Int64)), (.long (0 : Int64)), (.long (0 : Int64)), (.long (0 : Int64)), (.long (0 : Int64)), (.long (0 : Int64))] at A_223
  refine Go.dup (pc' := 33) at_32 rfl rfl ?_
  refine Go.iconst (pc' := 34) (v := (5 : Int32)) at_33 rfl rfl ?_
  refine Go.ldcL (pc' := 37) (hw _ (List.mem_of_getElem? (i := 5) rfl)) at_34 rfl ?_
  refine Go.stJ (pc' := 38) (k := 5) A_223 rfl (by show 5 < 19; decide) at_37 g_178 rfl ?_
  intro h_230 W_231 A_232
  have f_233 : Ary Z h_230 b .long [(.long (1 : Int64)), (.long (10 : Int64)), (.long (100 : Int64)), (.long (1000 : Int64)), (.long (10000 : Int64)), (.long (100000 : Int64)), (.long (1000000 : Int64)), (.long (10000000 : Int64)), (.long (100000000 : Int64)), (.long (1000000000 : Int64)), (.long (10000000000 : Int64)), (.long (100000000000 : Int64)), (.long (1000000000000 : Int64)), (.long (10000000000000 : Int64)), (.long (100000000000000 : Int64)), (.long (1000000000000000 : Int64)), (.long (10000000000000000 : Int64)), (.long (100000000000000000 : Int64)), (.long (1000000000000000000 : Int64))] := f_224.sm (Sm.wr W_231 n_177)
  have t_235 : b < h_230.size := Nat.lt_of_lt_of_le t_226 (Nat.le_of_eq W_231.size.symm)
  have t_236 : a_172 < h_230.size := Nat.lt_of_lt_of_le t_227 (Nat.le_of_eq W_231.size.symm)
  have z_237 : n0 ≤ h_230.size := Nat.le_trans z_228 (Nat.le_of_eq W_231.size.symm)
  have O_238 : Old Z n0 h_230 := O_229.wr W_231 g_178
  have f_234 : Sta Z h_230 "com/example/tenscale/tenscale/Coefficient" "LONG_POWERS" "[J" (.ref b) := Sta.ext O_238.2 hS
  change Ary Z h_230 a_172 .long [(.long (1 : Int64)), (.long (10 : Int64)), (.long (100 : Int64)), (.long (1000 : Int64)), (.long (10000 : Int64)), (.long (100000 : Int64)), (.long (0 : Int64)), (.long (0 : Int64)), (.long (0 : Int64)), (.long (0 : Int64)), (.long (0 : Int64)), (.long (0 : Int64)), (.long (0 : Int64)), (.long (0 : Int64)), (.long (0 : Int64)), (.long (0 : Int64)), (.long (0 : Int64)), (.long (0 : Int64)), (.long (0 : Int64))] at A_232
  refine Go.dup (pc' := 39) at_38 rfl rfl ?_
  refine Go.bipush (pc' := 41) (v := (6 : Int32)) at_39 rfl rfl ?_
  refine Go.ldcL (pc' := 44) (hw _ (List.mem_of_getElem? (i := 6) rfl)) at_41 rfl ?_
  refine Go.stJ (pc' := 45) (k := 6) A_232 rfl (by show 6 < 19; decide) at_44 g_178 rfl ?_
  intro h_239 W_240 A_241
  have f_242 : Ary Z h_239 b .long [(.long (1 : Int64)), (.long (10 : Int64)), (.long (100 : Int64)), (.long (1000 : Int64)), (.long (10000 : Int64)), (.long (100000 : Int64)), (.long (1000000 : Int64)), (.long (10000000 : Int64)), (.long (100000000 : Int64)), (.long (1000000000 : Int64)), (.long (10000000000 : Int64)), (.long (100000000000 : Int64)), (.long (1000000000000 : Int64)), (.long (10000000000000 : Int64)), (.long (100000000000000 : Int64)), (.long (1000000000000000 : Int64)), (.long (10000000000000000 : Int64)), (.long (100000000000000000 : Int64)), (.long (1000000000000000000 : Int64))] := f_233.sm (Sm.wr W_240 n_177)
  have t_244 : b < h_239.size := Nat.lt_of_lt_of_le t_235 (Nat.le_of_eq W_240.size.symm)
  have t_245 : a_172 < h_239.size := Nat.lt_of_lt_of_le t_236 (Nat.le_of_eq W_240.size.symm)
  have z_246 : n0 ≤ h_239.size := Nat.le_trans z_237 (Nat.le_of_eq W_240.size.symm)
  have O_247 : Old Z n0 h_239 := O_238.wr W_240 g_178
  have f_243 : Sta Z h_239 "com/example/tenscale/tenscale/Coefficient" "LONG_POWERS" "[J" (.ref b) := Sta.ext O_247.2 hS
  change Ary Z h_239 a_172 .long [(.long (1 : Int64)), (.long (10 : Int64)), (.long (100 : Int64)), (.long (1000 : Int64)), (.long (10000 : Int64)), (.long (100000 : Int64)), (.long (1000000 : Int64)), (.long (0 : Int64)), (.long (0 : Int64)), (.long (0 : Int64)), (.long (0 : Int64)), (.long (0 : Int64)), (.long (0 : Int64)), (.long (0 : Int64)), (.long (0 : Int64)), (.long (0 : Int64)), (.long (0 : Int64)), (.long (0 : Int64)), (.long (0 : Int64))] at A_241
  refine Go.dup (pc' := 46) at_45 rfl rfl ?_
  refine Go.bipush (pc' := 48) (v := (7 : Int32)) at_46 rfl rfl ?_
  refine Go.ldcL (pc' := 51) (hw _ (List.mem_of_getElem? (i := 7) rfl)) at_48 rfl ?_
  refine Go.stJ (pc' := 52) (k := 7) A_241 rfl (by show 7 < 19; decide) at_51 g_178 rfl ?_
  intro h_248 W_249 A_250
  have f_251 : Ary Z h_248 b .long [(.long (1 : Int64)), (.long (10 : Int64)), (.long (100 : Int64)), (.long (1000 : Int64)), (.long (10000 : Int64)), (.long (100000 : Int64)), (.long (1000000 : Int64)), (.long (10000000 : Int64)), (.long (100000000 : Int64)), (.long (1000000000 : Int64)), (.long (10000000000 : Int64)), (.long (100000000000 : Int64)), (.long (1000000000000 : Int64)), (.long (10000000000000 : Int64)), (.long (100000000000000 : Int64)), (.long (1000000000000000 : Int64)), (.long (10000000000000000 : Int64)), (.long (100000000000000000 : Int64)), (.long (1000000000000000000 : Int64))] := f_242.sm (Sm.wr W_249 n_177)
  have t_253 : b < h_248.size := Nat.lt_of_lt_of_le t_244 (Nat.le_of_eq W_249.size.symm)
  have t_254 : a_172 < h_248.size := Nat.lt_of_lt_of_le t_245 (Nat.le_of_eq W_249.size.symm)
  have z_255 : n0 ≤ h_248.size := Nat.le_trans z_246 (Nat.le_of_eq W_249.size.symm)
  have O_256 : Old Z n0 h_248 := O_247.wr W_249 g_178
  have f_252 : Sta Z h_248 "com/example/tenscale/tenscale/Coefficient" "LONG_POWERS" "[J" (.ref b) := Sta.ext O_256.2 hS
  change Ary Z h_248 a_172 .long [(.long (1 : Int64)), (.long (10 : Int64)), (.long (100 : Int64)), (.long (1000 : Int64)), (.long (10000 : Int64)), (.long (100000 : Int64)), (.long (1000000 : Int64)), (.long (10000000 : Int64)), (.long (0 : Int64)), (.long (0 : Int64)), (.long (0 : Int64)), (.long (0 : Int64)), (.long (0 : Int64)), (.long (0 : Int64)), (.long (0 : Int64)), (.long (0 : Int64)), (.long (0 : Int64)), (.long (0 : Int64)), (.long (0 : Int64))] at A_250
  refine Go.dup (pc' := 53) at_52 rfl rfl ?_
  refine Go.bipush (pc' := 55) (v := (8 : Int32)) at_53 rfl rfl ?_
  refine Go.ldcL (pc' := 58) (hw _ (List.mem_of_getElem? (i := 8) rfl)) at_55 rfl ?_
  refine Go.stJ (pc' := 59) (k := 8) A_250 rfl (by show 8 < 19; decide) at_58 g_178 rfl ?_
  intro h_257 W_258 A_259
  have f_260 : Ary Z h_257 b .long [(.long (1 : Int64)), (.long (10 : Int64)), (.long (100 : Int64)), (.long (1000 : Int64)), (.long (10000 : Int64)), (.long (100000 : Int64)), (.long (1000000 : Int64)), (.long (10000000 : Int64)), (.long (100000000 : Int64)), (.long (1000000000 : Int64)), (.long (10000000000 : Int64)), (.long (100000000000 : Int64)), (.long (1000000000000 : Int64)), (.long (10000000000000 : Int64)), (.long (100000000000000 : Int64)), (.long (1000000000000000 : Int64)), (.long (10000000000000000 : Int64)), (.long (100000000000000000 : Int64)), (.long (1000000000000000000 : Int64))] := f_251.sm (Sm.wr W_258 n_177)
  have t_262 : b < h_257.size := Nat.lt_of_lt_of_le t_253 (Nat.le_of_eq W_258.size.symm)
  have t_263 : a_172 < h_257.size := Nat.lt_of_lt_of_le t_254 (Nat.le_of_eq W_258.size.symm)
  have z_264 : n0 ≤ h_257.size := Nat.le_trans z_255 (Nat.le_of_eq W_258.size.symm)
  have O_265 : Old Z n0 h_257 := O_256.wr W_258 g_178
  have f_261 : Sta Z h_257 "com/example/tenscale/tenscale/Coefficient" "LONG_POWERS" "[J" (.ref b) := Sta.ext O_265.2 hS
  change Ary Z h_257 a_172 .long [(.long (1 : Int64)), (.long (10 : Int64)), (.long (100 : Int64)), (.long (1000 : Int64)), (.long (10000 : Int64)), (.long (100000 : Int64)), (.long (1000000 : Int64)), (.long (10000000 : Int64)), (.long (100000000 : Int64)), (.long (0 : Int64)), (.long (0 : Int64)), (.long (0 : Int64)), (.long (0 : Int64)), (.long (0 : Int64)), (.long (0 : Int64)), (.long (0 : Int64)), (.long (0 : Int64)), (.long (0 : Int64)), (.long (0 : Int64))] at A_259
  refine Go.dup (pc' := 60) at_59 rfl rfl ?_
  refine Go.bipush (pc' := 62) (v := (9 : Int32)) at_60 rfl rfl ?_
  refine Go.ldcL (pc' := 65) (hw _ (List.mem_of_getElem? (i := 9) rfl)) at_62 rfl ?_
  refine Go.stJ (pc' := 66) (k := 9) A_259 rfl (by show 9 < 19; decide) at_65 g_178 rfl ?_
  intro h_266 W_267 A_268
  have f_269 : Ary Z h_266 b .long [(.long (1 : Int64)), (.long (10 : Int64)), (.long (100 : Int64)), (.long (1000 : Int64)), (.long (10000 : Int64)), (.long (100000 : Int64)), (.long (1000000 : Int64)), (.long (10000000 : Int64)), (.long (100000000 : Int64)), (.long (1000000000 : Int64)), (.long (10000000000 : Int64)), (.long (100000000000 : Int64)), (.long (1000000000000 : Int64)), (.long (10000000000000 : Int64)), (.long (100000000000000 : Int64)), (.long (1000000000000000 : Int64)), (.long (10000000000000000 : Int64)), (.long (100000000000000000 : Int64)), (.long (1000000000000000000 : Int64))] := f_260.sm (Sm.wr W_267 n_177)
  have t_271 : b < h_266.size := Nat.lt_of_lt_of_le t_262 (Nat.le_of_eq W_267.size.symm)
  have t_272 : a_172 < h_266.size := Nat.lt_of_lt_of_le t_263 (Nat.le_of_eq W_267.size.symm)
  have z_273 : n0 ≤ h_266.size := Nat.le_trans z_264 (Nat.le_of_eq W_267.size.symm)
  have O_274 : Old Z n0 h_266 := O_265.wr W_267 g_178
  have f_270 : Sta Z h_266 "com/example/tenscale/tenscale/Coefficient" "LONG_POWERS" "[J" (.ref b) := Sta.ext O_274.2 hS
  change Ary Z h_266 a_172 .long [(.long (1 : Int64)), (.long (10 : Int64)), (.long (100 : Int64)), (.long (1000 : Int64)), (.long (10000 : Int64)), (.long (100000 : Int64)), (.long (1000000 : Int64)), (.long (10000000 : Int64)), (.long (100000000 : Int64)), (.long (1000000000 : Int64)), (.long (0 : Int64)), (.long (0 : Int64)), (.long (0 : Int64)), (.long (0 : Int64)), (.long (0 : Int64)), (.long (0 : Int64)), (.long (0 : Int64)), (.long (0 : Int64)), (.long (0 : Int64))] at A_268
  refine Go.dup (pc' := 67) at_66 rfl rfl ?_
  refine Go.bipush (pc' := 69) (v := (10 : Int32)) at_67 rfl rfl ?_
  refine Go.ldcL (pc' := 72) (hw _ (List.mem_of_getElem? (i := 10) rfl)) at_69 rfl ?_
  refine Go.stJ (pc' := 73) (k := 10) A_268 rfl (by show 10 < 19; decide) at_72 g_178 rfl ?_
  intro h_275 W_276 A_277
  have f_278 : Ary Z h_275 b .long [(.long (1 : Int64)), (.long (10 : Int64)), (.long (100 : Int64)), (.long (1000 : Int64)), (.long (10000 : Int64)), (.long (100000 : Int64)), (.long (1000000 : Int64)), (.long (10000000 : Int64)), (.long (100000000 : Int64)), (.long (1000000000 : Int64)), (.long (10000000000 : Int64)), (.long (100000000000 : Int64)), (.long (1000000000000 : Int64)), (.long (10000000000000 : Int64)), (.long (100000000000000 : Int64)), (.long (1000000000000000 : Int64)), (.long (10000000000000000 : Int64)), (.long (100000000000000000 : Int64)), (.long (1000000000000000000 : Int64))] := f_269.sm (Sm.wr W_276 n_177)
  have t_280 : b < h_275.size := Nat.lt_of_lt_of_le t_271 (Nat.le_of_eq W_276.size.symm)
  have t_281 : a_172 < h_275.size := Nat.lt_of_lt_of_le t_272 (Nat.le_of_eq W_276.size.symm)
  have z_282 : n0 ≤ h_275.size := Nat.le_trans z_273 (Nat.le_of_eq W_276.size.symm)
  have O_283 : Old Z n0 h_275 := O_274.wr W_276 g_178
  have f_279 : Sta Z h_275 "com/example/tenscale/tenscale/Coefficient" "LONG_POWERS" "[J" (.ref b) := Sta.ext O_283.2 hS
  change Ary Z h_275 a_172 .long [(.long (1 : Int64)), (.long (10 : Int64)), (.long (100 : Int64)), (.long (1000 : Int64)), (.long (10000 : Int64)), (.long (100000 : Int64)), (.long (1000000 : Int64)), (.long (10000000 : Int64)), (.long (100000000 : Int64)), (.long (1000000000 : Int64)), (.long (10000000000 : Int64)), (.long (0 : Int64)), (.long (0 : Int64)), (.long (0 : Int64)), (.long (0 : Int64)), (.long (0 : Int64)), (.long (0 : Int64)), (.long (0 : Int64)), (.long (0 : Int64))] at A_277
  refine Go.dup (pc' := 74) at_73 rfl rfl ?_
  refine Go.bipush (pc' := 76) (v := (11 : Int32)) at_74 rfl rfl ?_
  refine Go.ldcL (pc' := 79) (hw _ (List.mem_of_getElem? (i := 11) rfl)) at_76 rfl ?_
  refine Go.stJ (pc' := 80) (k := 11) A_277 rfl (by show 11 < 19; decide) at_79 g_178 rfl ?_
  intro h_284 W_285 A_286
  have f_287 : Ary Z h_284 b .long [(.long (1 : Int64)), (.long (10 : Int64)), (.long (100 : Int64)), (.long (1000 : Int64)), (.long (10000 : Int64)), (.long (100000 : Int64)), (.long (1000000 : Int64)), (.long (10000000 : Int64)), (.long (100000000 : Int64)), (.long (1000000000 : Int64)), (.long (10000000000 : Int64)), (.long (100000000000 : Int64)), (.long (1000000000000 : Int64)), (.long (10000000000000 : Int64)), (.long (100000000000000 : Int64)), (.long (1000000000000000 : Int64)), (.long (10000000000000000 : Int64)), (.long (100000000000000000 : Int64)), (.long (1000000000000000000 : Int64))] := f_278.sm (Sm.wr W_285 n_177)
  have t_289 : b < h_284.size := Nat.lt_of_lt_of_le t_280 (Nat.le_of_eq W_285.size.symm)
  have t_290 : a_172 < h_284.size := Nat.lt_of_lt_of_le t_281 (Nat.le_of_eq W_285.size.symm)
  have z_291 : n0 ≤ h_284.size := Nat.le_trans z_282 (Nat.le_of_eq W_285.size.symm)
  have O_292 : Old Z n0 h_284 := O_283.wr W_285 g_178
  have f_288 : Sta Z h_284 "com/example/tenscale/tenscale/Coefficient" "LONG_POWERS" "[J" (.ref b) := Sta.ext O_292.2 hS
  change Ary Z h_284 a_172 .long [(.long (1 : Int64)), (.long (10 : Int64)), (.long (100 : Int64)), (.long (1000 : Int64)), (.long (10000 : Int64)), (.long (100000 : Int64)), (.long (1000000 : Int64)), (.long (10000000 : Int64)), (.long (100000000 : Int64)), (.long (1000000000 : Int64)), (.long (10000000000 : Int64)), (.long (100000000000 : Int64)), (.long (0 : Int64)), (.long (0 : Int64)), (.long (0 : Int64)), (.long (0 : Int64)), (.long (0 : Int64)), (.long (0 : Int64)), (.long (0 : Int64))] at A_286
  refine Go.dup (pc' := 81) at_80 rfl rfl ?_
  refine Go.bipush (pc' := 83) (v := (12 : Int32)) at_81 rfl rfl ?_
  refine Go.ldcL (pc' := 86) (hw _ (List.mem_of_getElem? (i := 12) rfl)) at_83 rfl ?_
  refine Go.stJ (pc' := 87) (k := 12) A_286 rfl (by show 12 < 19; decide) at_86 g_178 rfl ?_
  intro h_293 W_294 A_295
  have f_296 : Ary Z h_293 b .long [(.long (1 : Int64)), (.long (10 : Int64)), (.long (100 : Int64)), (.long (1000 : Int64)), (.long (10000 : Int64)), (.long (100000 : Int64)), (.long (1000000 : Int64)), (.long (10000000 : Int64)), (.long (100000000 : Int64)), (.long (1000000000 : Int64)), (.long (10000000000 : Int64)), (.long (100000000000 : Int64)), (.long (1000000000000 : Int64)), (.long (10000000000000 : Int64)), (.long (100000000000000 : Int64)), (.long (1000000000000000 : Int64)), (.long (10000000000000000 : Int64)), (.long (100000000000000000 : Int64)), (.long (1000000000000000000 : Int64))] := f_287.sm (Sm.wr W_294 n_177)
  have t_298 : b < h_293.size := Nat.lt_of_lt_of_le t_289 (Nat.le_of_eq W_294.size.symm)
  have t_299 : a_172 < h_293.size := Nat.lt_of_lt_of_le t_290 (Nat.le_of_eq W_294.size.symm)
  have z_300 : n0 ≤ h_293.size := Nat.le_trans z_291 (Nat.le_of_eq W_294.size.symm)
  have O_301 : Old Z n0 h_293 := O_292.wr W_294 g_178
  have f_297 : Sta Z h_293 "com/example/tenscale/tenscale/Coefficient" "LONG_POWERS" "[J" (.ref b) := Sta.ext O_301.2 hS
  change Ary Z h_293 a_172 .long [(.long (1 : Int64)), (.long (10 : Int64)), (.long (100 : Int64)), (.long (1000 : Int64)), (.long (10000 : Int64)), (.long (100000 : Int64)), (.long (1000000 : Int64)), (.long (10000000 : Int64)), (.long (100000000 : Int64)), (.long (1000000000 : Int64)), (.long (10000000000 : Int64)), (.long (100000000000 : Int64)), (.long (1000000000000 : Int64)), (.long (0 : Int64)), (.long (0 : Int64)), (.long (0 : Int64)), (.long (0 : Int64)), (.long (0 : Int64)), (.long (0 : Int64))] at A_295
  refine Go.dup (pc' := 88) at_87 rfl rfl ?_
  refine Go.bipush (pc' := 90) (v := (13 : Int32)) at_88 rfl rfl ?_
  refine Go.ldcL (pc' := 93) (hw _ (List.mem_of_getElem? (i := 13) rfl)) at_90 rfl ?_
  refine Go.stJ (pc' := 94) (k := 13) A_295 rfl (by show 13 < 19; decide) at_93 g_178 rfl ?_
  intro h_302 W_303 A_304
  have f_305 : Ary Z h_302 b .long [(.long (1 : Int64)), (.long (10 : Int64)), (.long (100 : Int64)), (.long (1000 : Int64)), (.long (10000 : Int64)), (.long (100000 : Int64)), (.long (1000000 : Int64)), (.long (10000000 : Int64)), (.long (100000000 : Int64)), (.long (1000000000 : Int64)), (.long (10000000000 : Int64)), (.long (100000000000 : Int64)), (.long (1000000000000 : Int64)), (.long (10000000000000 : Int64)), (.long (100000000000000 : Int64)), (.long (1000000000000000 : Int64)), (.long (10000000000000000 : Int64)), (.long (100000000000000000 : Int64)), (.long (1000000000000000000 : Int64))] := f_296.sm (Sm.wr W_303 n_177)
  have t_307 : b < h_302.size := Nat.lt_of_lt_of_le t_298 (Nat.le_of_eq W_303.size.symm)
  have t_308 : a_172 < h_302.size := Nat.lt_of_lt_of_le t_299 (Nat.le_of_eq W_303.size.symm)
  have z_309 : n0 ≤ h_302.size := Nat.le_trans z_300 (Nat.le_of_eq W_303.size.symm)
  have O_310 : Old Z n0 h_302 := O_301.wr W_303 g_178
  have f_306 : Sta Z h_302 "com/example/tenscale/tenscale/Coefficient" "LONG_POWERS" "[J" (.ref b) := Sta.ext O_310.2 hS
  change Ary Z h_302 a_172 .long [(.long (1 : Int64)), (.long (10 : Int64)), (.long (100 : Int64)), (.long (1000 : Int64)), (.long (10000 : Int64)), (.long (100000 : Int64)), (.long (1000000 : Int64)), (.long (10000000 : Int64)), (.long (100000000 : Int64)), (.long (1000000000 : Int64)), (.long (10000000000 : Int64)), (.long (100000000000 : Int64)), (.long (1000000000000 : Int64)), (.long (10000000000000 : Int64)), (.long (0 : Int64)), (.long (0 : Int64)), (.long (0 : Int64)), (.long (0 : Int64)), (.long (0 : Int64))] at A_304
  refine Go.dup (pc' := 95) at_94 rfl rfl ?_
  refine Go.bipush (pc' := 97) (v := (14 : Int32)) at_95 rfl rfl ?_
  refine Go.ldcL (pc' := 100) (hw _ (List.mem_of_getElem? (i := 14) rfl)) at_97 rfl ?_
  refine Go.stJ (pc' := 101) (k := 14) A_304 rfl (by show 14 < 19; decide) at_100 g_178 rfl ?_
  intro h_311 W_312 A_313
  have f_314 : Ary Z h_311 b .long [(.long (1 : Int64)), (.long (10 : Int64)), (.long (100 : Int64)), (.long (1000 : Int64)), (.long (10000 : Int64)), (.long (100000 : Int64)), (.long (1000000 : Int64)), (.long (10000000 : Int64)), (.long (100000000 : Int64)), (.long (1000000000 : Int64)), (.long (10000000000 : Int64)), (.long (100000000000 : Int64)), (.long (1000000000000 : Int64)), (.long (10000000000000 : Int64)), (.long (100000000000000 : Int64)), (.long (1000000000000000 : Int64)), (.long (10000000000000000 : Int64)), (.long (100000000000000000 : Int64)), (.long (1000000000000000000 : Int64))] := f_305.sm (Sm.wr W_312 n_177)
  have t_316 : b < h_311.size := Nat.lt_of_lt_of_le t_307 (Nat.le_of_eq W_312.size.symm)
  have t_317 : a_172 < h_311.size := Nat.lt_of_lt_of_le t_308 (Nat.le_of_eq W_312.size.symm)
  have z_318 : n0 ≤ h_311.size := Nat.le_trans z_309 (Nat.le_of_eq W_312.size.symm)
  have O_319 : Old Z n0 h_311 := O_310.wr W_312 g_178
  have f_315 : Sta Z h_311 "com/example/tenscale/tenscale/Coefficient" "LONG_POWERS" "[J" (.ref b) := Sta.ext O_319.2 hS
  change Ary Z h_311 a_172 .long [(.long (1 : Int64)), (.long (10 : Int64)), (.long (100 : Int64)), (.long (1000 : Int64)), (.long (10000 : Int64)), (.long (100000 : Int64)), (.long (1000000 : Int64)), (.long (10000000 : Int64)), (.long (100000000 : Int64)), (.long (1000000000 : Int64)), (.long (10000000000 : Int64)), (.long (100000000000 : Int64)), (.long (1000000000000 : Int64)), (.long (10000000000000 : Int64)), (.long (100000000000000 : Int64)), (.long (0 : Int64)), (.long (0 : Int64)), (.long (0 : Int64)), (.long (0 : Int64))] at A_313
  refine Go.dup (pc' := 102) at_101 rfl rfl ?_
  refine Go.bipush (pc' := 104) (v := (15 : Int32)) at_102 rfl rfl ?_
  refine Go.ldcL (pc' := 107) (hw _ (List.mem_of_getElem? (i := 15) rfl)) at_104 rfl ?_
  refine Go.stJ (pc' := 108) (k := 15) A_313 rfl (by show 15 < 19; decide) at_107 g_178 rfl ?_
  intro h_320 W_321 A_322
  have f_323 : Ary Z h_320 b .long [(.long (1 : Int64)), (.long (10 : Int64)), (.long (100 : Int64)), (.long (1000 : Int64)), (.long (10000 : Int64)), (.long (100000 : Int64)), (.long (1000000 : Int64)), (.long (10000000 : Int64)), (.long (100000000 : Int64)), (.long (1000000000 : Int64)), (.long (10000000000 : Int64)), (.long (100000000000 : Int64)), (.long (1000000000000 : Int64)), (.long (10000000000000 : Int64)), (.long (100000000000000 : Int64)), (.long (1000000000000000 : Int64)), (.long (10000000000000000 : Int64)), (.long (100000000000000000 : Int64)), (.long (1000000000000000000 : Int64))] := f_314.sm (Sm.wr W_321 n_177)
  have t_325 : b < h_320.size := Nat.lt_of_lt_of_le t_316 (Nat.le_of_eq W_321.size.symm)
  have t_326 : a_172 < h_320.size := Nat.lt_of_lt_of_le t_317 (Nat.le_of_eq W_321.size.symm)
  have z_327 : n0 ≤ h_320.size := Nat.le_trans z_318 (Nat.le_of_eq W_321.size.symm)
  have O_328 : Old Z n0 h_320 := O_319.wr W_321 g_178
  have f_324 : Sta Z h_320 "com/example/tenscale/tenscale/Coefficient" "LONG_POWERS" "[J" (.ref b) := Sta.ext O_328.2 hS
  change Ary Z h_320 a_172 .long [(.long (1 : Int64)), (.long (10 : Int64)), (.long (100 : Int64)), (.long (1000 : Int64)), (.long (10000 : Int64)), (.long (100000 : Int64)), (.long (1000000 : Int64)), (.long (10000000 : Int64)), (.long (100000000 : Int64)), (.long (1000000000 : Int64)), (.long (10000000000 : Int64)), (.long (100000000000 : Int64)), (.long (1000000000000 : Int64)), (.long (10000000000000 : Int64)), (.long (100000000000000 : Int64)), (.long (1000000000000000 : Int64)), (.long (0 : Int64)), (.long (0 : Int64)), (.long (0 : Int64))] at A_322
  refine Go.dup (pc' := 109) at_108 rfl rfl ?_
  refine Go.bipush (pc' := 111) (v := (16 : Int32)) at_109 rfl rfl ?_
  refine Go.ldcL (pc' := 114) (hw _ (List.mem_of_getElem? (i := 16) rfl)) at_111 rfl ?_
  refine Go.stJ (pc' := 115) (k := 16) A_322 rfl (by show 16 < 19; decide) at_114 g_178 rfl ?_
  intro h_329 W_330 A_331
  have f_332 : Ary Z h_329 b .long [(.long (1 : Int64)), (.long (10 : Int64)), (.long (100 : Int64)), (.long (1000 : Int64)), (.long (10000 : Int64)), (.long (100000 : Int64)), (.long (1000000 : Int64)), (.long (10000000 : Int64)), (.long (100000000 : Int64)), (.long (1000000000 : Int64)), (.long (10000000000 : Int64)), (.long (100000000000 : Int64)), (.long (1000000000000 : Int64)), (.long (10000000000000 : Int64)), (.long (100000000000000 : Int64)), (.long (1000000000000000 : Int64)), (.long (10000000000000000 : Int64)), (.long (100000000000000000 : Int64)), (.long (1000000000000000000 : Int64))] := f_323.sm (Sm.wr W_330 n_177)
  have t_334 : b < h_329.size := Nat.lt_of_lt_of_le t_325 (Nat.le_of_eq W_330.size.symm)
  have t_335 : a_172 < h_329.size := Nat.lt_of_lt_of_le t_326 (Nat.le_of_eq W_330.size.symm)
  have z_336 : n0 ≤ h_329.size := Nat.le_trans z_327 (Nat.le_of_eq W_330.size.symm)
  have O_337 : Old Z n0 h_329 := O_328.wr W_330 g_178
  have f_333 : Sta Z h_329 "com/example/tenscale/tenscale/Coefficient" "LONG_POWERS" "[J" (.ref b) := Sta.ext O_337.2 hS
  change Ary Z h_329 a_172 .long [(.long (1 : Int64)), (.long (10 : Int64)), (.long (100 : Int64)), (.long (1000 : Int64)), (.long (10000 : Int64)), (.long (100000 : Int64)), (.long (1000000 : Int64)), (.long (10000000 : Int64)), (.long (100000000 : Int64)), (.long (1000000000 : Int64)), (.long (10000000000 : Int64)), (.long (100000000000 : Int64)), (.long (1000000000000 : Int64)), (.long (10000000000000 : Int64)), (.long (100000000000000 : Int64)), (.long (1000000000000000 : Int64)), (.long (10000000000000000 : Int64)), (.long (0 : Int64)), (.long (0 : Int64))] at A_331
  refine Go.dup (pc' := 116) at_115 rfl rfl ?_
  refine Go.bipush (pc' := 118) (v := (17 : Int32)) at_116 rfl rfl ?_
  refine Go.ldcL (pc' := 121) (hw _ (List.mem_of_getElem? (i := 17) rfl)) at_118 rfl ?_
  refine Go.stJ (pc' := 122) (k := 17) A_331 rfl (by show 17 < 19; decide) at_121 g_178 rfl ?_
  intro h_338 W_339 A_340
  have f_341 : Ary Z h_338 b .long [(.long (1 : Int64)), (.long (10 : Int64)), (.long (100 : Int64)), (.long (1000 : Int64)), (.long (10000 : Int64)), (.long (100000 : Int64)), (.long (1000000 : Int64)), (.long (10000000 : Int64)), (.long (100000000 : Int64)), (.long (1000000000 : Int64)), (.long (10000000000 : Int64)), (.long (100000000000 : Int64)), (.long (1000000000000 : Int64)), (.long (10000000000000 : Int64)), (.long (100000000000000 : Int64)), (.long (1000000000000000 : Int64)), (.long (10000000000000000 : Int64)), (.long (100000000000000000 : Int64)), (.long (1000000000000000000 : Int64))] := f_332.sm (Sm.wr W_339 n_177)
  have t_343 : b < h_338.size := Nat.lt_of_lt_of_le t_334 (Nat.le_of_eq W_339.size.symm)
  have t_344 : a_172 < h_338.size := Nat.lt_of_lt_of_le t_335 (Nat.le_of_eq W_339.size.symm)
  have z_345 : n0 ≤ h_338.size := Nat.le_trans z_336 (Nat.le_of_eq W_339.size.symm)
  have O_346 : Old Z n0 h_338 := O_337.wr W_339 g_178
  have f_342 : Sta Z h_338 "com/example/tenscale/tenscale/Coefficient" "LONG_POWERS" "[J" (.ref b) := Sta.ext O_346.2 hS
  change Ary Z h_338 a_172 .long [(.long (1 : Int64)), (.long (10 : Int64)), (.long (100 : Int64)), (.long (1000 : Int64)), (.long (10000 : Int64)), (.long (100000 : Int64)), (.long (1000000 : Int64)), (.long (10000000 : Int64)), (.long (100000000 : Int64)), (.long (1000000000 : Int64)), (.long (10000000000 : Int64)), (.long (100000000000 : Int64)), (.long (1000000000000 : Int64)), (.long (10000000000000 : Int64)), (.long (100000000000000 : Int64)), (.long (1000000000000000 : Int64)), (.long (10000000000000000 : Int64)), (.long (100000000000000000 : Int64)), (.long (0 : Int64))] at A_340
  refine Go.dup (pc' := 123) at_122 rfl rfl ?_
  refine Go.bipush (pc' := 125) (v := (18 : Int32)) at_123 rfl rfl ?_
  refine Go.ldcL (pc' := 128) (hw _ (List.mem_of_getElem? (i := 18) rfl)) at_125 rfl ?_
  refine Go.stJ (pc' := 129) (k := 18) A_340 rfl (by show 18 < 19; decide) at_128 g_178 rfl ?_
  intro h_347 W_348 A_349
  have f_350 : Ary Z h_347 b .long [(.long (1 : Int64)), (.long (10 : Int64)), (.long (100 : Int64)), (.long (1000 : Int64)), (.long (10000 : Int64)), (.long (100000 : Int64)), (.long (1000000 : Int64)), (.long (10000000 : Int64)), (.long (100000000 : Int64)), (.long (1000000000 : Int64)), (.long (10000000000 : Int64)), (.long (100000000000 : Int64)), (.long (1000000000000 : Int64)), (.long (10000000000000 : Int64)), (.long (100000000000000 : Int64)), (.long (1000000000000000 : Int64)), (.long (10000000000000000 : Int64)), (.long (100000000000000000 : Int64)), (.long (1000000000000000000 : Int64))] := f_341.sm (Sm.wr W_348 n_177)
  have t_352 : b < h_347.size := Nat.lt_of_lt_of_le t_343 (Nat.le_of_eq W_348.size.symm)
  have t_353 : a_172 < h_347.size := Nat.lt_of_lt_of_le t_344 (Nat.le_of_eq W_348.size.symm)
  have z_354 : n0 ≤ h_347.size := Nat.le_trans z_345 (Nat.le_of_eq W_348.size.symm)
  have O_355 : Old Z n0 h_347 := O_346.wr W_348 g_178
  have f_351 : Sta Z h_347 "com/example/tenscale/tenscale/Coefficient" "LONG_POWERS" "[J" (.ref b) := Sta.ext O_355.2 hS
  change Ary Z h_347 a_172 .long [(.long (1 : Int64)), (.long (10 : Int64)), (.long (100 : Int64)), (.long (1000 : Int64)), (.long (10000 : Int64)), (.long (100000 : Int64)), (.long (1000000 : Int64)), (.long (10000000 : Int64)), (.long (100000000 : Int64)), (.long (1000000000 : Int64)), (.long (10000000000 : Int64)), (.long (100000000000 : Int64)), (.long (1000000000000 : Int64)), (.long (10000000000000 : Int64)), (.long (100000000000000 : Int64)), (.long (1000000000000000 : Int64)), (.long (10000000000000000 : Int64)), (.long (100000000000000000 : Int64)), (.long (1000000000000000000 : Int64))] at A_349
  refine Go.astore (pc' := 131) (Ls' := #[.val (.long x0), .second, .val (.int k0), .val (.int d0), .val (.int s0), .val (.ref a_172), .unset, .unset, .unset, .unset, .unset, .unset]) at_129 rfl rfl rfl ?_
  refine Go.iloadN (pc' := 132) at_131 rfl rfl ?_
  refine Go.ldcI (pc' := 134) (hw _ (List.mem_of_getElem? (i := 19) rfl)) at_132 rfl ?_
  refine Go.iand (pc' := 135) at_134 rfl ?_
  refine Go.bipush (pc' := 137) (v := (19 : Int32)) at_135 rfl rfl ?_
  refine Go.irem (pc' := 138) at_137 (by decide) rfl ?_
  generalize ei_356 : (k0 &&& (2147483647 : Int32)) % (19 : Int32) = i_356
  have k_357 : 0 ≤ i_356.toInt ∧ i_356.toInt < 19 := by
    rw [← ei_356]
    have : (2147483647 : Int32).toInt = 2147483647 := by decide
    have := c_mask k0 (2147483647 : Int32) 31 (by decide) (by decide)
    have := rng32 (k0 &&& (2147483647 : Int32))
    have := rng32 k0
    have : (19 : Int32).toInt = 19 := by decide
    have := c_irem (k0 &&& (2147483647 : Int32)) (19 : Int32) 19 (by decide)
    have := rng32 ((k0 &&& (2147483647 : Int32)) % (19 : Int32))
    omega
  refine Go.istore (pc' := 140) (Ls' := #[.val (.long x0), .second, .val (.int k0), .val (.int d0), .val (.int s0), .val (.ref a_172), .val (.int i_356), .unset, .unset, .unset, .unset, .unset]) at_138 rfl rfl ?_
  refine Go.lloadN (pc' := 141) at_140 rfl rfl ?_
  refine Go.ldcL (pc' := 144) (hw _ (List.mem_of_getElem? (i := 20) rfl)) at_141 rfl ?_
  refine Go.land (pc' := 145) at_144 rfl ?_
  generalize eu_358 : x0 &&& (9223372036854775807 : Int64) = u_358
  have k_359 : 0 ≤ u_358.toInt := by
    rw [← eu_358]
    have : (9223372036854775807 : Int64).toInt = 9223372036854775807 := by decide
    have := c_maskL x0 (9223372036854775807 : Int64) 63 (by decide) (by decide)
    have := rng64 (x0 &&& (9223372036854775807 : Int64))
    have := rng64 x0
    omega
  refine Go.lstore (pc' := 147) (Ls' := #[.val (.long x0), .second, .val (.int k0), .val (.int d0), .val (.int s0), .val (.ref a_172), .val (.int i_356), .val (.long u_358), .second, .unset, .unset, .unset]) at_145 rfl rfl ?_
  refine Go.iload (pc' := 149) at_147 rfl rfl ?_
  refine Go.iconst (pc' := 150) (v := (3 : Int32)) at_149 rfl rfl ?_
  refine Go.iand (pc' := 151) at_150 rfl ?_
  generalize ev_360 : s0 &&& (3 : Int32) = v_360
  refine Go.istore (pc' := 153) (Ls' := #[.val (.long x0), .second, .val (.int k0), .val (.int d0), .val (.int s0), .val (.ref a_172), .val (.int i_356), .val (.long u_358), .second, .val (.int v_360), .unset, .unset]) at_151 rfl rfl ?_
  refine Go.iload (pc' := 155) at_153 rfl rfl ?_
  have J : ∀ q : Int64, 0 ≤ q.toInt → (Go false l room_1 Z x code maxLocals ret n0 16 128 (fun v h => v = some (.int 1))) h_347 (0 + 1) (0 + 19) 202 #[.val (.long x0), .second, .val (.int k0), .val (.int d0), .val (.int s0), .val (.ref a_172), .val (.int i_356), .val (.long u_358), .second, .val (.int v_360), .val (.long q), .second] [] := by
    intro q hq
    refine Go.lload (pc' := 204) at_202 rfl rfl ?_
    refine Go.callS (pc' := 207) (argsL := [(.long q)]) (rest := []) (W := 0) (hw _ (List.mem_of_getElem? (i := 21) rfl)) (hw _ (List.mem_of_getElem? (i := 22) rfl)) (hw _ (List.mem_of_getElem? (i := 23) rfl)) (hw _ (List.mem_of_getElem? (i := 24) rfl)) (by decide) (m_d l Z a0 hw b q h_347 n0 z_354 f_351 f_350 hq) at_204 rfl pd1 rfl rfl (Nat.le_of_eq rfl) (by decide) (by decide) (by decide) (by decide) rfl ?_
    rintro _ _ ⟨r, rfl, rfl, hr⟩
    show (Go false l room_1 Z x code maxLocals ret n0 16 128 (fun v h => v = some (.int 1))) h_347 (0 + 1 + 0) (0 + 19 + 0) 207 #[.val (.long x0), .second, .val (.int k0), .val (.int d0), .val (.int s0), .val (.ref a_172), .val (.int i_356), .val (.long u_358), .second, .val (.int v_360), .val (.long q), .second] [(.int r)]
    refine Go.lload (pc' := 209) at_207 rfl rfl ?_
    refine Go.callS (pc' := 212) (argsL := [(.long q)]) (rest := [(.int r)]) (W := 1) (hw _ (List.mem_of_getElem? (i := 36) rfl)) (hw _ (List.mem_of_getElem? (i := 37) rfl)) (hw _ (List.mem_of_getElem? (i := 38) rfl)) (hw _ (List.mem_of_getElem? (i := 39) rfl)) (by decide) (m_r l Z a0 hw q h_347 n0 z_354 hq) at_209 rfl pd1 rfl rfl (Nat.le_of_eq rfl) (by decide) (by decide) (by decide) (by decide) rfl ?_
    rintro _ _ ⟨t, rfl, rfl, ht⟩
    show (Go false l room_1 Z x code maxLocals ret n0 16 128 (fun v h => v = some (.int 1))) h_347 (0 + 1 + 0 + 0) (0 + 19 + 0 + 0) 212 #[.val (.long x0), .second, .val (.int k0), .val (.int d0), .val (.int s0), .val (.ref a_172), .val (.int i_356), .val (.long u_358), .second, .val (.int v_360), .val (.long q), .second] [(.int t), (.int r)]
    refine Go.icmp (pc1 := 219) (pc2 := 215) at_212 (by decide) (by decide) rfl (fun (c_361 : r.toInt ≠ t.toInt) => ?_) (fun (c_361 : r.toInt = t.toInt) => ?_)
    · exact absurd (own_dig_eq hr ht) c_361
    refine Go.iconst (pc' := 216) (v := (1 : Int32)) at_215 rfl rfl ?_
    refine Go.goto (pc' := 220) at_216 (by decide) (by decide) ?_
    exact Go.retN (t := .boolean) at_220 rfl (by simp) rfl rfl (by decide) (by decide)
  refine Go.ifc (pc1 := 165) (pc2 := 158) at_155 (by decide) (by decide) rfl (fun (c_362 : v_360.toInt ≠ 0) => ?_) (fun (c_362 : v_360.toInt = 0) => ?_)
  · refine Go.iload (pc' := 167) at_165 rfl rfl ?_
    refine Go.iconst (pc' := 168) (v := (1 : Int32)) at_167 rfl rfl ?_
    refine Go.icmp (pc1 := 184) (pc2 := 171) at_168 (by decide) (by decide) rfl (fun (c_363 : v_360.toInt ≠ (1 : Int)) => ?_) (fun (c_363 : v_360.toInt = (1 : Int)) => ?_)
    · refine Go.lconst (pc' := 185) (v := (0 : Int64)) at_184 rfl rfl ?_
      refine Go.aload (pc' := 187) at_185 rfl rfl rfl ?_
      refine Go.iload (pc' := 189) at_187 rfl rfl ?_
      obtain ⟨pw, hpw, hp1, hp2⟩ := own_pows i_356.toInt.toNat (by omega)
      have hpw0 : pw ≠ 0 := fun q => by rw [q] at hp1; revert hp1; decide
      refine Go.ldJ (pc' := 190) (k := i_356.toInt.toNat) (v := (.long pw)) A_349 (by omega) hpw at_189 rfl ?_
      refine Go.iloadN (pc' := 191) at_190 rfl rfl ?_
      refine Go.iconst (pc' := 192) (v := (3 : Int32)) at_191 rfl rfl ?_
      refine Go.iand (pc' := 193) at_192 rfl ?_
      refine Go.iconst (pc' := 194) (v := (2 : Int32)) at_193 rfl rfl ?_
      refine Go.isub (pc' := 195) at_194 rfl ?_
      refine Go.i2l (pc' := 196) at_195 rfl ?_
      refine Go.ladd (pc' := 197) at_196 rfl ?_
      generalize ev_364 : pw + (((d0 &&& (3 : Int32)) - (2 : Int32)).toInt64) = v_364
      refine Go.callS (pc' := 200) (argsL := [(.long (0 : Int64)), (.long v_364)]) (rest := []) (W := 0) (hw _ (List.mem_of_getElem? (i := 40) rfl)) (hw _ (List.mem_of_getElem? (i := 41) rfl)) (hw _ (List.mem_of_getElem? (i := 42) rfl)) (hw _ (List.mem_of_getElem? (i := 43) rfl)) (by decide) (m_m l Z a0 hw (0 : Int64) v_364 h_347 n0 z_354) at_197 rfl pd2 rfl rfl (Nat.le_of_eq rfl) (by decide) (by decide) (by decide) (by decide) rfl ?_
      rintro _ _ ⟨r, rfl, rfl, hr⟩
      show (Go false l room_1 Z x code maxLocals ret n0 16 128 (fun v h => v = some (.int 1))) h_347 (0 + 1 + 0) (0 + 19 + 0) 200 #[.val (.long x0), .second, .val (.int k0), .val (.int d0), .val (.int s0), .val (.ref a_172), .val (.int i_356), .val (.long u_358), .second, .val (.int v_360), .unset, .unset] [(.long r)]
      refine Go.lstore (pc' := 202) (Ls' := #[.val (.long x0), .second, .val (.int k0), .val (.int d0), .val (.int s0), .val (.ref a_172), .val (.int i_356), .val (.long u_358), .second, .val (.int v_360), .val (.long r), .second]) at_200 rfl rfl ?_
      exact J _ hr
    · refine Go.lload (pc' := 173) at_171 rfl rfl ?_
      refine Go.aload (pc' := 175) at_173 rfl rfl rfl ?_
      refine Go.iload (pc' := 177) at_175 rfl rfl ?_
      obtain ⟨pw, hpw, hp1, hp2⟩ := own_pows i_356.toInt.toNat (by omega)
      have hpw0 : pw ≠ 0 := fun q => by rw [q] at hp1; revert hp1; decide
      refine Go.ldJ (pc' := 178) (k := i_356.toInt.toNat) (v := (.long pw)) A_349 (by omega) hpw at_177 rfl ?_
      refine Go.lrem (pc' := 179) at_178 hpw0 rfl ?_
      generalize ev_365 : u_358 % pw = v_365
      have kn : 0 ≤ v_365.toInt := by rw [← ev_365, Int64.toInt_mod]; exact Int.tmod_nonneg _ (by omega)
      refine Go.lstore (pc' := 181) (Ls' := #[.val (.long x0), .second, .val (.int k0), .val (.int d0), .val (.int s0), .val (.ref a_172), .val (.int i_356), .val (.long u_358), .second, .val (.int v_360), .val (.long v_365), .second]) at_179 rfl rfl ?_
      refine Go.goto (pc' := 202) at_181 (by decide) (by decide) ?_
      exact J _ kn
  · refine Go.lload (pc' := 160) at_158 rfl rfl ?_
    refine Go.lstore (pc' := 162) (Ls' := #[.val (.long x0), .second, .val (.int k0), .val (.int d0), .val (.int s0), .val (.ref a_172), .val (.int i_356), .val (.long u_358), .second, .val (.int v_360), .val (.long u_358), .second]) at_160 rfl rfl ?_
    refine Go.goto (pc' := 202) at_162 (by decide) (by decide) ?_
    exact J _ (by omega)
set_option maxRecDepth 65536 in
set_option maxHeartbeats 40000000 in
theorem comes_1 {Post : Tables → Env → Array Value → State → Outcome → State → Prop} (hpost : ∀ tb e args s v u, (limb_1_1.after args s (.returned v) u = true ∧ limb_1_2.after args s (.returned v) u = true ∧ True) → FrameEnd s (.returned v) u (Jvm.fieldLocs frame_1_writes args s ++ Jvm.arrayLocs frame_1_arrays args s ++ Jvm.staticLocs frame_1_statics s) 16 128 → Post tb e args s (.returned v) u) :
    ArmFor flags0 classFile x code maxLocals ret World_1 tables_1 room_1 Calls_1 rest_1 Pre_1 Post := by
  intro l hfl _ _ p e ha hc hk s m args below hf hA hF happ hP
  obtain ⟨hcalls, hrest, hpre⟩ := hP
  obtain ⟨-, -, -, hnamed, -, -, -, hat⟩ := (Spec.applies_iff hf).mp happ
  obtain ⟨hg, hn⟩ := and_e (Cond.before_iff.mp (show (Jvm.Cond.and given_1 narrow_1).before args s = true from hpre))
  obtain ⟨h1, hg1⟩ := and_e hg
  obtain ⟨w0, w1, w2, w3, rfl⟩ : ∃ w0 w1 w2 w3 : Value, args = #[w0, w1, w2, w3] := by
    have hs : args.size = 4 := by simpa [Cond.value, given_1] using h1
    obtain ⟨L⟩ := args
    match L, hs with
    | [w0, w1, w2, w3], _ => exact ⟨w0, w1, w2, w3, rfl⟩
  have hw := fun d (hd : d ∈ tables_1) => atoms_spec (ws := Jvm.Cond.code x code maxLocals ret :: tables_1) hat d (List.mem_cons_of_mem _ hd)
  have hfit : Fit s := fun {y c} hc i hi => by
    obtain ⟨ha, rfl⟩ := Array.getElem?_eq_some_iff.mp hc
    have q := List.all_eq_true.mp ((Array.all_eq_true_iff_forall_mem.mp hF) _ (Array.getElem_mem ha)) i (List.mem_range.mpr hi)
    simpa [Array.getElem?_eq_getElem hi] using q
  obtain ⟨b0, hg2⟩ := and_e hg1
  obtain ⟨i0, e0⟩ := isL_v b0
  obtain rfl : w0 = (.long i0) := Option.some.inj e0
  obtain ⟨b1, hg3⟩ := and_e hg2
  obtain ⟨i1, e1⟩ := is_v b1
  obtain rfl : w1 = (.int i1) := Option.some.inj e1
  obtain ⟨b2, hg4⟩ := and_e hg3
  obtain ⟨i2, e2⟩ := is_v b2
  obtain rfl : w2 = (.int i2) := Option.some.inj e2
  obtain ⟨i3, e3⟩ := is_v hg4
  obtain rfl : w3 = (.int i3) := Option.some.inj e3
  obtain ⟨x0, hn0⟩ := and_e hn
  obtain ⟨x1, hn1⟩ := and_e hn0
  obtain ⟨y0, hn2⟩ := and_e hn1
  obtain ⟨y1, hn3⟩ := and_e hn2
  obtain ⟨y2, hn4⟩ := and_e hn3
  obtain ⟨y3, hn5⟩ := and_e hn4
  obtain ⟨y4, hn6⟩ := and_e hn5
  obtain ⟨y5, hn7⟩ := and_e hn6
  obtain ⟨y6, hn8⟩ := and_e hn7
  obtain ⟨y7, hn9⟩ := and_e hn8
  obtain ⟨y8, hn10⟩ := and_e hn9
  obtain ⟨y9, hn11⟩ := and_e hn10
  obtain ⟨y10, hn12⟩ := and_e hn11
  obtain ⟨y11, hn13⟩ := and_e hn12
  obtain ⟨y12, hn14⟩ := and_e hn13
  obtain ⟨y13, hn15⟩ := and_e hn14
  obtain ⟨y14, hn16⟩ := and_e hn15
  obtain ⟨y15, hn17⟩ := and_e hn16
  obtain ⟨y16, hn18⟩ := and_e hn17
  obtain ⟨y17, hn19⟩ := and_e hn18
  have y18 := hn19
  obtain ⟨b, eb⟩ := arr_v x0
  obtain ⟨cl, A⟩ := Arr.start eb x0
  have S1 := Sta.start eb (Or.inr ⟨(hw _ (List.mem_of_getElem? (i := 23) rfl)), (hw _ (List.mem_of_getElem? (i := 35) rfl))⟩)
  have hsz := own_len eb A (own_eqI x1) (k := 19) rfl
  have AA : Ary s s.heap b .long [.long (1 : Int64), .long (10 : Int64), .long (100 : Int64), .long (1000 : Int64), .long (10000 : Int64), .long (100000 : Int64), .long (1000000 : Int64), .long (10000000 : Int64), .long (100000000 : Int64), .long (1000000000 : Int64), .long (10000000000 : Int64), .long (100000000000 : Int64), .long (1000000000000 : Int64), .long (10000000000000 : Int64), .long (100000000000000 : Int64), .long (1000000000000000 : Int64), .long (10000000000000000 : Int64), .long (100000000000000000 : Int64), .long (1000000000000000000 : Int64)] := own_ary A (by rw [hsz]; rfl) (by
    intro k hk
    rcases (by have : k < 19 := hk; omega : k = 0 ∨ k = 1 ∨ k = 2 ∨ k = 3 ∨ k = 4 ∨ k = 5 ∨ k = 6 ∨ k = 7 ∨ k = 8 ∨ k = 9 ∨ k = 10 ∨ k = 11 ∨ k = 12 ∨ k = 13 ∨ k = 14 ∨ k = 15 ∨ k = 16 ∨ k = 17 ∨ k = 18) with rfl | rfl | rfl | rfl | rfl | rfl | rfl | rfl | rfl | rfl | rfl | rfl | rfl | rfl | rfl | rfl | rfl | rfl | rfl
    · exact own_elem eb A (own_eqL y0) (k := 0) rfl
    · exact own_elem eb A (own_eqL y1) (k := 1) rfl
    · exact own_elem eb A (own_eqL y2) (k := 2) rfl
    · exact own_elem eb A (own_eqL y3) (k := 3) rfl
    · exact own_elem eb A (own_eqL y4) (k := 4) rfl
    · exact own_elem eb A (own_eqL y5) (k := 5) rfl
    · exact own_elem eb A (own_eqL y6) (k := 6) rfl
    · exact own_elem eb A (own_eqL y7) (k := 7) rfl
    · exact own_elem eb A (own_eqL y8) (k := 8) rfl
    · exact own_elem eb A (own_eqL y9) (k := 9) rfl
    · exact own_elem eb A (own_eqL y10) (k := 10) rfl
    · exact own_elem eb A (own_eqL y11) (k := 11) rfl
    · exact own_elem eb A (own_eqL y12) (k := 12) rfl
    · exact own_elem eb A (own_eqL y13) (k := 13) rfl
    · exact own_elem eb A (own_eqL y14) (k := 14) rfl
    · exact own_elem eb A (own_eqL y15) (k := 15) rfl
    · exact own_elem eb A (own_eqL y16) (k := 16) rfl
    · exact own_elem eb A (own_eqL y17) (k := 17) rfl
    · exact own_elem eb A (own_eqL y18) (k := 18) rfl)
  obtain ⟨n, o, h1, h2, h3, _, L, rfl, ⟨⟨rfl, -⟩, N⟩, hq⟩ := rm1 l s _ hw tables_1 i0 i1 i2 i3 b s.heap s.heap.size (Nat.le_refl _) (Old.start s) S1 AA p e ha hc hk s m _ below hf ((Spec.applies_iff_loose hf).mp happ).1 ⟨rfl, State.Warmed39.refl s, rfl⟩ trivial
  refine ⟨n, _, h1, h2, h3, hpost _ _ _ _ _ _ ⟨Cond.after_iff.mpr rfl, Cond.after_iff.mpr (eq_i res_at (Term.int_eval (1)) rfl), trivial⟩ ⟨hq.1, hq.2.1, (hq.2.2.sift fun y hy => Or.inr (N y hy)).mono (by decide) (by decide)⟩⟩
theorem main_1_1 : Claimed_1_1 := comes_1 fun _ _ _ _ _ _ h hF => ⟨h.1, hF⟩
theorem main_1_2 : Claimed_1_2 := comes_1 fun _ _ _ _ _ _ h hF => ⟨h.2.1, hF⟩
end Jvm.Pilot.@@N@@
namespace Jvm.Pilot.@@N@@
open Jvm Jvm.ClassFile Sem Op Lib Jvm.Free Jvm.Stand Jvm.Pilot.@@N@@.Jvm.D
/-! MADE BY PROGRAM (witnessworld.py) out of the Statement's table words and the real class files: 18 classes; the members and pool entries that the words name. The judged class is class 1, her method 1. -/
namespace start1
open Jvm.ClassFile
def u (s : String) : CpInfo := .utf8 (stringToUtf16 s)
/-- a pool by its gaps: so many unusable entries, then the entry; so many at the end -/
def gap : Nat → List CpInfo → List CpInfo
  | 0, r => r
  | n + 1, r => .unusable :: gap n r
def poolList (es : List (Nat × CpInfo)) (last : Nat) : List CpInfo := es.foldr (fun e r => gap e.1 (e.2 :: r)) (gap last [])
def pool (es : List (Nat × CpInfo)) (last : Nat) : Array CpInfo := ⟨poolList es last⟩
def fileOf (pool : Array CpInfo) (this : Nat) (attrs : Array Attribute := #[]) (ms : Array MethodInfo := #[]) (fl : Nat := 33) (sup : Nat := 0) (ifs : Array Nat := #[]) (fds : Array FieldInfo := #[]) : ClassFile where
  minorVersion := 0
  majorVersion := 65
  constantPool := pool
  accessFlags := fl
  thisClass := this
  superClass := sup
  interfaces := ifs
  fields := fds
  methods := ms
  attributes := attrs
def plain (name : String) (sup : Option ClassId) : Class where
  name := name
  kind := .ordinary
  loader := none
  accessFlags := 33
  super := sup
  interfaces := #[]
  cf := none
  fields := #[]
  methods := #[]
  instanceTypes := #[]
  staticTypes := #[]
  resolved := #[]
  callSites := []
  init := .initialized
  statics := none
  mirror := none

def pool0 : Array CpInfo := pool [(5, u "<init>"), (0, u "()V"), (1, .class_ 10), (1, u "java/lang/Object")] 113

def k0m0 : Method := { name := "<init>", desc := "()V", sig := { parameters := [], returnType := none }, accessFlags := 1, code := none }
/-- java/lang/Object -/
def k0 : Class := { plain "java/lang/Object" none with
  accessFlags := 33
  interfaces := #[]
  cf := some (fileOf pool0 8 #[] #[{ accessFlags := 1, nameIndex := 5, descriptorIndex := 6, attributes := #[] }] 33 0 #[] #[])
  fields := #[]
  methods := #[k0m0]
  instanceTypes := #[]
  staticTypes := #[]
  resolved := Array.replicate 124 none
  statics := none }

def pool1 : Array CpInfo := pool [(2, .class_ 4), (1, u "java/lang/Object"), (0, u "<init>"), (0, u "()V"), (0, .long 10), (1, .long 100), (1, .long 1000), (1, .long 10000), (1, .long 100000), (1, .long 1000000), (1, .long 10000000), (1, .long 100000000), (1, .long 1000000000), (1, .long 10000000000), (1, .long 100000000000), (1, .long 1000000000000), (1, .long 10000000000000), (1, .long 100000000000000), (1, .long 1000000000000000), (1, .long 10000000000000000), (1, .long 100000000000000000), (1, .long 1000000000000000000), (1, .integer 2147483647), (2, .long 9223372036854775807), (1, .methodref 49 50), (0, .class_ 51), (0, .nameAndType 52 53), (0, u "java/lang/Math"), (0, u "max"), (0, u "(JJ)J"), (0, .methodref 55 56), (0, .class_ 57), (0, .nameAndType 58 59), (0, u "com/example/tenscale/tenscale/Coefficient"), (0, u "digitCount"), (0, u "(J)I"), (0, .methodref 61 62), (0, .class_ 63), (0, .nameAndType 64 59), (0, u "com/example/tenscale/tenscale/CoefficientDigitCountPinLaw"), (0, u "reference"), (2, u "law"), (0, u "(JIII)Z")] 5

def k1m0 : Method := { name := "<init>", desc := "()V", sig := { parameters := [], returnType := none }, accessFlags := 1, code := none }
def k1c1 : Code := { maxStack := 6, maxLocals := 12, code := code, exceptionTable := #[], attributes := #[] }
def k1m1 : Method := { name := "law", desc := "(JIII)Z", sig := { parameters := [.long, .int, .int, .int], returnType := some .boolean }, accessFlags := 9, code := some k1c1 }
def k1c2 : Code := { maxStack := 4, maxLocals := 2, code := method_3_code, exceptionTable := #[], attributes := #[] }
def k1m2 : Method := { name := "reference", desc := "(J)I", sig := { parameters := [.long], returnType := some .int }, accessFlags := 10, code := some k1c2 }
/-- com/example/tenscale/tenscale/CoefficientDigitCountPinLaw -/
def k1 : Class := { plain "com/example/tenscale/tenscale/CoefficientDigitCountPinLaw" (some 0) with
  accessFlags := 49
  interfaces := #[]
  cf := some (fileOf pool1 61 #[] #[{ accessFlags := 1, nameIndex := 5, descriptorIndex := 6, attributes := #[] }, { accessFlags := 9, nameIndex := 67, descriptorIndex := 68, attributes := #[] }, { accessFlags := 10, nameIndex := 64, descriptorIndex := 59, attributes := #[] }] 49 2 #[] #[])
  fields := #[]
  methods := #[k1m0, k1m1, k1m2]
  instanceTypes := #[]
  staticTypes := #[]
  resolved := Array.replicate 74 none
  statics := none }

def pool2 : Array CpInfo := pool [(1, .class_ 2), (0, u "com/example/tenscale/tenscale/Coefficient"), (1, .class_ 6), (1, u "java/lang/Object"), (4, u "limbs"), (0, u "[I"), (7, u "(J)I"), (9, u "POWERS"), (11, u "ZERO"), (0, u "Lcom/example/tenscale/tenscale/Coefficient;"), (12, u "digitCount"), (36, .class_ 94), (0, u "com/example/tenscale/tenscale/Coefficient$Division"), (23, u "BASE_RECIPROCAL"), (0, u "J"), (5, u "BASE_SHIFT"), (0, u "I"), (8, .class_ 136), (0, u "com/example/tenscale/tenscale/Coefficient$SquareRoot"), (27, u "ONE"), (16, u "TWO"), (10, .methodref 193 194), (0, .class_ 195), (0, .nameAndType 196 20), (0, u "java/lang/Long"), (0, u "numberOfLeadingZeros"), (14, .fieldref 1 212), (0, .nameAndType 213 214), (0, u "LONG_POWERS"), (0, u "[J"), (2, u "RECIPROCALS"), (2, u "RECIPROCAL_SHIFTS"), (26, u "LIMB_DIGITS"), (2, u "BASE"), (0, u "SHORT_DIGITS"), (1, u "WIDE_DIGITS"), (1, u "MASK")] 34

def k2c0 : Code := { maxStack := 4, maxLocals := 5, code := prog_1_method_32_code, exceptionTable := #[], attributes := #[] }
def k2m0 : Method := { name := "digitCount", desc := "(J)I", sig := { parameters := [.long], returnType := some .int }, accessFlags := 8, code := some k2c0 }
/-- com/example/tenscale/tenscale/Coefficient -/
def k2 : Class := { plain "com/example/tenscale/tenscale/Coefficient" (some 0) with
  accessFlags := 48
  interfaces := #[]
  cf := some (fileOf pool2 1 #[.nestMembers #[135, 93]] #[{ accessFlags := 8, nameIndex := 56, descriptorIndex := 20, attributes := #[] }] 48 4 #[] #[{ accessFlags := 24, nameIndex := 42, descriptorIndex := 43, attributes := #[] }, { accessFlags := 24, nameIndex := 164, descriptorIndex := 43, attributes := #[] }, { accessFlags := 26, nameIndex := 181, descriptorIndex := 43, attributes := #[] }, { accessFlags := 26, nameIndex := 247, descriptorIndex := 126, attributes := #[] }, { accessFlags := 24, nameIndex := 250, descriptorIndex := 126, attributes := #[] }, { accessFlags := 26, nameIndex := 30, descriptorIndex := 12, attributes := #[] }, { accessFlags := 24, nameIndex := 251, descriptorIndex := 126, attributes := #[] }, { accessFlags := 24, nameIndex := 253, descriptorIndex := 126, attributes := #[] }, { accessFlags := 26, nameIndex := 213, descriptorIndex := 214, attributes := #[] }, { accessFlags := 26, nameIndex := 255, descriptorIndex := 119, attributes := #[] }, { accessFlags := 26, nameIndex := 217, descriptorIndex := 214, attributes := #[] }, { accessFlags := 26, nameIndex := 220, descriptorIndex := 12, attributes := #[] }, { accessFlags := 26, nameIndex := 118, descriptorIndex := 119, attributes := #[] }, { accessFlags := 26, nameIndex := 125, descriptorIndex := 126, attributes := #[] }, { accessFlags := 18, nameIndex := 11, descriptorIndex := 12, attributes := #[] }])
  fields := #[{ name := "ZERO", type := (.object "com/example/tenscale/tenscale/Coefficient"), accessFlags := 24, slot := 0, constantValue := 0 }, { name := "ONE", type := (.object "com/example/tenscale/tenscale/Coefficient"), accessFlags := 24, slot := 1, constantValue := 0 }, { name := "TWO", type := (.object "com/example/tenscale/tenscale/Coefficient"), accessFlags := 26, slot := 2, constantValue := 0 }, { name := "LIMB_DIGITS", type := .int, accessFlags := 26, slot := 3, constantValue := 0 }, { name := "BASE", type := .int, accessFlags := 24, slot := 4, constantValue := 0 }, { name := "POWERS", type := (.array .int), accessFlags := 26, slot := 5, constantValue := 0 }, { name := "SHORT_DIGITS", type := .int, accessFlags := 24, slot := 6, constantValue := 0 }, { name := "WIDE_DIGITS", type := .int, accessFlags := 24, slot := 7, constantValue := 0 }, { name := "LONG_POWERS", type := (.array .long), accessFlags := 26, slot := 8, constantValue := 0 }, { name := "MASK", type := .long, accessFlags := 26, slot := 9, constantValue := 0 }, { name := "RECIPROCALS", type := (.array .long), accessFlags := 26, slot := 10, constantValue := 0 }, { name := "RECIPROCAL_SHIFTS", type := (.array .int), accessFlags := 26, slot := 11, constantValue := 0 }, { name := "BASE_RECIPROCAL", type := .long, accessFlags := 26, slot := 12, constantValue := 0 }, { name := "BASE_SHIFT", type := .int, accessFlags := 26, slot := 13, constantValue := 0 }, { name := "limbs", type := (.array .int), accessFlags := 18, slot := 0, constantValue := 0 }]
  methods := #[k2m0]
  instanceTypes := #[(.array .int)]
  staticTypes := #[(.object "com/example/tenscale/tenscale/Coefficient"), (.object "com/example/tenscale/tenscale/Coefficient"), (.object "com/example/tenscale/tenscale/Coefficient"), .int, .int, (.array .int), .int, .int, (.array .long), .long, (.array .long), (.array .int), .long, .int]
  resolved := Array.replicate 290 none
  statics := some 0 }

def pool3 : Array CpInfo := pool [(1, .class_ 2), (0, u "java/io/Serializable"), (0, .class_ 4), (0, u "java/lang/Object")] 2

/-- java/io/Serializable -/
def k3 : Class := { plain "java/io/Serializable" (some 0) with
  accessFlags := 1537
  interfaces := #[]
  cf := some (fileOf pool3 1 #[] #[] 1537 3 #[] #[])
  fields := #[]
  methods := #[]
  instanceTypes := #[]
  staticTypes := #[]
  resolved := Array.replicate 7 none
  statics := none }

def pool4 : Array CpInfo := pool [(2, .class_ 4), (1, u "java/lang/Object"), (0, u "<init>"), (0, u "()V"), (1, .class_ 10), (1, u "java/lang/Number"), (2, .class_ 14), (0, u "java/io/Serializable"), (0, u "serialVersionUID"), (0, u "J")] 20

def k4m0 : Method := { name := "<init>", desc := "()V", sig := { parameters := [], returnType := none }, accessFlags := 1, code := none }
/-- java/lang/Number -/
def k4 : Class := { plain "java/lang/Number" (some 0) with
  accessFlags := 1057
  interfaces := #[3]
  cf := some (fileOf pool4 8 #[] #[{ accessFlags := 1, nameIndex := 5, descriptorIndex := 6, attributes := #[] }] 1057 2 #[13] #[{ accessFlags := 26, nameIndex := 15, descriptorIndex := 16, attributes := #[] }])
  fields := #[{ name := "serialVersionUID", type := .long, accessFlags := 26, slot := 0, constantValue := 0 }]
  methods := #[k4m0]
  instanceTypes := #[]
  staticTypes := #[.long]
  resolved := Array.replicate 37 none
  statics := none }

def pool5 : Array CpInfo := pool [(1, .class_ 2), (0, u "java/lang/Comparable"), (0, .class_ 4), (0, u "java/lang/Object")] 7

/-- java/lang/Comparable -/
def k5 : Class := { plain "java/lang/Comparable" (some 0) with
  accessFlags := 1537
  interfaces := #[]
  cf := some (fileOf pool5 1 #[] #[] 1537 3 #[] #[])
  fields := #[]
  methods := #[]
  instanceTypes := #[]
  staticTypes := #[]
  resolved := Array.replicate 12 none
  statics := none }

def pool6 : Array CpInfo := pool [(1, .class_ 2), (0, u "java/lang/constant/Constable"), (0, .class_ 4), (0, u "java/lang/Object")] 6

/-- java/lang/constant/Constable -/
def k6 : Class := { plain "java/lang/constant/Constable" (some 0) with
  accessFlags := 1537
  interfaces := #[]
  cf := some (fileOf pool6 1 #[] #[] 1537 3 #[] #[])
  fields := #[]
  methods := #[]
  instanceTypes := #[]
  staticTypes := #[]
  resolved := Array.replicate 11 none
  statics := none }

def pool7 : Array CpInfo := pool [(1, .class_ 2), (0, u "java/lang/constant/ConstantDesc"), (0, .class_ 4), (0, u "java/lang/Object")] 32

/-- java/lang/constant/ConstantDesc -/
def k7 : Class := { plain "java/lang/constant/ConstantDesc" (some 0) with
  accessFlags := 1537
  interfaces := #[]
  cf := some (fileOf pool7 1 #[] #[] 1537 3 #[] #[])
  fields := #[]
  methods := #[]
  instanceTypes := #[]
  staticTypes := #[]
  resolved := Array.replicate 37 none
  statics := none }

def pool8 : Array CpInfo := pool [(1, .class_ 2), (0, u "java/lang/Long"), (15, .class_ 20), (1, u "java/lang/Integer"), (79, u "numberOfLeadingZeros"), (0, u "(J)I"), (133, .class_ 237), (1, u "java/lang/Long$LongCache"), (33, .class_ 272), (0, u "java/lang/Number"), (2, u "value"), (0, u "J"), (31, .methodref 18 309), (0, .nameAndType 100 310), (0, u "(I)I"), (50, u "TYPE"), (0, u "Ljava/lang/Class;"), (0, .class_ 364), (0, u "java/lang/Comparable"), (0, .class_ 366), (0, u "java/lang/constant/Constable"), (0, .class_ 368), (0, u "java/lang/constant/ConstantDesc"), (0, u "MIN_VALUE"), (1, u "MAX_VALUE"), (4, u "SIZE"), (0, u "I"), (1, u "BYTES"), (1, u "serialVersionUID")] 142

def k8c0 : Code := { maxStack := 3, maxLocals := 3, code := jdk_35_method_48_code, exceptionTable := #[], attributes := #[] }
def k8m0 : Method := { name := "numberOfLeadingZeros", desc := "(J)I", sig := { parameters := [.long], returnType := some .int }, accessFlags := 9, code := some k8c0 }
/-- java/lang/Long -/
def k8 : Class := { plain "java/lang/Long" (some 4) with
  accessFlags := 49
  interfaces := #[5, 6, 7]
  cf := some (fileOf pool8 1 #[.nestMembers #[235]] #[{ accessFlags := 9, nameIndex := 100, descriptorIndex := 101, attributes := #[] }] 49 271 #[363, 365, 367] #[{ accessFlags := 25, nameIndex := 369, descriptorIndex := 276, attributes := #[] }, { accessFlags := 25, nameIndex := 371, descriptorIndex := 276, attributes := #[] }, { accessFlags := 25, nameIndex := 361, descriptorIndex := 362, attributes := #[] }, { accessFlags := 18, nameIndex := 275, descriptorIndex := 276, attributes := #[] }, { accessFlags := 25, nameIndex := 376, descriptorIndex := 377, attributes := #[] }, { accessFlags := 25, nameIndex := 379, descriptorIndex := 377, attributes := #[] }, { accessFlags := 26, nameIndex := 381, descriptorIndex := 276, attributes := #[] }])
  fields := #[{ name := "MIN_VALUE", type := .long, accessFlags := 25, slot := 0, constantValue := 0 }, { name := "MAX_VALUE", type := .long, accessFlags := 25, slot := 1, constantValue := 0 }, { name := "TYPE", type := (.object "java/lang/Class"), accessFlags := 25, slot := 2, constantValue := 0 }, { name := "value", type := .long, accessFlags := 18, slot := 0, constantValue := 0 }, { name := "SIZE", type := .int, accessFlags := 25, slot := 3, constantValue := 0 }, { name := "BYTES", type := .int, accessFlags := 25, slot := 4, constantValue := 0 }, { name := "serialVersionUID", type := .long, accessFlags := 26, slot := 5, constantValue := 0 }]
  methods := #[k8m0]
  instanceTypes := #[.long]
  staticTypes := #[.long, .long, (.object "java/lang/Class"), .int, .int, .long]
  resolved := Array.replicate 524 none
  statics := none }

def pool9 : Array CpInfo := pool [(1, .class_ 2), (0, u "java/lang/Integer"), (16, u "digits"), (0, u "[C"), (32, u "numberOfLeadingZeros"), (0, u "(I)I"), (30, u "DigitOnes"), (0, u "[B"), (2, u "DigitTens"), (99, .class_ 190), (0, u "java/lang/Integer$IntegerCache"), (3, u "I"), (8, .class_ 204), (0, u "java/lang/Number"), (2, u "value"), (56, .integer 65536), (37, u "TYPE"), (0, u "Ljava/lang/Class;"), (0, .class_ 305), (0, u "java/lang/Comparable"), (0, .class_ 307), (0, u "java/lang/constant/Constable"), (0, .class_ 309), (0, u "java/lang/constant/ConstantDesc"), (0, u "MIN_VALUE"), (1, u "MAX_VALUE"), (3, u "SIZE"), (1, u "BYTES"), (1, u "serialVersionUID"), (0, u "J")] 131

def k9c0 : Code := { maxStack := 3, maxLocals := 2, code := jdk_33_method_47_code, exceptionTable := #[], attributes := #[] }
def k9m0 : Method := { name := "numberOfLeadingZeros", desc := "(I)I", sig := { parameters := [.int], returnType := some .int }, accessFlags := 9, code := some k9c0 }
/-- java/lang/Integer -/
def k9 : Class := { plain "java/lang/Integer" (some 4) with
  accessFlags := 49
  interfaces := #[5, 6, 7]
  cf := some (fileOf pool9 1 #[.nestMembers #[189]] #[{ accessFlags := 9, nameIndex := 53, descriptorIndex := 54, attributes := #[] }] 49 203 #[304, 306, 308] #[{ accessFlags := 25, nameIndex := 310, descriptorIndex := 194, attributes := #[] }, { accessFlags := 25, nameIndex := 312, descriptorIndex := 194, attributes := #[] }, { accessFlags := 25, nameIndex := 302, descriptorIndex := 303, attributes := #[] }, { accessFlags := 24, nameIndex := 19, descriptorIndex := 20, attributes := #[] }, { accessFlags := 24, nameIndex := 89, descriptorIndex := 86, attributes := #[] }, { accessFlags := 24, nameIndex := 85, descriptorIndex := 86, attributes := #[] }, { accessFlags := 18, nameIndex := 207, descriptorIndex := 194, attributes := #[] }, { accessFlags := 25, nameIndex := 316, descriptorIndex := 194, attributes := #[] }, { accessFlags := 25, nameIndex := 318, descriptorIndex := 194, attributes := #[] }, { accessFlags := 26, nameIndex := 320, descriptorIndex := 321, attributes := #[] }])
  fields := #[{ name := "MIN_VALUE", type := .int, accessFlags := 25, slot := 0, constantValue := 0 }, { name := "MAX_VALUE", type := .int, accessFlags := 25, slot := 1, constantValue := 0 }, { name := "TYPE", type := (.object "java/lang/Class"), accessFlags := 25, slot := 2, constantValue := 0 }, { name := "digits", type := (.array .char), accessFlags := 24, slot := 3, constantValue := 0 }, { name := "DigitTens", type := (.array .byte), accessFlags := 24, slot := 4, constantValue := 0 }, { name := "DigitOnes", type := (.array .byte), accessFlags := 24, slot := 5, constantValue := 0 }, { name := "value", type := .int, accessFlags := 18, slot := 0, constantValue := 0 }, { name := "SIZE", type := .int, accessFlags := 25, slot := 6, constantValue := 0 }, { name := "BYTES", type := .int, accessFlags := 25, slot := 7, constantValue := 0 }, { name := "serialVersionUID", type := .long, accessFlags := 26, slot := 8, constantValue := 0 }]
  methods := #[k9m0]
  instanceTypes := #[.int]
  staticTypes := #[.int, .int, (.object "java/lang/Class"), (.array .char), (.array .byte), (.array .byte), .int, .int, .long]
  resolved := Array.replicate 453 none
  statics := none }

def pool10 : Array CpInfo := pool [(1, .class_ 2), (0, u "java/lang/Math"), (1, .class_ 6), (1, u "java/lang/Object"), (0, u "<init>"), (0, u "()V"), (89, .class_ 100), (1, u "java/lang/Math$RandomNumberGeneratorHolder"), (20, u "(JJ)J"), (50, u "negativeZeroFloatBits"), (0, u "J"), (2, u "negativeZeroDoubleBits"), (21, u "max"), (46, u "$assertionsDisabled"), (0, u "Z"), (91, u "twoToTheDoubleScaleDown"), (0, u "D"), (4, u "twoToTheDoubleScaleUp"), (9, u "E"), (3, u "PI"), (2, u "TAU"), (2, u "DEGREES_TO_RADIANS"), (0, u "RADIANS_TO_DEGREES")] 94

def k10m0 : Method := { name := "<init>", desc := "()V", sig := { parameters := [], returnType := none }, accessFlags := 2, code := none }
def k10c1 : Code := { maxStack := 4, maxLocals := 4, code := jdk_29_method_66_code, exceptionTable := #[], attributes := #[] }
def k10m1 : Method := { name := "max", desc := "(JJ)J", sig := { parameters := [.long, .long], returnType := some .long }, accessFlags := 9, code := some k10c1 }
/-- java/lang/Math -/
def k10 : Class := { plain "java/lang/Math" (some 0) with
  accessFlags := 49
  interfaces := #[]
  cf := some (fileOf pool10 1 #[.nestMembers #[98]] #[{ accessFlags := 2, nameIndex := 7, descriptorIndex := 8, attributes := #[] }, { accessFlags := 9, nameIndex := 198, descriptorIndex := 121, attributes := #[] }] 49 4 #[] #[{ accessFlags := 25, nameIndex := 354, descriptorIndex := 339, attributes := #[] }, { accessFlags := 25, nameIndex := 358, descriptorIndex := 339, attributes := #[] }, { accessFlags := 25, nameIndex := 361, descriptorIndex := 339, attributes := #[] }, { accessFlags := 26, nameIndex := 364, descriptorIndex := 339, attributes := #[] }, { accessFlags := 26, nameIndex := 365, descriptorIndex := 339, attributes := #[] }, { accessFlags := 26, nameIndex := 172, descriptorIndex := 173, attributes := #[] }, { accessFlags := 26, nameIndex := 176, descriptorIndex := 173, attributes := #[] }, { accessFlags := 8, nameIndex := 344, descriptorIndex := 339, attributes := #[] }, { accessFlags := 8, nameIndex := 338, descriptorIndex := 339, attributes := #[] }, { accessFlags := 4120, nameIndex := 245, descriptorIndex := 246, attributes := #[] }])
  fields := #[{ name := "E", type := .double, accessFlags := 25, slot := 0, constantValue := 0 }, { name := "PI", type := .double, accessFlags := 25, slot := 1, constantValue := 0 }, { name := "TAU", type := .double, accessFlags := 25, slot := 2, constantValue := 0 }, { name := "DEGREES_TO_RADIANS", type := .double, accessFlags := 26, slot := 3, constantValue := 0 }, { name := "RADIANS_TO_DEGREES", type := .double, accessFlags := 26, slot := 4, constantValue := 0 }, { name := "negativeZeroFloatBits", type := .long, accessFlags := 26, slot := 5, constantValue := 0 }, { name := "negativeZeroDoubleBits", type := .long, accessFlags := 26, slot := 6, constantValue := 0 }, { name := "twoToTheDoubleScaleUp", type := .double, accessFlags := 8, slot := 7, constantValue := 0 }, { name := "twoToTheDoubleScaleDown", type := .double, accessFlags := 8, slot := 8, constantValue := 0 }, { name := "$assertionsDisabled", type := .boolean, accessFlags := 4120, slot := 9, constantValue := 0 }]
  methods := #[k10m0, k10m1]
  instanceTypes := #[]
  staticTypes := #[.double, .double, .double, .double, .double, .long, .long, .double, .double, .boolean]
  resolved := Array.replicate 460 none
  statics := none }

def pool11 : Array CpInfo := pool [(1, u "java/lang/Cloneable"), (0, .class_ 1), (0, u "java/lang/Object"), (0, .class_ 3)] 3

/-- java/lang/Cloneable -/
def k11 : Class := { plain "java/lang/Cloneable" (some 0) with
  accessFlags := 1537
  interfaces := #[]
  cf := some (fileOf pool11 2 #[] #[] 1537 4 #[] #[])
  fields := #[]
  methods := #[]
  instanceTypes := #[]
  staticTypes := #[]
  resolved := Array.replicate 8 none
  statics := none }

/-- the primitive byte -/
def k12 : Class := { plain "byte" none with kind := .primitive 'B', accessFlags := 0x411 }
/-- [B -/
def k13 : Class := { plain "[B" (some 0) with kind := .array 12 .byte, interfaces := #[11, 3], accessFlags := 1041 }

/-- the primitive int -/
def k14 : Class := { plain "int" none with kind := .primitive 'I', accessFlags := 0x411 }
/-- [I -/
def k15 : Class := { plain "[I" (some 0) with kind := .array 14 .int, interfaces := #[11, 3], accessFlags := 1041 }

/-- the primitive long -/
def k16 : Class := { plain "long" none with kind := .primitive 'J', accessFlags := 0x411 }
/-- [J -/
def k17 : Class := { plain "[J" (some 0) with kind := .array 16 .long, interfaces := #[11, 3], accessFlags := 1041 }

def heap : Heap := #[{ cls := 2, slots := #[.null, .null, .null, .int 0, .int 0, .null, .int 0, .int 0, .ref 1, .long 0, .null, .null, .long 0, .int 0], vm := .statics 2 },
  { cls := 17, slots := #[.long 1, .long 10, .long 100, .long 1000, .long 10000, .long 100000, .long 1000000, .long 10000000, .long 100000000, .long 1000000000, .long 10000000000, .long 100000000000, .long 1000000000000, .long 10000000000000, .long 100000000000000, .long 1000000000000000, .long 10000000000000000, .long 100000000000000000, .long 1000000000000000000], vm := .none }]
def classes : Array Class := #[k0, k1, k2, k3, k4, k5, k6, k7, k8, k9, k10, k11, k12, k13, k14, k15, k16, k17]
def interned : List (Array UInt16 × Addr) := []
def slotsUsed : Nat := 33
def theMethod : MethodId := ⟨1, 1⟩
def args0 : Array Value := #[.long 5, .int 6, .int 7, .int 8]
def aboutOver (below : List Frame) : State where
  vm := { classes := classes, interned := interned.toArray }
  heap := heap
  slotsUsed := slotsUsed
  threads := #[{ frames := .invoking theMethod args0 :: below }]
def below0 : List Frame := [.native { method := ⟨0, 0⟩, args := #[] }]
def about1 : State := aboutOver below0
def p0 : Program := .bare "" "" ""
def e0 : Env := launch0.env 0 0 0
theorem w_frames : about1.frames = Frame.invoking theMethod args0 :: below0 := rfl
set_option maxRecDepth 65536 in
theorem w_args : argsFit about1.vm theMethod args0 = true := by decide +kernel
set_option maxRecDepth 65536 in
theorem w_heap : heapFits about1 = true := by decide +kernel
set_option maxRecDepth 65536 in
theorem w_runnable : about1.curStatus? = some .runnable := by decide +kernel
set_option maxRecDepth 65536 in
theorem w_alone : about1.alone = true := by decide +kernel
set_option maxRecDepth 65536 in
theorem w_named : about1.methodNamed? x = some theMethod := by decide +kernel
set_option maxRecDepth 65536 in
theorem w_hears : about1.hears theMethod below0 = true := by decide +kernel
set_option maxRecDepth 65536 in
theorem w_ripe : about1.ripe theMethod args0 below0 = true := by decide +kernel
theorem w_running : about1.status = .running := rfl
set_option maxRecDepth 65536 in
theorem w_room : about1.hasRoom e0.platform room_1 = true :=
  launch0.hasRoom_least _ room_1 (by decide +kernel) (by decide +kernel) (by decide +kernel) (by decide +kernel) (by decide +kernel) (by decide +kernel)
theorem allAtoms_all (ts : List Jvm.Cond) (a : Array Jvm.Value) (st : Jvm.State) : (allAtoms ts).before a st = ts.all (fun c => c.before a st) := by
  induction ts with
  | nil => rfl
  | cons c t ih =>
    show (Jvm.Cond.and c (allAtoms t)).before a st = _
    rw [Jvm.Cond.before_and, ih, List.all_cons]
def words1 : List Jvm.Cond := Jvm.Cond.code x code maxLocals ret :: tables_1
/-- a 'code' word, met by the world's own term for the bytes: nothing is compared byte by byte -/
theorem code_word {y : MethodName} {bytes : ByteArray} {mx : Nat} {rt : Option FieldType} {a : Array Value} {s : State} {m : MethodId} {meth : Method} {c : Code} (h1 : s.methodNamed? y = some m) (h2 : s.vm.method? m = some meth) (h3 : meth.code = some c) (h4 : c.code = bytes)
    (h5 : (c.maxLocals == mx && c.exceptionTable.isEmpty && decide (c.maxStack ≤ mostOperands) && decide (meth.sig.returnType = rt) && !meth.locks && decide (parseMethodDescriptor y.desc = some meth.sig)) = true) : (Jvm.Cond.code y bytes mx rt).before a s = true := by
  simp only [Bool.and_eq_true, beq_iff_eq, Bool.not_eq_true', decide_eq_true_eq] at h5
  obtain ⟨⟨⟨⟨⟨g1, g2⟩, g3⟩, g4⟩, g5⟩, g6⟩ := h5
  simp [Cond.before, Cond.holds, Cond.value, h1, h2, h3, h4, g1, g2, g3, g4, g5, g6]
def isCode : Jvm.Cond → Bool
  | .code _ _ _ _ => true
  | _ => false
theorem all_split {L : List Jvm.Cond} {P : Jvm.Cond → Bool} (h1 : L.all (fun c => isCode c || P c) = true) (h2 : ∀ c ∈ L.filter isCode, P c = true) : L.all P = true := by
  refine List.all_eq_true.mpr fun c hc => ?_
  have h := List.all_eq_true.mp h1 c hc
  rcases Bool.eq_false_or_eq_true (isCode c) with hi | hi
  · exact h2 c (List.mem_filter.mpr ⟨hc, hi⟩)
  · simpa [hi] using h
set_option maxRecDepth 65536 in
theorem w_c0 : (Jvm.Cond.code x code maxLocals ret).before args0 about1 = true := code_word (m := ⟨1, 1⟩) (meth := k1m1) (c := k1c1) (by decide +kernel) rfl rfl rfl (by decide +kernel)
set_option maxRecDepth 65536 in
theorem w_c1 : (Jvm.Cond.code ({ cls := "com/example/tenscale/tenscale/Coefficient", name := "digitCount", desc := "(J)I" } : Jvm.MethodName) prog_1_method_32_code (5 : Nat) (Option.some Jvm.ClassFile.FieldType.int)).before args0 about1 = true := code_word (m := ⟨2, 0⟩) (meth := k2m0) (c := k2c0) (by decide +kernel) rfl rfl rfl (by decide +kernel)
set_option maxRecDepth 65536 in
theorem w_c2 : (Jvm.Cond.code ({ cls := "java/lang/Long", name := "numberOfLeadingZeros", desc := "(J)I" } : Jvm.MethodName) jdk_35_method_48_code (3 : Nat) (Option.some Jvm.ClassFile.FieldType.int)).before args0 about1 = true := code_word (m := ⟨8, 0⟩) (meth := k8m0) (c := k8c0) (by decide +kernel) rfl rfl rfl (by decide +kernel)
set_option maxRecDepth 65536 in
theorem w_c3 : (Jvm.Cond.code ({ cls := "java/lang/Integer", name := "numberOfLeadingZeros", desc := "(I)I" } : Jvm.MethodName) jdk_33_method_47_code (2 : Nat) (Option.some Jvm.ClassFile.FieldType.int)).before args0 about1 = true := code_word (m := ⟨9, 0⟩) (meth := k9m0) (c := k9c0) (by decide +kernel) rfl rfl rfl (by decide +kernel)
set_option maxRecDepth 65536 in
theorem w_c4 : (Jvm.Cond.code ({ cls := "com/example/tenscale/tenscale/CoefficientDigitCountPinLaw", name := "reference", desc := "(J)I" } : Jvm.MethodName) method_3_code (2 : Nat) (Option.some Jvm.ClassFile.FieldType.int)).before args0 about1 = true := code_word (m := ⟨1, 2⟩) (meth := k1m2) (c := k1c2) (by decide +kernel) rfl rfl rfl (by decide +kernel)
set_option maxRecDepth 65536 in
theorem w_c5 : (Jvm.Cond.code ({ cls := "java/lang/Math", name := "max", desc := "(JJ)J" } : Jvm.MethodName) jdk_29_method_66_code (4 : Nat) (Option.some Jvm.ClassFile.FieldType.long)).before args0 about1 = true := code_word (m := ⟨10, 1⟩) (meth := k10m1) (c := k10c1) (by decide +kernel) rfl rfl rfl (by decide +kernel)
def codes1 : List Jvm.Cond := [Jvm.Cond.code x code maxLocals ret, Jvm.Cond.code ({ cls := "com/example/tenscale/tenscale/Coefficient", name := "digitCount", desc := "(J)I" } : Jvm.MethodName) prog_1_method_32_code (5 : Nat) (Option.some Jvm.ClassFile.FieldType.int), Jvm.Cond.code ({ cls := "java/lang/Long", name := "numberOfLeadingZeros", desc := "(J)I" } : Jvm.MethodName) jdk_35_method_48_code (3 : Nat) (Option.some Jvm.ClassFile.FieldType.int), Jvm.Cond.code ({ cls := "java/lang/Integer", name := "numberOfLeadingZeros", desc := "(I)I" } : Jvm.MethodName) jdk_33_method_47_code (2 : Nat) (Option.some Jvm.ClassFile.FieldType.int), Jvm.Cond.code ({ cls := "com/example/tenscale/tenscale/CoefficientDigitCountPinLaw", name := "reference", desc := "(J)I" } : Jvm.MethodName) method_3_code (2 : Nat) (Option.some Jvm.ClassFile.FieldType.int), Jvm.Cond.code ({ cls := "java/lang/Math", name := "max", desc := "(JJ)J" } : Jvm.MethodName) jdk_29_method_66_code (4 : Nat) (Option.some Jvm.ClassFile.FieldType.long)]
set_option maxRecDepth 65536 in
theorem codes_eq : words1.filter isCode = codes1 := rfl
theorem w_codes : ∀ c ∈ words1.filter isCode, c.before args0 about1 = true := by
  rw [codes_eq]
  intro c hc
  simp only [codes1, List.mem_cons, List.not_mem_nil, or_false] at hc
  rcases hc with rfl | rfl | rfl | rfl | rfl | rfl
  · exact w_c0
  · exact w_c1
  · exact w_c2
  · exact w_c3
  · exact w_c4
  · exact w_c5
set_option maxRecDepth 65536 in
theorem w_t1 : (words1.take 24).all (fun c => isCode c || c.before args0 about1) = true := by decide +kernel
set_option maxRecDepth 65536 in
theorem w_t2 : (words1.drop 24).all (fun c => isCode c || c.before args0 about1) = true := by decide +kernel
theorem w_tables : (allAtoms (Jvm.Cond.code x code maxLocals ret :: tables_1)).before args0 about1 = true := by
  rw [allAtoms_all]
  show words1.all (fun c => c.before args0 about1) = true
  refine all_split ?_ w_codes
  rw [← List.take_append_drop 24 words1, List.all_append, w_t1, w_t2]
  rfl
set_option maxRecDepth 65536 in
theorem w_case : (Jvm.Cond.and given_1 narrow_1).before args0 about1 = true := by decide +kernel
theorem w_applies : (headSpec (Jvm.Cond.code x code maxLocals ret :: tables_1) room_1).applies x e0.platform about1 = true :=
  (Spec.applies_iff w_frames).mpr ⟨w_running, w_runnable, w_alone, w_named, w_hears, w_ripe, w_room, w_tables⟩
theorem atStart : AtStart classFile x code maxLocals ret World_1 tables_1 room_1 Calls_1 rest_1 Pre_1 launch0 p0 e0 about1 theMethod args0 below0 :=
  ⟨lists_1, trivial, launch0.admits_env _ _ _, launch0.least_env, fairChoices_fair.cas, fairChoices_fair.clock, w_frames, w_args, w_heap, w_applies, trivial, trivial, w_case⟩
end start1
theorem witness_1 : WitnessClaimed_1 := ⟨start1.p0, start1.e0, start1.about1, start1.theMethod, start1.args0, start1.below0, start1.atStart⟩
end Jvm.Pilot.@@N@@
