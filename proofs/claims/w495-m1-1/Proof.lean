import JvmDerived
import JvmDerived.Pilot.@@N@@Statement
import JvmDerived.Pilot.@@N@@Code
set_option linter.unusedVariables false
set_option linter.unusedSimpArgs false
namespace Jvm.RoadKit
open Sem ClassFile Op Lib Jvm.Stand Jvm.Free Jvm.LawKit
/-- what a walk knows of the method that it walks -/
def Own (Z : State) (y : MethodName) (bytes : ByteArray) (maxL : Nat) (ret : Option FieldType) (p : Program) (s : State) (m : MethodId) (meth : Method) (c : Code) : Prop :=
  p.tables.exec = Jvm.exec ∧ c.code = bytes ∧ c.maxLocals = maxL ∧ s.vm.findClass y.cls = some m.cls ∧ meth.name = y.name ∧ Z.Warmed39 s.vm ∧ meth.sig.returnType = ret ∧ meth.locks = false
/-- how the start s over which the walk stands belongs to the true start s0 (wd: strings may have been interned since) -/
def GoRel (wd : Bool) (s0 s : State) (k : Nat) : Prop := match wd with
  | false => s0 = s
  | true => ∃ (vm0 : Vm) (k0 : Nat), s = s0.setVm vm0 ∧ s0.Since vm0 k0 ∧ k0 ≤ k
/-- the frame of the end -/
def GoEnd (wd : Bool) (s0 : State) (o : Outcome) (t : State) (L : List Loc) (K N : Nat) : Prop := match wd with
  | false => FrameEnd s0 o t L K N
  | true => ReturnedEndW s0 o t L K N
theorem GoRel.mono {wd : Bool} {s0 s : State} {k k' : Nat} (h : GoRel wd s0 s k) (q : k ≤ k') : GoRel wd s0 s k' := by
  cases wd
  · exact h
  · obtain ⟨vm0, k0, h1, h2, h3⟩ := h; exact ⟨vm0, k0, h1, h2, Nat.le_trans h3 q⟩
theorem GoRel.refl (wd : Bool) (s : State) (k : Nat) : GoRel wd s s k := by
  cases wd
  · rfl
  · exact ⟨s.vm, 0, rfl, (State.WarmedH.refl s).since 0, Nat.zero_le _⟩
theorem GoEnd.grow {wd : Bool} {s0 t : State} {o : Outcome} {L : List Loc} {K N : Nat} (h : GoEnd wd s0 o t L K N) : s0.heap.size ≤ t.heap.size := by
  cases wd
  · exact h.2.2.2.1
  · exact h.2.2.2.2.1
theorem GoRel.ended {wd : Bool} {s0 s : State} {v : Option Value} {U : State} {locs : List Loc} {c k c' k' : Nat} (h : GoRel wd s0 s U.heap.size) (hW : s.WarmedH U.vm) (hs : s.sameButNew ({ U with vm := s.vm } : State) locs c k) (hc : c ≤ c') (hk : k ≤ k') : GoEnd wd s0 (.returned v) U locs c' k' := by
  cases wd
  · obtain rfl : s0 = s := h
    exact ⟨⟨_, rfl⟩, hW, hs.mono hc hk⟩
  · obtain ⟨vm0, k0, rfl, h2, h3⟩ := h
    obtain ⟨q1, q2, q3⟩ := h2.ended hW h3 hs
    exact ⟨⟨_, rfl⟩, q1, q2, q3.mono hc hk⟩
/-- from pc, Ls, st over the heap h (so many cells and slots made so far) the walk comes to its end, and Q holds of what it returns and of the heap there; what it wrote lies at or above n0 -/
def Go (wd : Bool) (l : Launch) (R : Room) (Z : State) (y : MethodName) (bytes : ByteArray) (maxL : Nat) (ret : Option FieldType) (n0 K N : Nat) (Q : Option Value → Heap → Prop) (h : Heap) (cells slots pc : Nat) (Ls : Array Slot) (st : List Value) : Prop :=
  ∀ (p : Program) (e : Env) (s0 s : State) (m : MethodId) (args : Array Value) (below : List Frame) (meth : Method) (c : Code) (T : State) (locs : List Loc),
    GoRel wd s0 s h.size → Own Z y bytes maxL ret p s m meth c → Stand p l e R s m args below meth c T locs cells slots → T.heap = h → Fr n0 locs →
    ∃ s₂ o, Steps p.tables e below (T.setTop (mkF m pc Ls st)) s₂ ∧ s₂.status = .running ∧ Ended s₂ below o ∧ ∃ v L, o = .returned v ∧ (Q v s₂.heap ∧ Fr n0 L) ∧ GoEnd wd s0 o s₂ L K N
section GoLaws
variable {wd : Bool} {l : Launch} {R : Room} {Z : State} {y : MethodName} {bytes : ByteArray} {maxL : Nat} {ret : Option FieldType} {n0 K N : Nat} {Q : Option Value → Heap → Prop} {h : Heap} {cells slots pc pc' : Nat} {Ls Ls' : Array Slot} {st st' : List Value} {a0 : Array Value}
theorem Go.of (k : Go wd l R Z y bytes maxL ret n0 K N Q h cells slots pc' Ls' st')
    (q : ∀ (p : Program) (e : Env) (s : State) (m : MethodId) (args : Array Value) (below : List Frame) (meth : Method) (c : Code) (T : State) (locs : List Loc), Own Z y bytes maxL ret p s m meth c → Stand p l e R s m args below meth c T locs cells slots → T.heap = h →
      ∀ target, Steps p.tables e below (T.setTop (mkF m pc' Ls' st')) target → Steps p.tables e below (T.setTop (mkF m pc Ls st)) target) : Go wd l R Z y bytes maxL ret n0 K N Q h cells slots pc Ls st := by
  intro p e s0 s m args below meth c T locs hR O X eT F
  obtain ⟨s₂, o, h1, r⟩ := k p e s0 s m args below meth c T locs hR O X eT F
  exact ⟨s₂, o, q p e s m args below meth c T locs O X eT _ h1, r⟩
theorem Go.weaken {Q' : Option Value → Heap → Prop} (hQ : ∀ v h, Q' v h → Q v h) (k : Go wd l R Z y bytes maxL ret n0 K N Q' h cells slots pc Ls st) : Go wd l R Z y bytes maxL ret n0 K N Q h cells slots pc Ls st := by
  intro p e s0 s m args below meth c T locs hR O X eT F
  obtain ⟨s₂, o, h1, h2, h3, v, L, h4, h5, h6⟩ := k p e s0 s m args below meth c T locs hR O X eT F
  exact ⟨s₂, o, h1, h2, h3, v, L, h4, ⟨hQ _ _ h5.1, h5.2⟩, h6⟩
/-! plain steps -/
theorem Go.iload {k : Nat} {v : Int32} (hd : decode bytes pc = .ok (.iload k, 2)) (hl : Ls[k]? = some (.val (.int v))) (hp : pc + 2 = pc') (q : Go wd l R Z y bytes maxL ret n0 K N Q h cells slots pc' Ls (.int v :: st)) : Go wd l R Z y bytes maxL ret n0 K N Q h cells slots pc Ls st := by
  subst hp; exact Go.of q fun p e s m args below meth c T locs O X eT t hr => XS.iload X.here O.1 rfl (hb O.2.1 hd) hl hr
theorem Go.iloadN {k : Fin 4} {v : Int32} (hd : decode bytes pc = .ok (.iload_n k, 1)) (hl : Ls[k.val]? = some (.val (.int v))) (hp : pc + 1 = pc') (q : Go wd l R Z y bytes maxL ret n0 K N Q h cells slots pc' Ls (.int v :: st)) : Go wd l R Z y bytes maxL ret n0 K N Q h cells slots pc Ls st := by
  subst hp; exact Go.of q fun p e s m args below meth c T locs O X eT t hr => XS.iloadN X.here O.1 rfl (hb O.2.1 hd) hl hr
theorem Go.lload {k : Nat} {v : Int64} (hd : decode bytes pc = .ok (.lload k, 2)) (hl : Ls[k]? = some (.val (.long v))) (hp : pc + 2 = pc') (q : Go wd l R Z y bytes maxL ret n0 K N Q h cells slots pc' Ls (.long v :: st)) : Go wd l R Z y bytes maxL ret n0 K N Q h cells slots pc Ls st := by
  subst hp; exact Go.of q fun p e s m args below meth c T locs O X eT t hr => XS.lload X.here O.1 rfl (hb O.2.1 hd) hl hr
theorem Go.lloadN {k : Fin 4} {v : Int64} (hd : decode bytes pc = .ok (.lload_n k, 1)) (hl : Ls[k.val]? = some (.val (.long v))) (hp : pc + 1 = pc') (q : Go wd l R Z y bytes maxL ret n0 K N Q h cells slots pc' Ls (.long v :: st)) : Go wd l R Z y bytes maxL ret n0 K N Q h cells slots pc Ls st := by
  subst hp; exact Go.of q fun p e s m args below meth c T locs O X eT t hr => XS.lloadN X.here O.1 rfl (hb O.2.1 hd) hl hr
theorem Go.aload {k : Nat} {v : Value} (hd : decode bytes pc = .ok (.aload k, 2)) (hl : Ls[k]? = some (.val v)) (hv : v.isRef = true) (hp : pc + 2 = pc') (q : Go wd l R Z y bytes maxL ret n0 K N Q h cells slots pc' Ls (v :: st)) : Go wd l R Z y bytes maxL ret n0 K N Q h cells slots pc Ls st := by
  subst hp; exact Go.of q fun p e s m args below meth c T locs O X eT t hr => XS.aload X.here O.1 rfl (hb O.2.1 hd) hl hv hr
theorem Go.aloadN {k : Fin 4} {v : Value} (hd : decode bytes pc = .ok (.aload_n k, 1)) (hl : Ls[k.val]? = some (.val v)) (hv : v.isRef = true) (hp : pc + 1 = pc') (q : Go wd l R Z y bytes maxL ret n0 K N Q h cells slots pc' Ls (v :: st)) : Go wd l R Z y bytes maxL ret n0 K N Q h cells slots pc Ls st := by
  subst hp; exact Go.of q fun p e s m args below meth c T locs O X eT t hr => XS.aloadN X.here O.1 rfl (hb O.2.1 hd) hl hv hr
theorem Go.istore {k : Nat} {v : Int32} (hd : decode bytes pc = .ok (.istore k, 2)) (hl : storeLocals Ls k (.int v) = some Ls') (hp : pc + 2 = pc') (q : Go wd l R Z y bytes maxL ret n0 K N Q h cells slots pc' Ls' st) : Go wd l R Z y bytes maxL ret n0 K N Q h cells slots pc Ls (.int v :: st) := by
  subst hp; exact Go.of q fun p e s m args below meth c T locs O X eT t hr => XS.istore X.here O.1 rfl (hb O.2.1 hd) rfl hl hr
theorem Go.istoreN {k : Fin 4} {v : Int32} (hd : decode bytes pc = .ok (.istore_n k, 1)) (hl : storeLocals Ls k.val (.int v) = some Ls') (hp : pc + 1 = pc') (q : Go wd l R Z y bytes maxL ret n0 K N Q h cells slots pc' Ls' st) : Go wd l R Z y bytes maxL ret n0 K N Q h cells slots pc Ls (.int v :: st) := by
  subst hp; exact Go.of q fun p e s m args below meth c T locs O X eT t hr => XS.istoreN X.here O.1 rfl (hb O.2.1 hd) rfl hl hr
theorem Go.lstore {k : Nat} {v : Int64} (hd : decode bytes pc = .ok (.lstore k, 2)) (hl : storeLocals Ls k (.long v) = some Ls') (hp : pc + 2 = pc') (q : Go wd l R Z y bytes maxL ret n0 K N Q h cells slots pc' Ls' st) : Go wd l R Z y bytes maxL ret n0 K N Q h cells slots pc Ls (.long v :: st) := by
  subst hp; exact Go.of q fun p e s m args below meth c T locs O X eT t hr => XS.lstore X.here O.1 rfl (hb O.2.1 hd) rfl hl hr
theorem Go.lstoreN {k : Fin 4} {v : Int64} (hd : decode bytes pc = .ok (.lstore_n k, 1)) (hl : storeLocals Ls k.val (.long v) = some Ls') (hp : pc + 1 = pc') (q : Go wd l R Z y bytes maxL ret n0 K N Q h cells slots pc' Ls' st) : Go wd l R Z y bytes maxL ret n0 K N Q h cells slots pc Ls (.long v :: st) := by
  subst hp; exact Go.of q fun p e s m args below meth c T locs O X eT t hr => XS.lstoreN X.here O.1 rfl (hb O.2.1 hd) rfl hl hr
theorem Go.astore {k : Nat} {v : Value} (hd : decode bytes pc = .ok (.astore k, 2)) (hv : v.isRef = true) (hl : storeLocals Ls k v = some Ls') (hp : pc + 2 = pc') (q : Go wd l R Z y bytes maxL ret n0 K N Q h cells slots pc' Ls' st) : Go wd l R Z y bytes maxL ret n0 K N Q h cells slots pc Ls (v :: st) := by
  subst hp; exact Go.of q fun p e s m args below meth c T locs O X eT t hr => XS.astore X.here O.1 rfl (hb O.2.1 hd) rfl hv hl hr
theorem Go.astoreN {k : Fin 4} {v : Value} (hd : decode bytes pc = .ok (.astore_n k, 1)) (hv : v.isRef = true) (hl : storeLocals Ls k.val v = some Ls') (hp : pc + 1 = pc') (q : Go wd l R Z y bytes maxL ret n0 K N Q h cells slots pc' Ls' st) : Go wd l R Z y bytes maxL ret n0 K N Q h cells slots pc Ls (v :: st) := by
  subst hp; exact Go.of q fun p e s m args below meth c T locs O X eT t hr => XS.astoreN X.here O.1 rfl (hb O.2.1 hd) rfl hv hl hr
theorem Go.iinc {k : Nat} {cst : Int} {v w : Int32} (hd : decode bytes pc = .ok (.iinc k cst, 3)) (hl : Ls[k]? = some (.val (.int v))) (hw : v + Int32.ofInt cst = w) (hl' : storeLocals Ls k (.int w) = some Ls') (hp : pc + 3 = pc') (q : Go wd l R Z y bytes maxL ret n0 K N Q h cells slots pc' Ls' st) : Go wd l R Z y bytes maxL ret n0 K N Q h cells slots pc Ls st := by
  subst hp hw; exact Go.of q fun p e s m args below meth c T locs O X eT t hr => XS.iinc X.here O.1 rfl (hb O.2.1 hd) hl hl' hr
theorem Go.iconst {i : Int} {v : Int32} (hd : decode bytes pc = .ok (.iconst i, 1)) (hv : Int32.ofInt i = v) (hp : pc + 1 = pc') (q : Go wd l R Z y bytes maxL ret n0 K N Q h cells slots pc' Ls (.int v :: st)) : Go wd l R Z y bytes maxL ret n0 K N Q h cells slots pc Ls st := by
  subst hp hv; exact Go.of q fun p e s m args below meth c T locs O X eT t hr => XS.iconst X.here O.1 rfl (hb O.2.1 hd) hr
theorem Go.bipush {i : Int} {v : Int32} (hd : decode bytes pc = .ok (.bipush i, 2)) (hv : (Int8.ofInt i).toInt32 = v) (hp : pc + 2 = pc') (q : Go wd l R Z y bytes maxL ret n0 K N Q h cells slots pc' Ls (.int v :: st)) : Go wd l R Z y bytes maxL ret n0 K N Q h cells slots pc Ls st := by
  subst hp hv; exact Go.of q fun p e s m args below meth c T locs O X eT t hr => XS.bipush X.here O.1 rfl (hb O.2.1 hd) hr
theorem Go.sipush {i : Int} {v : Int32} (hd : decode bytes pc = .ok (.sipush i, 3)) (hv : (Int16.ofInt i).toInt32 = v) (hp : pc + 3 = pc') (q : Go wd l R Z y bytes maxL ret n0 K N Q h cells slots pc' Ls (.int v :: st)) : Go wd l R Z y bytes maxL ret n0 K N Q h cells slots pc Ls st := by
  subst hp hv; exact Go.of q fun p e s m args below meth c T locs O X eT t hr => XS.sipush X.here O.1 rfl (hb O.2.1 hd) hr
theorem Go.lconst {k : Fin 2} {v : Int64} (hd : decode bytes pc = .ok (.lconst k, 1)) (hv : Int64.ofNat k = v) (hp : pc + 1 = pc') (q : Go wd l R Z y bytes maxL ret n0 K N Q h cells slots pc' Ls (.long v :: st)) : Go wd l R Z y bytes maxL ret n0 K N Q h cells slots pc Ls st := by
  subst hp hv; exact Go.of q fun p e s m args below meth c T locs O X eT t hr => XS.lconst X.here O.1 rfl (hb O.2.1 hd) hr
theorem Go.aconstNull (hd : decode bytes pc = .ok (.aconst_null, 1)) (hp : pc + 1 = pc') (q : Go wd l R Z y bytes maxL ret n0 K N Q h cells slots pc' Ls (.null :: st)) : Go wd l R Z y bytes maxL ret n0 K N Q h cells slots pc Ls st := by
  subst hp; exact Go.of q fun p e s m args below meth c T locs O X eT t hr => XS.aconstNull X.here O.1 rfl (hb O.2.1 hd) hr
theorem Go.dup {v : Value} (hd : decode bytes pc = .ok (.dup, 1)) (hv : v.category = 1) (hp : pc + 1 = pc') (q : Go wd l R Z y bytes maxL ret n0 K N Q h cells slots pc' Ls (v :: v :: st)) : Go wd l R Z y bytes maxL ret n0 K N Q h cells slots pc Ls (v :: st) := by
  subst hp; exact Go.of q fun p e s m args below meth c T locs O X eT t hr => XS.dup X.here O.1 rfl (hb O.2.1 hd) rfl hv hr
theorem Go.dupX1 {v w : Value} (hd : decode bytes pc = .ok (.dup_x1, 1)) (hv : v.category = 1) (hw : w.category = 1) (hp : pc + 1 = pc') (q : Go wd l R Z y bytes maxL ret n0 K N Q h cells slots pc' Ls (v :: w :: v :: st)) : Go wd l R Z y bytes maxL ret n0 K N Q h cells slots pc Ls (v :: w :: st) := by
  subst hp; exact Go.of q fun p e s m args below meth c T locs O X eT t hr => XS.dupX1 X.here O.1 rfl (hb O.2.1 hd) rfl hv hw hr
theorem Go.dup2 {v w : Value} (hd : decode bytes pc = .ok (.dup2, 1)) (hv : v.category = 1) (hw : w.category = 1) (hp : pc + 1 = pc') (q : Go wd l R Z y bytes maxL ret n0 K N Q h cells slots pc' Ls (v :: w :: v :: w :: st)) : Go wd l R Z y bytes maxL ret n0 K N Q h cells slots pc Ls (v :: w :: st) := by
  subst hp; exact Go.of q fun p e s m args below meth c T locs O X eT t hr => XT.dup2 X.here O.1 rfl (hb O.2.1 hd) rfl hv hw hr
theorem Go.pop {v : Value} (hd : decode bytes pc = .ok (.pop, 1)) (hv : v.category = 1) (hp : pc + 1 = pc') (q : Go wd l R Z y bytes maxL ret n0 K N Q h cells slots pc' Ls st) : Go wd l R Z y bytes maxL ret n0 K N Q h cells slots pc Ls (v :: st) := by
  subst hp; exact Go.of q fun p e s m args below meth c T locs O X eT t hr => XS.pop X.here O.1 rfl (hb O.2.1 hd) rfl hv hr
theorem Go.goto {o : Int} (hd : decode bytes pc = .ok (.goto o, 3)) (ho : 0 ≤ (pc : Int) + o) (hp : ((pc : Int) + o).toNat = pc') (q : Go wd l R Z y bytes maxL ret n0 K N Q h cells slots pc' Ls st) : Go wd l R Z y bytes maxL ret n0 K N Q h cells slots pc Ls st :=
  Go.of q fun p e s m args below meth c T locs O X eT t hr => XS.goto X.here O.1 rfl (pc0 := pc) rfl (hb O.2.1 hd) ho hp hr
theorem Go.iadd {a : Int32} {b : Int32} (hd : decode bytes pc = .ok (.iadd, 1)) (hp : pc + 1 = pc') (q : Go wd l R Z y bytes maxL ret n0 K N Q h cells slots pc' Ls (.int (a + b) :: st)) : Go wd l R Z y bytes maxL ret n0 K N Q h cells slots pc Ls (.int b :: .int a :: st) := by
  subst hp; exact Go.of q fun p e s m args below meth c T locs O X eT t hr => XS.iadd X.here O.1 rfl (hb O.2.1 hd) rfl hr
theorem Go.isub {a : Int32} {b : Int32} (hd : decode bytes pc = .ok (.isub, 1)) (hp : pc + 1 = pc') (q : Go wd l R Z y bytes maxL ret n0 K N Q h cells slots pc' Ls (.int (a - b) :: st)) : Go wd l R Z y bytes maxL ret n0 K N Q h cells slots pc Ls (.int b :: .int a :: st) := by
  subst hp; exact Go.of q fun p e s m args below meth c T locs O X eT t hr => XS.isub X.here O.1 rfl (hb O.2.1 hd) rfl hr
theorem Go.imul {a : Int32} {b : Int32} (hd : decode bytes pc = .ok (.imul, 1)) (hp : pc + 1 = pc') (q : Go wd l R Z y bytes maxL ret n0 K N Q h cells slots pc' Ls (.int (a * b) :: st)) : Go wd l R Z y bytes maxL ret n0 K N Q h cells slots pc Ls (.int b :: .int a :: st) := by
  subst hp; exact Go.of q fun p e s m args below meth c T locs O X eT t hr => XS.imul X.here O.1 rfl (hb O.2.1 hd) rfl hr
theorem Go.iand {a : Int32} {b : Int32} (hd : decode bytes pc = .ok (.iand, 1)) (hp : pc + 1 = pc') (q : Go wd l R Z y bytes maxL ret n0 K N Q h cells slots pc' Ls (.int (a &&& b) :: st)) : Go wd l R Z y bytes maxL ret n0 K N Q h cells slots pc Ls (.int b :: .int a :: st) := by
  subst hp; exact Go.of q fun p e s m args below meth c T locs O X eT t hr => XS.iand X.here O.1 rfl (hb O.2.1 hd) rfl hr
theorem Go.ior {a : Int32} {b : Int32} (hd : decode bytes pc = .ok (.ior, 1)) (hp : pc + 1 = pc') (q : Go wd l R Z y bytes maxL ret n0 K N Q h cells slots pc' Ls (.int (a ||| b) :: st)) : Go wd l R Z y bytes maxL ret n0 K N Q h cells slots pc Ls (.int b :: .int a :: st) := by
  subst hp; exact Go.of q fun p e s m args below meth c T locs O X eT t hr => XS.ior X.here O.1 rfl (hb O.2.1 hd) rfl hr
theorem Go.ixor {a : Int32} {b : Int32} (hd : decode bytes pc = .ok (.ixor, 1)) (hp : pc + 1 = pc') (q : Go wd l R Z y bytes maxL ret n0 K N Q h cells slots pc' Ls (.int (a ^^^ b) :: st)) : Go wd l R Z y bytes maxL ret n0 K N Q h cells slots pc Ls (.int b :: .int a :: st) := by
  subst hp; exact Go.of q fun p e s m args below meth c T locs O X eT t hr => XS.ixor X.here O.1 rfl (hb O.2.1 hd) rfl hr
theorem Go.ishl {a : Int32} {b : Int32} (hd : decode bytes pc = .ok (.ishl, 1)) (hp : pc + 1 = pc') (q : Go wd l R Z y bytes maxL ret n0 K N Q h cells slots pc' Ls (.int (a <<< (b &&& 31)) :: st)) : Go wd l R Z y bytes maxL ret n0 K N Q h cells slots pc Ls (.int b :: .int a :: st) := by
  subst hp; exact Go.of q fun p e s m args below meth c T locs O X eT t hr => XS.ishl X.here O.1 rfl (hb O.2.1 hd) rfl hr
theorem Go.ishr {a : Int32} {b : Int32} (hd : decode bytes pc = .ok (.ishr, 1)) (hp : pc + 1 = pc') (q : Go wd l R Z y bytes maxL ret n0 K N Q h cells slots pc' Ls (.int (a >>> (b &&& 31)) :: st)) : Go wd l R Z y bytes maxL ret n0 K N Q h cells slots pc Ls (.int b :: .int a :: st) := by
  subst hp; exact Go.of q fun p e s m args below meth c T locs O X eT t hr => XS.ishr X.here O.1 rfl (hb O.2.1 hd) rfl hr
theorem Go.iushr {a : Int32} {b : Int32} (hd : decode bytes pc = .ok (.iushr, 1)) (hp : pc + 1 = pc') (q : Go wd l R Z y bytes maxL ret n0 K N Q h cells slots pc' Ls (.int ((a.toUInt32 >>> (b &&& 31).toUInt32).toInt32) :: st)) : Go wd l R Z y bytes maxL ret n0 K N Q h cells slots pc Ls (.int b :: .int a :: st) := by
  subst hp; exact Go.of q fun p e s m args below meth c T locs O X eT t hr => XS.iushr X.here O.1 rfl (hb O.2.1 hd) rfl hr
theorem Go.idiv {a : Int32} {b : Int32} (hd : decode bytes pc = .ok (.idiv, 1)) (hy : b ≠ 0) (hp : pc + 1 = pc') (q : Go wd l R Z y bytes maxL ret n0 K N Q h cells slots pc' Ls (.int (a / b) :: st)) : Go wd l R Z y bytes maxL ret n0 K N Q h cells slots pc Ls (.int b :: .int a :: st) := by
  subst hp; exact Go.of q fun p e s m args below meth c T locs O X eT t hr => XS.idiv X.here O.1 rfl (hb O.2.1 hd) rfl hy hr
theorem Go.ladd {a : Int64} {b : Int64} (hd : decode bytes pc = .ok (.ladd, 1)) (hp : pc + 1 = pc') (q : Go wd l R Z y bytes maxL ret n0 K N Q h cells slots pc' Ls (.long (a + b) :: st)) : Go wd l R Z y bytes maxL ret n0 K N Q h cells slots pc Ls (.long b :: .long a :: st) := by
  subst hp; exact Go.of q fun p e s m args below meth c T locs O X eT t hr => XS.ladd X.here O.1 rfl (hb O.2.1 hd) rfl hr
theorem Go.lsub {a : Int64} {b : Int64} (hd : decode bytes pc = .ok (.lsub, 1)) (hp : pc + 1 = pc') (q : Go wd l R Z y bytes maxL ret n0 K N Q h cells slots pc' Ls (.long (a - b) :: st)) : Go wd l R Z y bytes maxL ret n0 K N Q h cells slots pc Ls (.long b :: .long a :: st) := by
  subst hp; exact Go.of q fun p e s m args below meth c T locs O X eT t hr => XS.lsub X.here O.1 rfl (hb O.2.1 hd) rfl hr
theorem Go.lmul {a : Int64} {b : Int64} (hd : decode bytes pc = .ok (.lmul, 1)) (hp : pc + 1 = pc') (q : Go wd l R Z y bytes maxL ret n0 K N Q h cells slots pc' Ls (.long (a * b) :: st)) : Go wd l R Z y bytes maxL ret n0 K N Q h cells slots pc Ls (.long b :: .long a :: st) := by
  subst hp; exact Go.of q fun p e s m args below meth c T locs O X eT t hr => XS.lmul X.here O.1 rfl (hb O.2.1 hd) rfl hr
theorem Go.land {a : Int64} {b : Int64} (hd : decode bytes pc = .ok (.land, 1)) (hp : pc + 1 = pc') (q : Go wd l R Z y bytes maxL ret n0 K N Q h cells slots pc' Ls (.long (a &&& b) :: st)) : Go wd l R Z y bytes maxL ret n0 K N Q h cells slots pc Ls (.long b :: .long a :: st) := by
  subst hp; exact Go.of q fun p e s m args below meth c T locs O X eT t hr => XS.land X.here O.1 rfl (hb O.2.1 hd) rfl hr
theorem Go.lor {a : Int64} {b : Int64} (hd : decode bytes pc = .ok (.lor, 1)) (hp : pc + 1 = pc') (q : Go wd l R Z y bytes maxL ret n0 K N Q h cells slots pc' Ls (.long (a ||| b) :: st)) : Go wd l R Z y bytes maxL ret n0 K N Q h cells slots pc Ls (.long b :: .long a :: st) := by
  subst hp; exact Go.of q fun p e s m args below meth c T locs O X eT t hr => XS.lor X.here O.1 rfl (hb O.2.1 hd) rfl hr
theorem Go.lxor {a : Int64} {b : Int64} (hd : decode bytes pc = .ok (.lxor, 1)) (hp : pc + 1 = pc') (q : Go wd l R Z y bytes maxL ret n0 K N Q h cells slots pc' Ls (.long (a ^^^ b) :: st)) : Go wd l R Z y bytes maxL ret n0 K N Q h cells slots pc Ls (.long b :: .long a :: st) := by
  subst hp; exact Go.of q fun p e s m args below meth c T locs O X eT t hr => XS.lxor X.here O.1 rfl (hb O.2.1 hd) rfl hr
theorem Go.lshl {a : Int64} {b : Int32} (hd : decode bytes pc = .ok (.lshl, 1)) (hp : pc + 1 = pc') (q : Go wd l R Z y bytes maxL ret n0 K N Q h cells slots pc' Ls (.long (a <<< (b &&& 0x3f).toInt64) :: st)) : Go wd l R Z y bytes maxL ret n0 K N Q h cells slots pc Ls (.int b :: .long a :: st) := by
  subst hp; exact Go.of q fun p e s m args below meth c T locs O X eT t hr => XS.lshl X.here O.1 rfl (hb O.2.1 hd) rfl hr
theorem Go.lshr {a : Int64} {b : Int32} (hd : decode bytes pc = .ok (.lshr, 1)) (hp : pc + 1 = pc') (q : Go wd l R Z y bytes maxL ret n0 K N Q h cells slots pc' Ls (.long (a >>> (b &&& 0x3f).toInt64) :: st)) : Go wd l R Z y bytes maxL ret n0 K N Q h cells slots pc Ls (.int b :: .long a :: st) := by
  subst hp; exact Go.of q fun p e s m args below meth c T locs O X eT t hr => XS.lshr X.here O.1 rfl (hb O.2.1 hd) rfl hr
theorem Go.lushr {a : Int64} {b : Int32} (hd : decode bytes pc = .ok (.lushr, 1)) (hp : pc + 1 = pc') (q : Go wd l R Z y bytes maxL ret n0 K N Q h cells slots pc' Ls (.long ((a.toUInt64 >>> (b &&& 0x3f).toInt64.toUInt64).toInt64) :: st)) : Go wd l R Z y bytes maxL ret n0 K N Q h cells slots pc Ls (.int b :: .long a :: st) := by
  subst hp; exact Go.of q fun p e s m args below meth c T locs O X eT t hr => XS.lushr X.here O.1 rfl (hb O.2.1 hd) rfl hr
theorem Go.ldiv {a : Int64} {b : Int64} (hd : decode bytes pc = .ok (.ldiv, 1)) (hy : b ≠ 0) (hp : pc + 1 = pc') (q : Go wd l R Z y bytes maxL ret n0 K N Q h cells slots pc' Ls (.long (a / b) :: st)) : Go wd l R Z y bytes maxL ret n0 K N Q h cells slots pc Ls (.long b :: .long a :: st) := by
  subst hp; exact Go.of q fun p e s m args below meth c T locs O X eT t hr => XS.ldiv X.here O.1 rfl (hb O.2.1 hd) rfl hy hr
theorem Go.i2b {a : Int32} (hd : decode bytes pc = .ok (.i2b, 1)) (hp : pc + 1 = pc') (q : Go wd l R Z y bytes maxL ret n0 K N Q h cells slots pc' Ls (.int (a.toInt8.toInt32) :: st)) : Go wd l R Z y bytes maxL ret n0 K N Q h cells slots pc Ls (.int a :: st) := by
  subst hp; exact Go.of q fun p e s m args below meth c T locs O X eT t hr => XS.i2b X.here O.1 rfl (hb O.2.1 hd) rfl hr
theorem Go.i2c {a : Int32} (hd : decode bytes pc = .ok (.i2c, 1)) (hp : pc + 1 = pc') (q : Go wd l R Z y bytes maxL ret n0 K N Q h cells slots pc' Ls (.int (a.toUInt32.toUInt16.toUInt32.toInt32) :: st)) : Go wd l R Z y bytes maxL ret n0 K N Q h cells slots pc Ls (.int a :: st) := by
  subst hp; exact Go.of q fun p e s m args below meth c T locs O X eT t hr => XS.i2c X.here O.1 rfl (hb O.2.1 hd) rfl hr
theorem Go.i2s {a : Int32} (hd : decode bytes pc = .ok (.i2s, 1)) (hp : pc + 1 = pc') (q : Go wd l R Z y bytes maxL ret n0 K N Q h cells slots pc' Ls (.int (a.toInt16.toInt32) :: st)) : Go wd l R Z y bytes maxL ret n0 K N Q h cells slots pc Ls (.int a :: st) := by
  subst hp; exact Go.of q fun p e s m args below meth c T locs O X eT t hr => XS.i2s X.here O.1 rfl (hb O.2.1 hd) rfl hr
theorem Go.i2l {a : Int32} (hd : decode bytes pc = .ok (.i2l, 1)) (hp : pc + 1 = pc') (q : Go wd l R Z y bytes maxL ret n0 K N Q h cells slots pc' Ls (.long (a.toInt64) :: st)) : Go wd l R Z y bytes maxL ret n0 K N Q h cells slots pc Ls (.int a :: st) := by
  subst hp; exact Go.of q fun p e s m args below meth c T locs O X eT t hr => XS.i2l X.here O.1 rfl (hb O.2.1 hd) rfl hr
theorem Go.l2i {a : Int64} (hd : decode bytes pc = .ok (.l2i, 1)) (hp : pc + 1 = pc') (q : Go wd l R Z y bytes maxL ret n0 K N Q h cells slots pc' Ls (.int (a.toInt32) :: st)) : Go wd l R Z y bytes maxL ret n0 K N Q h cells slots pc Ls (.long a :: st) := by
  subst hp; exact Go.of q fun p e s m args below meth c T locs O X eT t hr => XS.l2i X.here O.1 rfl (hb O.2.1 hd) rfl hr
theorem Go.lneg {a : Int64} (hd : decode bytes pc = .ok (.lneg, 1)) (hp : pc + 1 = pc') (q : Go wd l R Z y bytes maxL ret n0 K N Q h cells slots pc' Ls (.long (-a) :: st)) : Go wd l R Z y bytes maxL ret n0 K N Q h cells slots pc Ls (.long a :: st) := by
  subst hp; exact Go.of q fun p e s m args below meth c T locs O X eT t hr => XS.lneg X.here O.1 rfl (hb O.2.1 hd) rfl hr
theorem Go.ineg {a : Int32} (hd : decode bytes pc = .ok (.ineg, 1)) (hp : pc + 1 = pc') (q : Go wd l R Z y bytes maxL ret n0 K N Q h cells slots pc' Ls (.int (-a) :: st)) : Go wd l R Z y bytes maxL ret n0 K N Q h cells slots pc Ls (.int a :: st) := by
  subst hp; exact Go.of q fun p e s m args below meth c T locs O X eT t hr => XS.ineg X.here O.1 rfl (hb O.2.1 hd) rfl hr
theorem Go.irem {a b : Int32} (hd : decode bytes pc = .ok (.irem, 1)) (hy : b ≠ 0) (hp : pc + 1 = pc') (q : Go wd l R Z y bytes maxL ret n0 K N Q h cells slots pc' Ls (.int (a % b) :: st)) : Go wd l R Z y bytes maxL ret n0 K N Q h cells slots pc Ls (.int b :: .int a :: st) := by
  subst hp; exact Go.of q fun p e s m args below meth c T locs O X eT t hr => iremM X O.1 rfl (hb O.2.1 hd) rfl hy hr
theorem Go.lrem {a b : Int64} (hd : decode bytes pc = .ok (.lrem, 1)) (hy : b ≠ 0) (hp : pc + 1 = pc') (q : Go wd l R Z y bytes maxL ret n0 K N Q h cells slots pc' Ls (.long (a % b) :: st)) : Go wd l R Z y bytes maxL ret n0 K N Q h cells slots pc Ls (.long b :: .long a :: st) := by
  subst hp; rw [← lrem_mod] at q; exact Go.of q fun p e s m args below meth c T locs O X eT t hr => XS.lrem X.here O.1 rfl (hb O.2.1 hd) rfl hy hr
theorem c_lremM (x y : Int64) (d : Int) (hy : y.toInt = d) : (0 ≤ x.toInt → (x % y).toInt = x.toInt % d) ∧ (x.toInt < 0 → (x % y).toInt = -((-x.toInt) % d)) := by rw [Int64.toInt_mod, hy]; exact tr _ _
/-! branches -/
def jc : ClassFile.Cond → Int32 → Int32 → Prop
  | .eq, x, y => x.toInt = y.toInt
  | .ne, x, y => x.toInt ≠ y.toInt
  | .lt, x, y => x.toInt < y.toInt
  | .ge, x, y => y.toInt ≤ x.toInt
  | .gt, x, y => y.toInt < x.toInt
  | .le, x, y => x.toInt ≤ y.toInt
def jn : ClassFile.Cond → Int32 → Int32 → Prop
  | .eq, x, y => x.toInt ≠ y.toInt
  | .ne, x, y => x.toInt = y.toInt
  | .lt, x, y => y.toInt ≤ x.toInt
  | .ge, x, y => x.toInt < y.toInt
  | .gt, x, y => x.toInt ≤ y.toInt
  | .le, x, y => y.toInt < x.toInt
def zc : ClassFile.Cond → Int32 → Prop
  | .eq, x => x.toInt = 0
  | .ne, x => x.toInt ≠ 0
  | .lt, x => x.toInt < 0
  | .ge, x => 0 ≤ x.toInt
  | .gt, x => 0 < x.toInt
  | .le, x => x.toInt ≤ 0
def zn : ClassFile.Cond → Int32 → Prop
  | .eq, x => x.toInt ≠ 0
  | .ne, x => x.toInt = 0
  | .lt, x => 0 ≤ x.toInt
  | .ge, x => x.toInt < 0
  | .gt, x => x.toInt ≤ 0
  | .le, x => 0 < x.toInt
def wc : ClassFile.Cond → Int64 → Int64 → Prop
  | .eq, x, y => x.toInt = y.toInt
  | .ne, x, y => x.toInt ≠ y.toInt
  | .lt, x, y => x.toInt < y.toInt
  | .ge, x, y => y.toInt ≤ x.toInt
  | .gt, x, y => y.toInt < x.toInt
  | .le, x, y => x.toInt ≤ y.toInt
def wn : ClassFile.Cond → Int64 → Int64 → Prop
  | .eq, x, y => x.toInt ≠ y.toInt
  | .ne, x, y => x.toInt = y.toInt
  | .lt, x, y => y.toInt ≤ x.toInt
  | .ge, x, y => x.toInt < y.toInt
  | .gt, x, y => x.toInt ≤ y.toInt
  | .le, x, y => y.toInt < x.toInt
theorem jc_or (cd : ClassFile.Cond) (x y : Int32) : (if_icmp.holds cd x y = true ∧ jc cd x y) ∨ (if_icmp.holds cd x y = false ∧ jn cd x y) := by
  have i : x = y ↔ x.toInt = y.toInt := Int32.toInt_inj.symm
  cases cd <;> simp only [if_icmp.holds, jc, jn, beq_iff_eq, bne_iff_ne, beq_eq_false_iff_ne, bne_eq_false_iff_eq, decide_eq_true_eq, decide_eq_false_iff_not, Int32.lt_iff_toInt_lt, Int32.le_iff_toInt_le, ge_iff_le, gt_iff_lt, ne_eq, i] <;> omega
theorem zc_or (cd : ClassFile.Cond) (x : Int32) : (ifCond.holds cd x = true ∧ zc cd x) ∨ (ifCond.holds cd x = false ∧ zn cd x) := by
  have z : (0 : Int32).toInt = 0 := rfl
  rcases jc_or cd x 0 with ⟨q, r⟩ | ⟨q, r⟩
  · left; rw [if0]; refine ⟨q, ?_⟩; cases cd <;> simp only [jc, zc, z] at r ⊢ <;> exact r
  · right; rw [if0]; refine ⟨q, ?_⟩; cases cd <;> simp only [jn, zn, z] at r ⊢ <;> exact r
theorem wc_or (cd : ClassFile.Cond) (x y : Int64) : (ifCond.holds cd (lcmpW x y) = true ∧ wc cd x y) ∨ (ifCond.holds cd (lcmpW x y) = false ∧ wn cd x y) := by
  have e := c_lcmp x y
  rcases zc_or cd (lcmpW x y) with ⟨q, r⟩ | ⟨q, r⟩
  · left; refine ⟨q, ?_⟩; cases cd <;> simp only [zc, wc, ne_eq] at r ⊢ <;> omega
  · right; refine ⟨q, ?_⟩; cases cd <;> simp only [zn, wn, ne_eq] at r ⊢ <;> omega
theorem Go.icmp {cd : ClassFile.Cond} {o : Int} {x z : Int32} {pc1 pc2 : Nat} (hd : decode bytes pc = .ok (.if_icmp cd o, 3)) (ho : 0 ≤ (pc : Int) + o) (hp : ((pc : Int) + o).toNat = pc1) (hp2 : pc + 3 = pc2)
    (q1 : jc cd x z → Go wd l R Z y bytes maxL ret n0 K N Q h cells slots pc1 Ls st) (q2 : jn cd x z → Go wd l R Z y bytes maxL ret n0 K N Q h cells slots pc2 Ls st) : Go wd l R Z y bytes maxL ret n0 K N Q h cells slots pc Ls (.int z :: .int x :: st) := by
  rcases jc_or cd x z with ⟨hc, r⟩ | ⟨hc, r⟩
  · exact Go.of (q1 r) fun p e s m args below meth c T locs O X eT t hr => XS.icmpYes X.here O.1 rfl (pc0 := pc) rfl (hb O.2.1 hd) rfl hc ho hp hr
  · subst hp2; exact Go.of (q2 r) fun p e s m args below meth c T locs O X eT t hr => XS.icmpNo X.here O.1 rfl (hb O.2.1 hd) rfl hc hr
theorem Go.ifc {cd : ClassFile.Cond} {o : Int} {x : Int32} {pc1 pc2 : Nat} (hd : decode bytes pc = .ok (.ifCond cd o, 3)) (ho : 0 ≤ (pc : Int) + o) (hp : ((pc : Int) + o).toNat = pc1) (hp2 : pc + 3 = pc2)
    (q1 : zc cd x → Go wd l R Z y bytes maxL ret n0 K N Q h cells slots pc1 Ls st) (q2 : zn cd x → Go wd l R Z y bytes maxL ret n0 K N Q h cells slots pc2 Ls st) : Go wd l R Z y bytes maxL ret n0 K N Q h cells slots pc Ls (.int x :: st) := by
  rcases zc_or cd x with ⟨hc, r⟩ | ⟨hc, r⟩
  · exact Go.of (q1 r) fun p e s m args below meth c T locs O X eT t hr => XS.ifYes X.here O.1 rfl (pc0 := pc) rfl (hb O.2.1 hd) rfl hc ho hp hr
  · subst hp2; exact Go.of (q2 r) fun p e s m args below meth c T locs O X eT t hr => XS.ifNo X.here O.1 rfl (hb O.2.1 hd) rfl hc hr
theorem Go.lcmp {a b : Int64} (hd : decode bytes pc = .ok (.lcmp, 1)) (hp : pc + 1 = pc') (q : Go wd l R Z y bytes maxL ret n0 K N Q h cells slots pc' Ls (.int (lcmpW a b) :: st)) : Go wd l R Z y bytes maxL ret n0 K N Q h cells slots pc Ls (.long b :: .long a :: st) := by
  subst hp; exact Go.of q fun p e s m args below meth c T locs O X eT t hr => XS.lcmp X.here O.1 rfl (hb O.2.1 hd) rfl hr
theorem Go.ifw {cd : ClassFile.Cond} {o : Int} {a b : Int64} {pc1 pc2 : Nat} (hd : decode bytes pc = .ok (.ifCond cd o, 3)) (ho : 0 ≤ (pc : Int) + o) (hp : ((pc : Int) + o).toNat = pc1) (hp2 : pc + 3 = pc2)
    (q1 : wc cd a b → Go wd l R Z y bytes maxL ret n0 K N Q h cells slots pc1 Ls st) (q2 : wn cd a b → Go wd l R Z y bytes maxL ret n0 K N Q h cells slots pc2 Ls st) : Go wd l R Z y bytes maxL ret n0 K N Q h cells slots pc Ls (.int (lcmpW a b) :: st) := by
  rcases wc_or cd a b with ⟨hc, r⟩ | ⟨hc, r⟩
  · exact Go.of (q1 r) fun p e s m args below meth c T locs O X eT t hr => XS.ifYes X.here O.1 rfl (pc0 := pc) rfl (hb O.2.1 hd) rfl hc ho hp hr
  · subst hp2; exact Go.of (q2 r) fun p e s m args below meth c T locs O X eT t hr => XS.ifNo X.here O.1 rfl (hb O.2.1 hd) rfl hc hr
theorem Go.nonnullYes {o : Int} {a : Addr} (hd : decode bytes pc = .ok (.ifnonnull o, 3)) (ho : 0 ≤ (pc : Int) + o) (hp : ((pc : Int) + o).toNat = pc') (q : Go wd l R Z y bytes maxL ret n0 K N Q h cells slots pc' Ls st) : Go wd l R Z y bytes maxL ret n0 K N Q h cells slots pc Ls (.ref a :: st) :=
  Go.of q fun p e s m args below meth c T locs O X eT t hr => XS.ifnonnullYes X.here O.1 rfl (pc0 := pc) rfl (hb O.2.1 hd) rfl ho hp hr
theorem Go.nonnullNo {o : Int} (hd : decode bytes pc = .ok (.ifnonnull o, 3)) (hp : pc + 3 = pc') (q : Go wd l R Z y bytes maxL ret n0 K N Q h cells slots pc' Ls st) : Go wd l R Z y bytes maxL ret n0 K N Q h cells slots pc Ls (.null :: st) := by
  subst hp; exact Go.of q fun p e s m args below meth c T locs O X eT t hr => XS.ifnonnullNo X.here O.1 rfl (hb O.2.1 hd) rfl hr
theorem Go.nullYes {o : Int} (hd : decode bytes pc = .ok (.ifnull o, 3)) (ho : 0 ≤ (pc : Int) + o) (hp : ((pc : Int) + o).toNat = pc') (q : Go wd l R Z y bytes maxL ret n0 K N Q h cells slots pc' Ls st) : Go wd l R Z y bytes maxL ret n0 K N Q h cells slots pc Ls (.null :: st) :=
  Go.of q fun p e s m args below meth c T locs O X eT t hr => XS.ifnullYes X.here O.1 rfl (pc0 := pc) rfl (hb O.2.1 hd) rfl ho hp hr
theorem Go.nullNo {o : Int} {a : Addr} (hd : decode bytes pc = .ok (.ifnull o, 3)) (hp : pc + 3 = pc') (q : Go wd l R Z y bytes maxL ret n0 K N Q h cells slots pc' Ls st) : Go wd l R Z y bytes maxL ret n0 K N Q h cells slots pc Ls (.ref a :: st) := by
  subst hp; exact Go.of q fun p e s m args below meth c T locs O X eT t hr => XS.ifnullNo X.here O.1 rfl (hb O.2.1 hd) rfl hr
/-- if_acmp: q1 where they are the same, q2 where they aren't -/
theorem Go.acmp {cd : ACond} {o : Int} {u w : Value} {pc1 pc2 : Nat} (hd : decode bytes pc = .ok (.if_acmp cd o, 3)) (hu : u.isRef = true) (hw : w.isRef = true) (ho : 0 ≤ (pc : Int) + o) (hp : (if acV cd true = true then ((pc : Int) + o).toNat else pc + 3) = pc1) (hp2 : (if acV cd false = true then ((pc : Int) + o).toNat else pc + 3) = pc2)
    (q1 : u = w → Go wd l R Z y bytes maxL ret n0 K N Q h cells slots pc1 Ls st) (q2 : u ≠ w → Go wd l R Z y bytes maxL ret n0 K N Q h cells slots pc2 Ls st) : Go wd l R Z y bytes maxL ret n0 K N Q h cells slots pc Ls (w :: u :: st) := by
  by_cases r : u = w
  · exact Go.of (q1 r) fun p e s m args below meth c T locs O X eT t hr => RoadKit.acmp X O.1 rfl hu hw (pc0 := pc) (same := true) rfl (hb O.2.1 hd) rfl (decide_eq_true r) ho hp.symm hr
  · exact Go.of (q2 r) fun p e s m args below meth c T locs O X eT t hr => RoadKit.acmp X O.1 rfl hu hw (pc0 := pc) (same := false) rfl (hb O.2.1 hd) rfl (decide_eq_false r) ho hp2.symm hr
/-! constants of the pool -/
theorem Go.ldcI {i : Nat} {v : Int32} (w : (Cond.constant y.cls i v).before a0 Z = true) (hd : decode bytes pc = .ok (.ldc i, 2)) (hp : pc + 2 = pc') (q : Go wd l R Z y bytes maxL ret n0 K N Q h cells slots pc' Ls (.int v :: st)) : Go wd l R Z y bytes maxL ret n0 K N Q h cells slots pc Ls st := by
  subst hp; exact Go.of q fun p e s m args below meth c T locs O X eT t hr => X.ldcInt O.1 O.2.2.2.1 (mvT O.2.2.2.2.2.1 w) (g := mkF m pc Ls st) rfl (hb O.2.1 hd) t hr
theorem Go.ldcW {i : Nat} {v : Int32} (w : (Cond.constant y.cls i v).before a0 Z = true) (hd : decode bytes pc = .ok (.ldc_w i, 3)) (hp : pc + 3 = pc') (q : Go wd l R Z y bytes maxL ret n0 K N Q h cells slots pc' Ls (.int v :: st)) : Go wd l R Z y bytes maxL ret n0 K N Q h cells slots pc Ls st := by
  subst hp; exact Go.of q fun p e s m args below meth c T locs O X eT t hr => X.ldcwInt O.1 O.2.2.2.1 (mvT O.2.2.2.2.2.1 w) (g := mkF m pc Ls st) rfl (hb O.2.1 hd) t hr
theorem Go.ldcL {i : Nat} {v : Int64} (w : (Cond.constantLong y.cls i v).before a0 Z = true) (hd : decode bytes pc = .ok (.ldc2_w i, 3)) (hp : pc + 3 = pc') (q : Go wd l R Z y bytes maxL ret n0 K N Q h cells slots pc' Ls (.long v :: st)) : Go wd l R Z y bytes maxL ret n0 K N Q h cells slots pc Ls st := by
  subst hp; exact Go.of q fun p e s m args below meth c T locs O X eT t hr => X.ldc2Long O.1 O.2.2.2.1 (mvT O.2.2.2.2.2.1 w) (g := mkF m pc Ls st) rfl (hb O.2.1 hd) t hr
/-! the ends -/
theorem Go.leave {v : Option Value} (hv : ret = none → v = none) (hQ : Q v h) (hk : cells ≤ K) (hn : slots ≤ N)
    (q : ∀ (p : Program) (e : Env) (s : State) (m : MethodId) (args : Array Value) (below : List Frame) (meth : Method) (c : Code) (T : State) (locs : List Loc) (fs : List Frame), Own Z y bytes maxL ret p s m meth c → Stand p l e R s m args below meth c T locs cells slots →
      (∀ (f : JFrame) (acts : List Action), f.method = m → f.locked = none → f.entered = [] → (doReturn e (T.setTop f) acts v).1 = T.setFrames fs) → Steps p.tables e below (T.setTop (mkF m pc Ls st)) (T.setFrames fs)) : Go wd l R Z y bytes maxL ret n0 K N Q h cells slots pc Ls st := by
  intro p e s0 s m args below meth c T locs hR O X eT F
  obtain ⟨fs, hr, hrun, hended, hW, hsame⟩ := X.leave (v := v) (fun r => hv (by rw [← O.2.2.2.2.2.2.1]; exact r)) O.2.2.2.2.2.2.2
  have hE : GoEnd wd s0 (.returned v) (T.setFrames fs) locs K N := GoRel.ended (U := T.setFrames fs) (by show GoRel wd s0 s T.heap.size; rw [eT]; exact hR) hW hsame hk hn
  refine ⟨_, _, q p e s m args below meth c T locs fs O X hr, hrun, hended, v, locs, rfl, ⟨?_, F⟩, hE⟩
  show Q v T.heap
  rw [eT]; exact hQ
theorem Go.ret0 (hd : decode bytes pc = .ok (.return_, 1)) (hr : ret = none) (hQ : Q none h) (hk : cells ≤ K) (hn : slots ≤ N) : Go wd l R Z y bytes maxL ret n0 K N Q h cells slots pc Ls [] :=
  Go.leave (v := none) (fun _ => rfl) hQ hk hn fun p e s m args below meth c T locs fs O X hl => X.returnOut O.1 (O.2.2.2.2.2.2.1.trans hr) (hb O.2.1 hd) hl
theorem Go.retI {v : Int32} (hd : decode bytes pc = .ok (.ireturn, 1)) (hr : ret = some .int) (hQ : Q (some (.int v)) h) (hk : cells ≤ K) (hn : slots ≤ N) : Go wd l R Z y bytes maxL ret n0 K N Q h cells slots pc Ls (.int v :: st) :=
  Go.leave (v := some (.int v)) (fun r => by rw [hr] at r; cases r) hQ hk hn fun p e s m args below meth c T locs fs O X hl => retOut X O.1 (O.2.2.2.2.2.2.1.trans hr) rfl (Or.inl ⟨rfl, Or.inl rfl, _, rfl⟩) (hb O.2.1 hd) hl
theorem Go.retN {v : Int32} {t : FieldType} (hd : decode bytes pc = .ok (.ireturn, 1)) (hr : ret = some t) (ht : t = .boolean ∨ t = .byte ∨ t = .char ∨ t = .short) (hv : nar t v = v) (hQ : Q (some (.int v)) h) (hk : cells ≤ K) (hn : slots ≤ N) : Go wd l R Z y bytes maxL ret n0 K N Q h cells slots pc Ls (.int v :: st) :=
  Go.leave (v := some (.int v)) (fun r => by rw [hr] at r; cases r) hQ hk hn fun p e s m args below meth c T locs fs O X hl => RoadKit.retN X O.1 (O.2.2.2.2.2.2.1.trans hr) ht (hb O.2.1 hd) (by rw [hv]; exact hl)
theorem Go.retL {v : Int64} (hd : decode bytes pc = .ok (.lreturn, 1)) (hr : ret = some .long) (hQ : Q (some (.long v)) h) (hk : cells ≤ K) (hn : slots ≤ N) : Go wd l R Z y bytes maxL ret n0 K N Q h cells slots pc Ls (.long v :: st) :=
  Go.leave (v := some (.long v)) (fun r => by rw [hr] at r; cases r) hQ hk hn fun p e s m args below meth c T locs fs O X hl => retOut X O.1 (O.2.2.2.2.2.2.1.trans hr) rfl (Or.inr (Or.inl ⟨rfl, rfl, _, rfl⟩)) (hb O.2.1 hd) hl
theorem Go.retA {v : Value} {t : FieldType} (hd : decode bytes pc = .ok (.areturn, 1)) (hr : ret = some t) (ht : t.isReference = true) (hv : v.isRef = true) (hQ : Q (some v) h) (hk : cells ≤ K) (hn : slots ≤ N) : Go wd l R Z y bytes maxL ret n0 K N Q h cells slots pc Ls (v :: st) :=
  Go.leave (v := some v) (fun r => by rw [hr] at r; cases r) hQ hk hn fun p e s m args below meth c T locs fs O X hl => retOut X O.1 (O.2.2.2.2.2.2.1.trans hr) (by cases t <;> first | rfl | (cases ht; done)) (Or.inr (Or.inr (Or.inr (Or.inr ⟨rfl, ht, hv⟩)))) (hb O.2.1 hd) hl
/-! the heap -/
theorem Go.newO {C : String} {i n : Nat} (w1 : (Cond.classLink y.cls i C).before a0 Z = true) (w2 : (Cond.instantiable C n).before a0 Z = true) (w3 : (Cond.initialized C).before a0 Z = true) (hd : decode bytes pc = .ok (.new i, 3)) (hc : cells + 1 ≤ R.cells) (hs : slots + n ≤ R.slots) (hp : pc + 3 = pc')
    (q : ∀ (h' : Heap) (a : Addr), a = h.size → Ext h h' → Exa Z h' a C → (∀ {O nm d : String} {ty : FieldType}, Laid Z a0 C O nm d → parseFieldDescriptor d = some ty → Fld Z h' a O nm d (defaultValue ty)) → Go wd l R Z y bytes maxL ret n0 K N Q h' (cells + 1) (slots + n) pc' Ls (.ref a :: st)) : Go wd l R Z y bytes maxL ret n0 K N Q h cells slots pc Ls st := by
  subst hp
  intro p e s0 s m args below meth c T locs hR O X eT F
  obtain ⟨T2, h2, X2, e2, E2, A2, D2, -, st2⟩ := RoadKit.newO X O.1 O.2.2.2.2.2.1 O.2.2.2.1 w1 w2 w3 eT (g := mkF m pc Ls st) rfl (hb O.2.1 hd) hc hs
  obtain ⟨s₂, o, h1, r⟩ := q h2 _ rfl E2 A2 D2 p e s0 s m args below meth c T2 locs (hR.mono E2.1) O X2 e2 F
  exact ⟨s₂, o, st2 _ h1, r⟩
theorem Go.initO {i W : Nat} {a : Addr} (w1 : (Cond.methodLink y.cls i Lib.objectInit).before a0 Z = true) (w2 : (Cond.instanceMethod Lib.objectInit).before a0 Z = true) (w3 : (Cond.code Lib.objectInit ⟨#[0xb1]⟩ 1 none).before a0 Z = true) (hd : decode bytes pc = .ok (.invokespecial i, 3)) (hz : Ls.size = maxL)
    (hf : 1 ≤ R.frames) (hW : (st.map fun v => v.category).sum ≤ W) (hl : W + 12 ≤ R.locals) (hp : pc + 3 = pc') (q : Go wd l R Z y bytes maxL ret n0 K N Q h cells slots pc' Ls st) : Go wd l R Z y bytes maxL ret n0 K N Q h cells slots pc Ls (.ref a :: st) := by
  subst hp
  intro p e s0 s m args below meth c T locs hR O X eT F
  obtain ⟨T2, X2, e2, st2⟩ := RoadKit.initO X O.1 O.2.2.2.2.2.1 O.2.2.2.1 w1 w2 w3 eT (g := mkF m pc Ls (.ref a :: st)) rfl (hz.trans O.2.2.1.symm) rfl (hb O.2.1 hd) hf (W := W) (by show 2 * 0 + _ ≤ _; omega) hl
  obtain ⟨s₂, o, h1, r⟩ := q p e s0 s m args below meth c T2 locs hR O X2 e2 F
  exact ⟨s₂, o, st2 _ h1, r⟩
theorem Go.getF {C n d : String} {i : Nat} {a : Addr} {v : Value} (w : (Cond.fieldLink y.cls i C n d).before a0 Z = true) (hF : Fld Z h a C n d v) (hd : decode bytes pc = .ok (.getfield i, 3)) (hp : pc + 3 = pc') (q : Go wd l R Z y bytes maxL ret n0 K N Q h cells slots pc' Ls (v :: st)) : Go wd l R Z y bytes maxL ret n0 K N Q h cells slots pc Ls (.ref a :: st) := by
  subst hp
  intro p e s0 s m args below meth c T locs hR O X eT F
  obtain ⟨T2, X2, e2, st2⟩ := RoadKit.getF X O.1 O.2.2.2.2.2.1 O.2.2.2.1 (host := "") (Or.inl w) Via.refl eT hF (g := mkF m pc Ls (.ref a :: st)) rfl rfl (hb O.2.1 hd)
  obtain ⟨s₂, o, h1, r⟩ := q p e s0 s m args below meth c T2 locs hR O X2 e2 F
  exact ⟨s₂, o, st2 _ h1, r⟩
theorem Go.getS {C n d : String} {i : Nat} {v : Value} (w : (Cond.fieldLink y.cls i C n d).before a0 Z = true) (hF : Sta Z h C n d v) (hd : decode bytes pc = .ok (.getstatic i, 3)) (hp : pc + 3 = pc') (q : Go wd l R Z y bytes maxL ret n0 K N Q h cells slots pc' Ls (v :: st)) : Go wd l R Z y bytes maxL ret n0 K N Q h cells slots pc Ls st := by
  subst hp
  intro p e s0 s m args below meth c T locs hR O X eT F
  obtain ⟨T2, X2, e2, st2⟩ := RoadKit.getS2 X O.1 O.2.2.2.2.2.1 O.2.2.2.1 (host := "") (Or.inl w) Via.refl eT hF (g := mkF m pc Ls st) rfl (hb O.2.1 hd)
  obtain ⟨s₂, o, h1, r⟩ := q p e s0 s m args below meth c T2 locs hR O X2 e2 F
  exact ⟨s₂, o, st2 _ h1, r⟩
theorem Go.putF {C n d : String} {i kk : Nat} {ty : FieldType} {a : Addr} {v old : Value} (w : (Cond.fieldLink y.cls i C n d).before a0 Z = true) (hF : Fld Z h a C n d old) (hE : Exa Z h a C) (hL : (Cond.lays C C n d).before a0 Z = true ∨ ((Cond.laysFinal C C n d).before a0 Z = true ∧ y.cls = C ∧ y.name = "<init>")) (wi : (Cond.instantiable C kk).before a0 Z = true)
    (hty : parseFieldDescriptor d = some ty) (hn : narrow ty v = v) (hf : fits ty v = true) (hd : decode bytes pc = .ok (.putfield i, 3)) (ha : n0 ≤ a) (hp : pc + 3 = pc') (q : ∀ h', Wr h h' a (slotOf Z C n d) v → Go wd l R Z y bytes maxL ret n0 K N Q h' cells slots pc' Ls st) : Go wd l R Z y bytes maxL ret n0 K N Q h cells slots pc Ls (v :: .ref a :: st) := by
  subst hp
  intro p e s0 s m args below meth c T locs hR O X eT F
  obtain ⟨T2, h2, X2, e2, W2, st2⟩ := RoadKit.putF X O.1 O.2.2.2.2.2.1 O.2.2.2.1 (host := "") (Or.inl w) Via.refl eT hF hE (hL.imp_right fun r => ⟨r.1, r.2.1, O.2.2.2.2.1.trans r.2.2⟩) wi hty hn hf (g := mkF m pc Ls (v :: .ref a :: st)) rfl rfl (hb O.2.1 hd)
  obtain ⟨s₂, o, h1, r⟩ := q h2 W2 p e s0 s m args below meth c T2 _ (hR.mono (Nat.le_of_eq W2.size.symm)) O X2 e2 (Fr.snoc X2 F ha)
  exact ⟨s₂, o, st2 _ h1, r⟩
/-! facts carried from heap to heap -/
def Sm (h h' : Heap) (a : Addr) : Prop := ∀ c : Cell, h[a]? = some c → h'[a]? = some c
theorem Sm.ext {h h' : Heap} {a : Addr} (E : Ext h h') : Sm h h' a := fun c q => E.2 a c q
theorem Sm.keep {h h' : Heap} {a : Addr} {ws : List Addr} (E : Keep h h' ws) (q : a ∉ ws) : Sm h h' a := fun c r => E.2.1 a c r q
theorem Sm.wr {h h' : Heap} {a b : Addr} {sl : Nat} {v : Value} (W : Wr h h' b sl v) (q : a ≠ b) : Sm h h' a := Sm.keep (Keep.of_wr W) (by simpa using q)
theorem Sm.trans {h h' h'' : Heap} {a : Addr} (A : Sm h h' a) (B : Sm h' h'' a) : Sm h h'' a := fun c r => B c (A c r)
theorem Fld.sm {h h' : Heap} {a : Addr} {C n d : String} {v : Value} (F : Fld Z h a C n d v) (S : Sm h h' a) : Fld Z h' a C n d v := by
  obtain ⟨cell, cf, k, i, f, h1, r⟩ := F; exact ⟨cell, cf, k, i, f, S _ h1, r⟩
theorem Exa.sm {h h' : Heap} {a : Addr} {C : String} (F : Exa Z h a C) (S : Sm h h' a) : Exa Z h' a C := by
  obtain ⟨cell, k, h1, r⟩ := F; exact ⟨cell, k, S _ h1, r⟩
theorem Arr.sm {h h' : Heap} {a : Addr} {c : Cell} {ty : FieldType} (F : Arr Z h a c ty) (S : Sm h h' a) : Arr Z h' a c ty := ⟨S _ F.1, F.2⟩
/-- the array at a holds just these values -/
def Ary (Z : State) (h : Heap) (a : Addr) (ty : FieldType) (vs : List Value) : Prop := ∃ c : Cell, Arr Z h a c ty ∧ c.slots = vs.toArray
theorem Ary.sm {h h' : Heap} {a : Addr} {ty : FieldType} {vs : List Value} (F : Ary Z h a ty vs) (S : Sm h h' a) : Ary Z h' a ty vs := by
  obtain ⟨c, A, r⟩ := F; exact ⟨c, A.sm S, r⟩
theorem Ary.lt {h : Heap} {a : Addr} {ty : FieldType} {vs : List Value} (F : Ary Z h a ty vs) : a < h.size := by
  obtain ⟨c, A, r⟩ := F; exact A.lt
theorem Ary.eq {h : Heap} {a : Addr} {ty : FieldType} {vs vs' : List Value} (F : Ary Z h a ty vs) (q : vs = vs') : Ary Z h a ty vs' := q ▸ F
theorem Ary.set {h h' : Heap} {a : Addr} {ty : FieldType} {vs : List Value} {k : Nat} {v : Value} (F : Ary Z h a ty vs) (W : Wr h h' a k v) : Ary Z h' a ty (vs.set k v) := by
  obtain ⟨c, A, r⟩ := F
  refine ⟨_, A.same W, ?_⟩
  show c.slots.setIfInBounds k v = _
  rw [r]; simp
theorem clamp_of {j : Int32} {k : Nat} (hj : j.toInt = (k : Int)) : j.toNatClampNeg = k := by
  show j.toInt.toNat = k; omega
theorem inb {j : Int32} {k : Nat} {c : Cell} {vs : List Value} (hj : j.toInt = (k : Int)) (hc : c.slots = vs.toArray) (hk : k < vs.length) : ¬ (j < 0 ∨ c.slots.size ≤ j.toNatClampNeg) := by
  have z : (0 : Int32).toInt = 0 := rfl
  rw [clamp_of hj, hc, Int32.lt_iff_toInt_lt, z]; simp; omega
theorem lt_of_get {vs : List Value} {k : Nat} {v : Value} (h : vs[k]? = some v) : k < vs.length := (List.getElem?_eq_some_iff.mp h).1
theorem Go.newA {aty : ArrayType} {n : Int32} {k : Nat} {ty : FieldType} (w : (Cond.arrayClass ty).before a0 Z = true) (hty : newarray.typeOf aty = ty) (hn : n.toInt = (k : Int)) {cap : Nat} (hcap : k ≤ cap) (hb8 : cap * 8 ≤ 536870912) (hd : decode bytes pc = .ok (.newarray aty, 2)) (hc : cells + 1 ≤ R.cells) (hs : slots + cap ≤ R.slots) (hp : pc + 2 = pc')
    (q : ∀ (h' : Heap) (a : Addr), a = h.size → Ext h h' → Ary Z h' a ty (List.replicate k (defaultValue ty)) → Go wd l R Z y bytes maxL ret n0 K N Q h' (cells + 1) (slots + cap) pc' Ls (.ref a :: st)) : Go wd l R Z y bytes maxL ret n0 K N Q h cells slots pc Ls (.int n :: st) := by
  subst hp hty
  intro p e s0 s m args below meth c T locs hR O X eT F
  have z : (0 : Int32).toInt = 0 := rfl
  have hn0 : ¬ n < 0 := by rw [Int32.lt_iff_toInt_lt, z]; omega
  obtain ⟨T2, h2, cA, X2, e2, E2, A2, st2⟩ := RoadKit.newP X O.1 O.2.2.2.2.2.1 w eT (g := mkF m pc Ls (.int n :: st)) rfl (hb O.2.1 hd) rfl hn0 (cap := cap) (by rw [clamp_of hn]; exact hcap) hb8 hc hs
  obtain ⟨s₂, o, h1, r⟩ := q h2 _ rfl E2 ⟨_, A2, by simp [RoadKit.newA, clamp_of hn]⟩ p e s0 s m args below meth c T2 locs (hR.mono E2.1) O X2 e2 F
  exact ⟨s₂, o, st2 _ h1, r⟩
theorem Go.alen {a : Addr} {ty : FieldType} {vs : List Value} {z : Int32} (hA : Ary Z h a ty vs) (hz : z.toInt = (vs.length : Int)) (hd : decode bytes pc = .ok (.arraylength, 1)) (hp : pc + 1 = pc') (q : Go wd l R Z y bytes maxL ret n0 K N Q h cells slots pc' Ls (.int z :: st)) : Go wd l R Z y bytes maxL ret n0 K N Q h cells slots pc Ls (.ref a :: st) := by
  subst hp
  obtain ⟨cl, A, r⟩ := hA
  have e1 : cl.slots.size.toInt32 = z := by
    have := z.toInt_lt
    rw [r]; apply Int32.toInt_inj.mp
    rw [hz]
    have q1 : vs.toArray.size = vs.length := by simp
    rw [q1]; exact len_toInt (by omega)
  exact Go.of q fun p e s m args below meth c T locs O X eT t hr => X.arraylength O.1 (cell := cl) (by rw [eT]; exact A.1) (State.isArrayOf_alike O.2.2.2.2.2.1.alike A.2.1) (g := mkF m pc Ls (.ref a :: st)) rfl (rest := st) rfl (hb O.2.1 hd) _ (by rw [e1]; exact hr)
theorem Go.ldI {a : Addr} {vs : List Value} {j : Int32} {k : Nat} {v : Value} (hA : Ary Z h a .int vs) (hj : j.toInt = (k : Int)) (hv : vs[k]? = some v) (hd : decode bytes pc = .ok (.iaload, 1)) (hp : pc + 1 = pc') (q : Go wd l R Z y bytes maxL ret n0 K N Q h cells slots pc' Ls (v :: st)) : Go wd l R Z y bytes maxL ret n0 K N Q h cells slots pc Ls (.int j :: .ref a :: st) := by
  subst hp
  obtain ⟨cl, A, r⟩ := hA
  exact Go.of q fun p e s m args below meth c T locs O X eT t hr => X.iaload O.1 (j := j) (v := v) (by rw [eT]; exact A.1) (State.isArrayOf_alike O.2.2.2.2.2.1.alike A.2.1) A.2.2 (inb hj r (lt_of_get hv)) (by rw [clamp_of hj, r]; simpa using hv) (g := mkF m pc Ls (.int j :: .ref a :: st)) rfl rfl (hb O.2.1 hd) _ hr
theorem Go.ldJ {a : Addr} {vs : List Value} {j : Int32} {k : Nat} {v : Value} (hA : Ary Z h a .long vs) (hj : j.toInt = (k : Int)) (hv : vs[k]? = some v) (hd : decode bytes pc = .ok (.laload, 1)) (hp : pc + 1 = pc') (q : Go wd l R Z y bytes maxL ret n0 K N Q h cells slots pc' Ls (v :: st)) : Go wd l R Z y bytes maxL ret n0 K N Q h cells slots pc Ls (.int j :: .ref a :: st) := by
  subst hp
  obtain ⟨cl, A, r⟩ := hA
  exact Go.of q fun p e s m args below meth c T locs O X eT t hr => X.laload O.1 (j := j) (v := v) (by rw [eT]; exact A.1) (State.isArrayOf_alike O.2.2.2.2.2.1.alike A.2.1) A.2.2 (inb hj r (lt_of_get hv)) (by rw [clamp_of hj, r]; simpa using hv) (g := mkF m pc Ls (.int j :: .ref a :: st)) rfl rfl (hb O.2.1 hd) _ hr
theorem Go.ldC {a : Addr} {vs : List Value} {j : Int32} {k : Nat} {v : Value} (hA : Ary Z h a .char vs) (hj : j.toInt = (k : Int)) (hv : vs[k]? = some v) (hd : decode bytes pc = .ok (.caload, 1)) (hp : pc + 1 = pc') (q : Go wd l R Z y bytes maxL ret n0 K N Q h cells slots pc' Ls (v :: st)) : Go wd l R Z y bytes maxL ret n0 K N Q h cells slots pc Ls (.int j :: .ref a :: st) := by
  subst hp
  obtain ⟨cl, A, r⟩ := hA
  exact Go.of q fun p e s m args below meth c T locs O X eT t hr => X.caload O.1 (j := j) (v := v) (by rw [eT]; exact A.1) (State.isArrayOf_alike O.2.2.2.2.2.1.alike A.2.1) A.2.2 (inb hj r (lt_of_get hv)) (by rw [clamp_of hj, r]; simpa using hv) (g := mkF m pc Ls (.int j :: .ref a :: st)) rfl rfl (hb O.2.1 hd) _ hr
theorem Go.ldA {a : Addr} {ty : FieldType} {vs : List Value} {j : Int32} {k : Nat} {v : Value} (hA : Ary Z h a ty vs) (hty : ty.isReference = true) (hj : j.toInt = (k : Int)) (hv : vs[k]? = some v) (hd : decode bytes pc = .ok (.aaload, 1)) (hp : pc + 1 = pc') (q : Go wd l R Z y bytes maxL ret n0 K N Q h cells slots pc' Ls (v :: st)) : Go wd l R Z y bytes maxL ret n0 K N Q h cells slots pc Ls (.int j :: .ref a :: st) := by
  subst hp
  obtain ⟨cl, A, r⟩ := hA
  exact Go.of q fun p e s m args below meth c T locs O X eT t hr => X.aaload O.1 (j := j) (v := v) (by rw [eT]; exact A.1) (State.isArrayOf_alike O.2.2.2.2.2.1.alike A.2.1) hty A.2.2 (inb hj r (lt_of_get hv)) (by rw [clamp_of hj, r]; simpa using hv) (g := mkF m pc Ls (.int j :: .ref a :: st)) rfl rfl (hb O.2.1 hd) _ hr
theorem Go.stI {a : Addr} {vs : List Value} {j v : Int32} {k : Nat} (hA : Ary Z h a .int vs) (hj : j.toInt = (k : Int)) (hk : k < vs.length) (hd : decode bytes pc = .ok (.iastore, 1)) (ha : n0 ≤ a) (hp : pc + 1 = pc')
    (q : ∀ h', Wr h h' a k (.int v) → Ary Z h' a .int (vs.set k (.int v)) → Go wd l R Z y bytes maxL ret n0 K N Q h' cells slots pc' Ls st) : Go wd l R Z y bytes maxL ret n0 K N Q h cells slots pc Ls (.int v :: .int j :: .ref a :: st) := by
  subst hp
  have hA' := hA
  obtain ⟨cl, A, r⟩ := hA
  intro p e s0 s m args below meth c T locs hR O X eT F
  obtain ⟨T2, h2, X2, e2, W2, st2⟩ := RoadKit.stI X O.1 O.2.2.2.2.2.1 eT A (j := j) (x := v) (inb hj r hk) (g := mkF m pc Ls (.int v :: .int j :: .ref a :: st)) rfl rfl (hb O.2.1 hd)
  rw [clamp_of hj] at X2 W2
  obtain ⟨s₂, o, h1, r⟩ := q h2 W2 (hA'.set W2) p e s0 s m args below meth c T2 _ (hR.mono (Nat.le_of_eq W2.size.symm)) O X2 e2 (Fr.snoc X2 F ha)
  exact ⟨s₂, o, st2 _ h1, r⟩
theorem Go.stJ {a : Addr} {vs : List Value} {j : Int32} {v : Int64} {k : Nat} (hA : Ary Z h a .long vs) (hj : j.toInt = (k : Int)) (hk : k < vs.length) (hd : decode bytes pc = .ok (.lastore, 1)) (ha : n0 ≤ a) (hp : pc + 1 = pc')
    (q : ∀ h', Wr h h' a k (.long v) → Ary Z h' a .long (vs.set k (.long v)) → Go wd l R Z y bytes maxL ret n0 K N Q h' cells slots pc' Ls st) : Go wd l R Z y bytes maxL ret n0 K N Q h cells slots pc Ls (.long v :: .int j :: .ref a :: st) := by
  subst hp
  have hA' := hA
  obtain ⟨cl, A, r⟩ := hA
  intro p e s0 s m args below meth c T locs hR O X eT F
  obtain ⟨T2, h2, X2, e2, W2, st2⟩ := RoadKit.stJ X O.1 O.2.2.2.2.2.1 eT A (j := j) (x := v) (inb hj r hk) (g := mkF m pc Ls (.long v :: .int j :: .ref a :: st)) rfl rfl (hb O.2.1 hd)
  rw [clamp_of hj] at X2 W2
  obtain ⟨s₂, o, h1, r⟩ := q h2 W2 (hA'.set W2) p e s0 s m args below meth c T2 _ (hR.mono (Nat.le_of_eq W2.size.symm)) O X2 e2 (Fr.snoc X2 F ha)
  exact ⟨s₂, o, st2 _ h1, r⟩
theorem Go.stC {a : Addr} {vs : List Value} {j v : Int32} {k : Nat} (hA : Ary Z h a .char vs) (hj : j.toInt = (k : Int)) (hk : k < vs.length) (hd : decode bytes pc = .ok (.castore, 1)) (ha : n0 ≤ a) (hp : pc + 1 = pc')
    (q : ∀ h', Wr h h' a k (.int (nar .char v)) → Ary Z h' a .char (vs.set k (.int (nar .char v))) → Go wd l R Z y bytes maxL ret n0 K N Q h' cells slots pc' Ls st) : Go wd l R Z y bytes maxL ret n0 K N Q h cells slots pc Ls (.int v :: .int j :: .ref a :: st) := by
  subst hp
  have hA' := hA
  obtain ⟨cl, A, r⟩ := hA
  intro p e s0 s m args below meth c T locs hR O X eT F
  obtain ⟨T2, h2, X2, e2, W2, st2⟩ := RoadKit.stC X O.1 O.2.2.2.2.2.1 eT A (j := j) (x := v) (inb hj r hk) (g := mkF m pc Ls (.int v :: .int j :: .ref a :: st)) rfl rfl (hb O.2.1 hd)
  rw [clamp_of hj] at X2 W2
  obtain ⟨s₂, o, h1, r⟩ := q h2 W2 (hA'.set W2) p e s0 s m args below meth c T2 _ (hR.mono (Nat.le_of_eq W2.size.symm)) O X2 e2 (Fr.snoc X2 F ha)
  exact ⟨s₂, o, st2 _ h1, r⟩
/-! a method by its contract -/
def Mt (wd : Bool) (l : Launch) (Z : State) (y : MethodName) (bytes : ByteArray) (maxL : Nat) (ret : Option FieldType) (rm : Room) (n0 : Nat) (Q : Option Value → Heap → Prop) (h : Heap) (as' : Array Value) : Prop :=
  MetFree l y (head1 [Cond.code y bytes maxL ret] rm) (fun a U => a = as' ∧ Z.Warmed39 U.vm ∧ U.heap = h) (fun _ _ _ _ _ => True) (fun _ U o U' => ∃ v L, o = .returned v ∧ ((Q v U'.heap ∧ h.size ≤ U'.heap.size) ∧ Fr n0 L) ∧ GoEnd wd U o U' L rm.cells rm.slots)
theorem met_go {rm : Room} {ws : List Jvm.Cond} {as' : Array Value} (hp : plainFor y = true) (hef : ∀ m, entryFrame m as' maxL = mkF m 0 Ls []) (g : Go wd l rm Z y bytes maxL ret n0 K N Q h 0 0 0 Ls []) :
    MetFree l y (head1 (Jvm.Cond.code y bytes maxL ret :: ws) rm) (fun a U => a = as' ∧ Z.Warmed39 U.vm ∧ U.heap = h) (fun _ _ _ _ _ => True) (fun _ U o U' => ∃ v L, o = .returned v ∧ ((Q v U'.heap ∧ h.size ≤ U'.heap.size) ∧ Fr n0 L) ∧ GoEnd wd U o U' L K N) := by
  refine MetFree.of_bodySF hp hisR ?_
  intro p e s m args below meth c s₁ Bd hml0 hP hK
  obtain ⟨rfl, hZ, hh⟩ := hP
  have O : Own Z y bytes maxL ret p s m meth c := ⟨Bd.exec, Bd.bytes, hml0, findClass_of_methodNamed Bd.named, (name_of_methodNamed Bd.named Bd.method).1, hZ, Bd.returns, Bd.notSynchronized⟩
  have X0 : Stand p l e rm s m args below meth c s₁ [] 0 0 := Stand.of_body Bd
  have e0 : s₁.heap = h := by rw [← hh, Bd.state]; rfl
  obtain ⟨s₂, o, h1, h2, h3, v, L, h4, h5, h6⟩ := g p e s s m args below meth c s₁ [] (GoRel.refl _ _ _) O X0 e0 (Fr.nil n0)
  exact ⟨s₂, o, castTop (hef m) h1, h2, h3, v, L, h4, ⟨⟨h5.1, hh ▸ h6.grow⟩, h5.2⟩, h6⟩
theorem Mt.go {rm : Room} {as' : Array Value} (hp : plainFor y = true) (hef : ∀ m, entryFrame m as' maxL = mkF m 0 Ls []) (g : Go wd l rm Z y bytes maxL ret n0 rm.cells rm.slots Q h 0 0 0 Ls []) : Mt wd l Z y bytes maxL ret rm n0 Q h as' := met_go (ws := []) hp hef g
variable {y2 : MethodName} {bytes2 : ByteArray} {maxL2 : Nat} {ret2 : Option FieldType} {rm : Room} {i W : Nat} {as' : Array Value} {argsL rest : List Value} {Q2 : Option Value → Heap → Prop} {ps : List FieldType} {r2 : Option FieldType}
theorem Go.callS (w1 : (Cond.methodLink y.cls i y2).before a0 Z = true) (w2 : (Cond.static y2).before a0 Z = true) (w3 : (Cond.initialized y2.cls).before a0 Z = true) (w4 : (Cond.code y2 bytes2 maxL2 ret2).before a0 Z = true) (hy : y2.cls ≠ "java/lang/invoke/MethodHandle" ∧ y2.cls ≠ "java/lang/invoke/VarHandle")
    (hM : Mt false l Z y2 bytes2 maxL2 ret2 rm n0 Q2 h argsL.toArray) (hd : decode bytes pc = .ok (.invokestatic i, 3)) (hz : Ls.size = maxL) (hpd : parseMethodDescriptor y2.desc = some ⟨ps, r2⟩) (hlen : argsL.length = ps.length) (hst : st = argsL.reverse ++ rest)
    (hW : (rest.map fun v => v.category).sum ≤ W) (hf : rm.frames + 1 ≤ R.frames) (hl : W + (maxL2 + 11) + rm.locals ≤ R.locals) (hc : cells + rm.cells ≤ R.cells) (hs : slots + rm.slots ≤ R.slots) (hp : pc + 3 = pc')
    (q : ∀ v h', Q2 v h' → Go wd l R Z y bytes maxL ret n0 K N Q h' (cells + rm.cells) (slots + rm.slots) pc' Ls (v.toList ++ rest)) : Go wd l R Z y bytes maxL ret n0 K N Q h cells slots pc Ls st := by
  subst hp hst
  intro p e s0 s m args below meth c T locs hR O X eT F
  obtain ⟨v, vm₁, ⟨T2, L2, k2, n2⟩, -, X2, ⟨Lc, hQ, l2, y2, z2⟩, st2⟩ := Jvm.LawKit.callS X O.1 (y := y2) O.2.2.2.1 (mvT O.2.2.2.2.2.1 w1) (mvT O.2.2.2.2.2.1 w2) (mvT O.2.2.2.2.2.1 w3) (mvT O.2.2.2.2.2.1 w4) hy
    (backOf (W := W) (Q := fun v h' L => (Q2 v h' ∧ h.size ≤ h'.size) ∧ Fr n0 L) hM O.2.2.2.2.2.1 w4 w3 hf hl) (g := mkF m pc Ls (argsL.reverse ++ rest)) rfl (hz.trans O.2.2.1.symm) (argsL := argsL) (rest := rest) (lenOf hpd hlen) rfl (by show 2 * 0 + _ ≤ _; omega) (hb O.2.1 hd) (fun _ _ => ⟨rfl, eT, hc, hs⟩)
  dsimp only [Pt.U, Pt.locs, Pt.cells, Pt.slots] at X2 l2 y2 z2 st2 hQ
  subst l2 y2 z2
  obtain ⟨s₂, o, h1, r⟩ := q v T2.heap hQ.1.1 p e s0 s m args below meth c T2 _ (hR.mono hQ.1.2) O X2 rfl (Fr.app F hQ.2)
  exact ⟨s₂, o, st2 _ h1, r⟩
theorem Go.callN {a : Addr} (hy1 : y2.name = "<init>") (w1 : (Cond.methodLink y.cls i y2).before a0 Z = true) (w2 : (Cond.instanceMethod y2).before a0 Z = true) (w3 : (Cond.initialized y2.cls).before a0 Z = true) (w4 : (Cond.code y2 bytes2 maxL2 none).before a0 Z = true) (hy : y2.cls ≠ "java/lang/invoke/MethodHandle" ∧ y2.cls ≠ "java/lang/invoke/VarHandle")
    (hM : Mt false l Z y2 bytes2 maxL2 none rm n0 Q2 h (.ref a :: argsL).toArray) (hd : decode bytes pc = .ok (.invokespecial i, 3)) (hz : Ls.size = maxL) (hpd : parseMethodDescriptor y2.desc = some ⟨ps, r2⟩) (hlen : argsL.length = ps.length) (hst : st = argsL.reverse ++ .ref a :: rest)
    (hW : (rest.map fun v => v.category).sum ≤ W) (hf : rm.frames + 1 ≤ R.frames) (hl : W + (maxL2 + 11) + rm.locals ≤ R.locals) (hc : cells + rm.cells ≤ R.cells) (hs : slots + rm.slots ≤ R.slots) (hp : pc + 3 = pc')
    (q : ∀ v h', Q2 v h' → Go wd l R Z y bytes maxL ret n0 K N Q h' (cells + rm.cells) (slots + rm.slots) pc' Ls (v.toList ++ rest)) : Go wd l R Z y bytes maxL ret n0 K N Q h cells slots pc Ls st := by
  subst hp hst
  intro p e s0 s m args below meth c T locs hR O X eT F
  obtain ⟨v, vm₁, ⟨T2, L2, k2, n2⟩, -, X2, ⟨Lc, hQ, l2, y2, z2⟩, st2⟩ := X.specialBack O.1 (y := y2) hy1 O.2.2.2.1 (mvT O.2.2.2.2.2.1 w1) (mvT O.2.2.2.2.2.1 w2) (mvT O.2.2.2.2.2.1 w4) hy
    (backOf (W := W) (Q := fun v h' L => (Q2 v h' ∧ h.size ≤ h'.size) ∧ Fr n0 L) hM O.2.2.2.2.2.1 w4 w3 hf hl) (g := mkF m pc Ls (argsL.reverse ++ .ref a :: rest)) rfl (hz.trans O.2.2.1.symm) (Steps.refl _) (a := a) (argsL := argsL) (rest := rest) (lenOf hpd hlen) rfl (by show 2 * 0 + _ ≤ _; omega) (hb O.2.1 hd) (fun _ _ => ⟨rfl, eT, hc, hs⟩)
  dsimp only [Pt.U, Pt.locs, Pt.cells, Pt.slots] at X2 l2 y2 z2 st2 hQ
  subst l2 y2 z2
  obtain ⟨s₂, o, h1, r⟩ := q v T2.heap hQ.1.1 p e s0 s m args below meth c T2 _ (hR.mono hQ.1.2) O X2 rfl (Fr.app F hQ.2)
  exact ⟨s₂, o, st2.trans h1, r⟩
theorem Go.callV {a : Addr} {C : String} (w1 : (Cond.methodLink y.cls i y2).before a0 Z = true) (w2 : (Cond.declares y2).before a0 Z = true) (w5 : (Cond.selects C y2 y2).before a0 Z = true) (w6 : (Cond.instanceMethod y2).before a0 Z = true) (w3 : (Cond.initialized y2.cls).before a0 Z = true) (w4 : (Cond.code y2 bytes2 maxL2 ret2).before a0 Z = true)
    (hy : y2.cls ≠ "java/lang/invoke/MethodHandle" ∧ y2.cls ≠ "java/lang/invoke/VarHandle") (hE : Exa Z h a C)
    (hM : Mt false l Z y2 bytes2 maxL2 ret2 rm n0 Q2 h (.ref a :: argsL).toArray) (hd : decode bytes pc = .ok (.invokevirtual i, 3)) (hz : Ls.size = maxL) (hpd : parseMethodDescriptor y2.desc = some ⟨ps, r2⟩) (hlen : argsL.length = ps.length) (hst : st = argsL.reverse ++ .ref a :: rest)
    (hW : (rest.map fun v => v.category).sum ≤ W) (hf : rm.frames + 1 ≤ R.frames) (hl : W + (maxL2 + 11) + rm.locals ≤ R.locals) (hc : cells + rm.cells ≤ R.cells) (hs : slots + rm.slots ≤ R.slots) (hp : pc + 3 = pc')
    (q : ∀ v h', Q2 v h' → Go wd l R Z y bytes maxL ret n0 K N Q h' (cells + rm.cells) (slots + rm.slots) pc' Ls (v.toList ++ rest)) : Go wd l R Z y bytes maxL ret n0 K N Q h cells slots pc Ls st := by
  subst hp hst
  intro p e s0 s m args below meth c T locs hR O X eT F
  obtain ⟨cq, kq, qa, qb, qc⟩ := isOf (T := T) O.2.2.2.2.2.1 eT hE
  obtain ⟨v, vm₁, ⟨T2, L2, k2, n2⟩, -, X2, ⟨Lc, hQ, l2, y2, z2⟩, st2⟩ := X.virtualBack O.1 (y := y2) (z := y2) O.2.2.2.1 (mvT O.2.2.2.2.2.1 w1) (mvT O.2.2.2.2.2.1 w2) (notFace_of_selects (args := #[]) (mvT O.2.2.2.2.2.1 w5)) (mvT O.2.2.2.2.2.1 w5) (mvT O.2.2.2.2.2.1 w6) hy
    (backOf (W := W) (Q := fun v h' L => (Q2 v h' ∧ h.size ≤ h'.size) ∧ Fr n0 L) hM O.2.2.2.2.2.1 w4 w3 hf hl) qa qc (g := mkF m pc Ls (argsL.reverse ++ .ref a :: rest)) rfl (hz.trans O.2.2.1.symm) (Steps.refl _) (argsL := argsL) (rest := rest) (lenOf hpd hlen) rfl (by show 2 * 0 + _ ≤ _; omega) (hb O.2.1 hd) (fun _ _ => ⟨rfl, eT, hc, hs⟩)
  dsimp only [Pt.U, Pt.locs, Pt.cells, Pt.slots] at X2 l2 y2 z2 st2 hQ
  subst l2 y2 z2
  obtain ⟨s₂, o, h1, r⟩ := q v T2.heap hQ.1.1 p e s0 s m args below meth c T2 _ (hR.mono hQ.1.2) O X2 rfl (Fr.app F hQ.2)
  exact ⟨s₂, o, st2.trans h1, r⟩
end GoLaws
end Jvm.RoadKit
namespace Jvm.RoadKit
open Sem ClassFile Op Lib Jvm.Stand Jvm.Free Jvm.LawKit
section GoPriv
variable {wd : Bool} {l : Launch} {R : Room} {Z : State} {y : MethodName} {bytes : ByteArray} {maxL : Nat} {ret : Option FieldType} {n0 K N : Nat} {Q : Option Value → Heap → Prop} {h : Heap} {cells slots pc pc' : Nat} {Ls Ls' : Array Slot} {st st' : List Value} {a0 : Array Value}
variable {y2 : MethodName} {bytes2 : ByteArray} {maxL2 : Nat} {ret2 : Option FieldType} {rm : Room} {i W : Nat} {as' : Array Value} {argsL rest : List Value} {Q2 : Option Value → Heap → Prop} {ps : List FieldType} {r2 : Option FieldType}
/-- invokevirtual of a private method; that its class is no interface comes out of another word on that class -/
theorem Go.callP {a : Addr} {C C3 : String} {y4 y5 : MethodName} (w1 : (Cond.methodLink y.cls i y2).before a0 Z = true) (w6 : (Cond.instanceMethod y2).before a0 Z = true) (w7 : (Cond.privateMethod y2).before a0 Z = true) (w3 : (Cond.initialized y2.cls).before a0 Z = true) (w4 : (Cond.code y2 bytes2 maxL2 ret2).before a0 Z = true) (w8 : (Cond.selects C3 y4 y5).before a0 Z = true) (h5 : y5.cls = y2.cls)
    (hy : y2.cls ≠ "java/lang/invoke/MethodHandle" ∧ y2.cls ≠ "java/lang/invoke/VarHandle") (hE : Exa Z h a C)
    (hM : Mt false l Z y2 bytes2 maxL2 ret2 rm n0 Q2 h (.ref a :: argsL).toArray) (hd : decode bytes pc = .ok (.invokevirtual i, 3)) (hz : Ls.size = maxL) (hpd : parseMethodDescriptor y2.desc = some ⟨ps, r2⟩) (hlen : argsL.length = ps.length) (hst : st = argsL.reverse ++ .ref a :: rest)
    (hW : (rest.map fun v => v.category).sum ≤ W) (hf : rm.frames + 1 ≤ R.frames) (hl : W + (maxL2 + 11) + rm.locals ≤ R.locals) (hc : cells + rm.cells ≤ R.cells) (hs : slots + rm.slots ≤ R.slots) (hp : pc + 3 = pc')
    (q : ∀ v h', Q2 v h' → Go wd l R Z y bytes maxL ret n0 K N Q h' (cells + rm.cells) (slots + rm.slots) pc' Ls (v.toList ++ rest)) : Go wd l R Z y bytes maxL ret n0 K N Q h cells slots pc Ls st := by
  subst hp hst
  intro p e s0 s m args below meth c T locs hR O X eT F
  obtain ⟨cq, q1, q2⟩ := hE.cell
  have hsel0 : (Cond.selects C3 y4 y5).before args s = true := mvT O.2.2.2.2.2.1 w8
  obtain ⟨c2, rr, m2, -, -, q3, -, kP, hkP, hkPi⟩ := Cond.selects_spec hsel0
  have hcc := findClass_of_methodNamed q3
  rw [h5] at hcc
  have hpriv := Cond.privateMethod_at (mvP (args := #[]) O.2.2.2.2.2.1 w7)
  have hinst : (Cond.instanceMethod y2).before args s = true := mvT O.2.2.2.2.2.1 w6
  have hsel : (Cond.selects y2.cls y2 y2).before args s = true := selects_self_of_private hcc hkP hkPi hpriv hinst hy
  obtain ⟨v, vm₁, ⟨T2, L2, k2, n2⟩, -, X2, ⟨Lc, hQ, l2, y2, z2⟩, st2⟩ := X.privateBack O.1 (y := y2) O.2.2.2.1 (mvT O.2.2.2.2.2.1 w1) hinst hsel hpriv (mvT O.2.2.2.2.2.1 w4) hy
    (backOf (W := W) (Q := fun v h' L => (Q2 v h' ∧ h.size ≤ h'.size) ∧ Fr n0 L) hM O.2.2.2.2.2.1 w4 w3 hf hl) (g := mkF m pc Ls (argsL.reverse ++ .ref a :: rest)) rfl (hz.trans O.2.2.1.symm) (Steps.refl _) (a := a) (by rw [eT]; exact q1) q2 (argsL := argsL) (rest := rest) (lenOf hpd hlen) rfl (by show 2 * 0 + _ ≤ _; omega) (hb O.2.1 hd) (fun _ _ => ⟨rfl, eT, hc, hs⟩)
  dsimp only [Pt.U, Pt.locs, Pt.cells, Pt.slots] at X2 l2 y2 z2 st2 hQ
  subst l2 y2 z2
  obtain ⟨s₂, o, h1, r⟩ := q v T2.heap hQ.1.1 p e s0 s m args below meth c T2 _ (hR.mono hQ.1.2) O X2 rfl (Fr.app F hQ.2)
  exact ⟨s₂, o, st2.trans h1, r⟩
end GoPriv
end Jvm.RoadKit
namespace Jvm.Pilot.@@N@@
open Jvm Jvm.ClassFile Sem Op Lib Jvm.Free Jvm.Stand Jvm.LawKit Jvm.RoadKit Bundle Jvm.Pilot.@@N@@.Jvm.D
theorem d1_0 : decode prog_35_method_1_code 0 = .ok (.aload_n 0, 1) := by decide +kernel
theorem d1_1 : decode prog_35_method_1_code 1 = .ok (.invokespecial 1, 3) := by decide +kernel
theorem d1_4 : decode prog_35_method_1_code 4 = .ok (.iload_n 1, 1) := by decide +kernel
theorem d1_5 : decode prog_35_method_1_code 5 = .ok (.ifCond .ge 13, 3) := by decide +kernel
theorem d1_18 : decode prog_35_method_1_code 18 = .ok (.aload_n 0, 1) := by decide +kernel
theorem d1_19 : decode prog_35_method_1_code 19 = .ok (.iload_n 1, 1) := by decide +kernel
theorem d1_20 : decode prog_35_method_1_code 20 = .ok (.putfield 14, 3) := by decide +kernel
theorem d1_23 : decode prog_35_method_1_code 23 = .ok (.aload_n 0, 1) := by decide +kernel
theorem d1_24 : decode prog_35_method_1_code 24 = .ok (.iload_n 1, 1) := by decide +kernel
theorem d1_25 : decode prog_35_method_1_code 25 = .ok (.bipush 63, 2) := by decide +kernel
theorem d1_27 : decode prog_35_method_1_code 27 = .ok (.iadd, 1) := by decide +kernel
theorem d1_28 : decode prog_35_method_1_code 28 = .ok (.bipush 64, 2) := by decide +kernel
theorem d1_30 : decode prog_35_method_1_code 30 = .ok (.idiv, 1) := by decide +kernel
theorem d1_31 : decode prog_35_method_1_code 31 = .ok (.newarray .long, 2) := by decide +kernel
theorem d1_33 : decode prog_35_method_1_code 33 = .ok (.putfield 20, 3) := by decide +kernel
theorem d1_36 : decode prog_35_method_1_code 36 = .ok (.aload_n 2, 1) := by decide +kernel
theorem d1_37 : decode prog_35_method_1_code 37 = .ok (.astore_n 3, 1) := by decide +kernel
theorem d1_38 : decode prog_35_method_1_code 38 = .ok (.aload_n 3, 1) := by decide +kernel
theorem d1_39 : decode prog_35_method_1_code 39 = .ok (.arraylength, 1) := by decide +kernel
theorem d1_40 : decode prog_35_method_1_code 40 = .ok (.istore 4, 2) := by decide +kernel
theorem d1_42 : decode prog_35_method_1_code 42 = .ok (.iconst 0, 1) := by decide +kernel
theorem d1_43 : decode prog_35_method_1_code 43 = .ok (.istore 5, 2) := by decide +kernel
theorem d1_45 : decode prog_35_method_1_code 45 = .ok (.iload 5, 2) := by decide +kernel
theorem d1_47 : decode prog_35_method_1_code 47 = .ok (.iload 4, 2) := by decide +kernel
theorem d1_49 : decode prog_35_method_1_code 49 = .ok (.if_icmp .ge 38, 3) := by decide +kernel
theorem d1_52 : decode prog_35_method_1_code 52 = .ok (.aload_n 3, 1) := by decide +kernel
theorem d1_53 : decode prog_35_method_1_code 53 = .ok (.iload 5, 2) := by decide +kernel
theorem d1_55 : decode prog_35_method_1_code 55 = .ok (.iaload, 1) := by decide +kernel
theorem d1_56 : decode prog_35_method_1_code 56 = .ok (.istore 6, 2) := by decide +kernel
theorem d1_58 : decode prog_35_method_1_code 58 = .ok (.aload_n 0, 1) := by decide +kernel
theorem d1_59 : decode prog_35_method_1_code 59 = .ok (.iload 6, 2) := by decide +kernel
theorem d1_61 : decode prog_35_method_1_code 61 = .ok (.invokevirtual 24, 3) := by decide +kernel
theorem d1_64 : decode prog_35_method_1_code 64 = .ok (.aload_n 0, 1) := by decide +kernel
theorem d1_65 : decode prog_35_method_1_code 65 = .ok (.getfield 20, 3) := by decide +kernel
theorem d1_68 : decode prog_35_method_1_code 68 = .ok (.iload 6, 2) := by decide +kernel
theorem d1_70 : decode prog_35_method_1_code 70 = .ok (.bipush 6, 2) := by decide +kernel
theorem d1_72 : decode prog_35_method_1_code 72 = .ok (.iushr, 1) := by decide +kernel
theorem d1_73 : decode prog_35_method_1_code 73 = .ok (.dup2, 1) := by decide +kernel
theorem d1_74 : decode prog_35_method_1_code 74 = .ok (.laload, 1) := by decide +kernel
theorem d1_75 : decode prog_35_method_1_code 75 = .ok (.lconst 1, 1) := by decide +kernel
theorem d1_76 : decode prog_35_method_1_code 76 = .ok (.iload 6, 2) := by decide +kernel
theorem d1_78 : decode prog_35_method_1_code 78 = .ok (.lshl, 1) := by decide +kernel
theorem d1_79 : decode prog_35_method_1_code 79 = .ok (.lor, 1) := by decide +kernel
theorem d1_80 : decode prog_35_method_1_code 80 = .ok (.lastore, 1) := by decide +kernel
theorem d1_81 : decode prog_35_method_1_code 81 = .ok (.iinc 5 1, 3) := by decide +kernel
theorem d1_84 : decode prog_35_method_1_code 84 = .ok (.goto (-39), 3) := by decide +kernel
theorem d1_87 : decode prog_35_method_1_code 87 = .ok (.return_, 1) := by decide +kernel
theorem d3_0 : decode prog_35_method_7_code 0 = .ok (.iload_n 1, 1) := by decide +kernel
theorem d3_1 : decode prog_35_method_7_code 1 = .ok (.ifCond .lt 11, 3) := by decide +kernel
theorem d3_4 : decode prog_35_method_7_code 4 = .ok (.iload_n 1, 1) := by decide +kernel
theorem d3_5 : decode prog_35_method_7_code 5 = .ok (.aload_n 0, 1) := by decide +kernel
theorem d3_6 : decode prog_35_method_7_code 6 = .ok (.getfield 14, 3) := by decide +kernel
theorem d3_9 : decode prog_35_method_7_code 9 = .ok (.if_icmp .lt 13, 3) := by decide +kernel
theorem d3_22 : decode prog_35_method_7_code 22 = .ok (.return_, 1) := by decide +kernel
theorem d4_0 : decode prog_35_method_6_code 0 = .ok (.aload_n 1, 1) := by decide +kernel
theorem d4_1 : decode prog_35_method_6_code 1 = .ok (.astore_n 2, 1) := by decide +kernel
theorem d4_2 : decode prog_35_method_6_code 2 = .ok (.aload_n 2, 1) := by decide +kernel
theorem d4_3 : decode prog_35_method_6_code 3 = .ok (.arraylength, 1) := by decide +kernel
theorem d4_4 : decode prog_35_method_6_code 4 = .ok (.istore_n 3, 1) := by decide +kernel
theorem d4_5 : decode prog_35_method_6_code 5 = .ok (.iconst 0, 1) := by decide +kernel
theorem d4_6 : decode prog_35_method_6_code 6 = .ok (.istore 4, 2) := by decide +kernel
theorem d4_8 : decode prog_35_method_6_code 8 = .ok (.iload 4, 2) := by decide +kernel
theorem d4_10 : decode prog_35_method_6_code 10 = .ok (.iload_n 3, 1) := by decide +kernel
theorem d4_11 : decode prog_35_method_6_code 11 = .ok (.if_icmp .ge 37, 3) := by decide +kernel
theorem d4_14 : decode prog_35_method_6_code 14 = .ok (.aload_n 2, 1) := by decide +kernel
theorem d4_15 : decode prog_35_method_6_code 15 = .ok (.iload 4, 2) := by decide +kernel
theorem d4_17 : decode prog_35_method_6_code 17 = .ok (.iaload, 1) := by decide +kernel
theorem d4_18 : decode prog_35_method_6_code 18 = .ok (.istore 5, 2) := by decide +kernel
theorem d4_20 : decode prog_35_method_6_code 20 = .ok (.aload_n 0, 1) := by decide +kernel
theorem d4_21 : decode prog_35_method_6_code 21 = .ok (.getfield 20, 3) := by decide +kernel
theorem d4_24 : decode prog_35_method_6_code 24 = .ok (.iload 5, 2) := by decide +kernel
theorem d4_26 : decode prog_35_method_6_code 26 = .ok (.bipush 6, 2) := by decide +kernel
theorem d4_28 : decode prog_35_method_6_code 28 = .ok (.iushr, 1) := by decide +kernel
theorem d4_29 : decode prog_35_method_6_code 29 = .ok (.laload, 1) := by decide +kernel
theorem d4_30 : decode prog_35_method_6_code 30 = .ok (.lconst 1, 1) := by decide +kernel
theorem d4_31 : decode prog_35_method_6_code 31 = .ok (.iload 5, 2) := by decide +kernel
theorem d4_33 : decode prog_35_method_6_code 33 = .ok (.lshl, 1) := by decide +kernel
theorem d4_34 : decode prog_35_method_6_code 34 = .ok (.land, 1) := by decide +kernel
theorem d4_35 : decode prog_35_method_6_code 35 = .ok (.lconst 0, 1) := by decide +kernel
theorem d4_36 : decode prog_35_method_6_code 36 = .ok (.lcmp, 1) := by decide +kernel
theorem d4_37 : decode prog_35_method_6_code 37 = .ok (.ifCond .ne 5, 3) := by decide +kernel
theorem d4_40 : decode prog_35_method_6_code 40 = .ok (.iconst 0, 1) := by decide +kernel
theorem d4_41 : decode prog_35_method_6_code 41 = .ok (.ireturn, 1) := by decide +kernel
theorem d4_42 : decode prog_35_method_6_code 42 = .ok (.iinc 4 1, 3) := by decide +kernel
theorem d4_45 : decode prog_35_method_6_code 45 = .ok (.goto (-37), 3) := by decide +kernel
theorem d4_48 : decode prog_35_method_6_code 48 = .ok (.iconst 1, 1) := by decide +kernel
theorem d4_49 : decode prog_35_method_6_code 49 = .ok (.ireturn, 1) := by decide +kernel
theorem d5_0 : decode method_2_code 0 = .ok (.iload_n 1, 1) := by decide +kernel
theorem d5_1 : decode method_2_code 1 = .ok (.ifCond .eq 5, 3) := by decide +kernel
theorem d5_4 : decode method_2_code 4 = .ok (.iconst 0, 1) := by decide +kernel
theorem d5_5 : decode method_2_code 5 = .ok (.ireturn, 1) := by decide +kernel
theorem d5_6 : decode method_2_code 6 = .ok (.iload_n 0, 1) := by decide +kernel
theorem d5_7 : decode method_2_code 7 = .ok (.iload_n 2, 1) := by decide +kernel
theorem d5_8 : decode method_2_code 8 = .ok (.if_icmp .eq 14, 3) := by decide +kernel
theorem d5_11 : decode method_2_code 11 = .ok (.iload_n 0, 1) := by decide +kernel
theorem d5_12 : decode method_2_code 12 = .ok (.iload_n 3, 1) := by decide +kernel
theorem d5_13 : decode method_2_code 13 = .ok (.if_icmp .eq 9, 3) := by decide +kernel
theorem d5_16 : decode method_2_code 16 = .ok (.iload_n 0, 1) := by decide +kernel
theorem d5_17 : decode method_2_code 17 = .ok (.iload 4, 2) := by decide +kernel
theorem d5_19 : decode method_2_code 19 = .ok (.if_icmp .ne 7, 3) := by decide +kernel
theorem d5_22 : decode method_2_code 22 = .ok (.iconst 1, 1) := by decide +kernel
theorem d5_23 : decode method_2_code 23 = .ok (.goto 4, 3) := by decide +kernel
theorem d5_26 : decode method_2_code 26 = .ok (.iconst 0, 1) := by decide +kernel
theorem d5_27 : decode method_2_code 27 = .ok (.ireturn, 1) := by decide +kernel
theorem pd0 : parseMethodDescriptor "(I)V" = some ⟨[.int], none⟩ := by decide +kernel
theorem pd1 : parseMethodDescriptor "(I[I)V" = some ⟨[.int, (.array .int)], none⟩ := by decide +kernel
theorem pd2 : parseMethodDescriptor "([I)Z" = some ⟨[(.array .int)], (some .boolean)⟩ := by decide +kernel
theorem pd3 : parseMethodDescriptor "(IZIII)Z" = some ⟨[.int, .boolean, .int, .int, .int], (some .boolean)⟩ := by decide +kernel
theorem pn0 : plainName "com/example/forward_planner/forwardplanner/model/State" = true := by first | (simp [plainName, overriddenIn]; done) | decide +kernel
theorem pn1 : plainName "com/example/forward_planner/forwardplanner/model/StateHoldsAllPinLaw" = true := by first | (simp [plainName, overriddenIn]; done) | decide +kernel

def own_bt (W : List Int64) (f : Nat) : Bool := (W.getD (f / 64) 0).toBitVec.getLsbD (f % 64)
theorem own_shl (q : Int32) (hq : 0 ≤ q.toInt) : ((1 : Int64) <<< (q &&& 0x3f).toInt64).toBitVec = 1#64 <<< (q.toInt.toNat % 64) := by
  have e : q.toBitVec.toNat = q.toInt.toNat := by
    have h1 : q.toInt = q.toBitVec.toInt := rfl
    have h2 := BitVec.toInt_eq_toNat_bmod q.toBitVec
    have h3 := q.toBitVec.isLt
    rw [h1] at hq ⊢
    rw [h2] at hq ⊢
    have : (q.toBitVec.toNat : Int).bmod (2 ^ 32) = q.toBitVec.toNat := by
      simp only [Int.bmod] at hq ⊢
      split at hq <;> split <;> omega
    rw [this]; rfl
  obtain ⟨h1, h2⟩ := sm64 q (q.toInt.toNat % 64) (by rw [e])
  show (1 : Int64).toBitVec <<< ((q &&& 0x3f).toInt64.toBitVec.smod 64) = _
  rw [h1]
  show (1 : Int64).toBitVec <<< ((BitVec.ofNat 64 (q.toInt.toNat % 64)).smod 64).toNat = _
  rw [smod64 _ h2]
  rfl
theorem own_bit1 (k j : Nat) (hk : k < 64) (hj : j < 64) : (1#64 <<< k).getLsbD j = decide (j = k) := by
  rw [BitVec.getLsbD_shiftLeft, BitVec.getLsbD_one]
  by_cases h : j = k
  · subst h; simp [hj]
  · by_cases h2 : j < k
    · simp [h, h2]
    · have h3 : j - k ≠ 0 := by omega
      simp [h, h2, h3]
theorem own_test (w : Int64) (q : Int32) (hq : 0 ≤ q.toInt) : (w &&& ((1 : Int64) <<< (q &&& 0x3f).toInt64)).toInt ≠ 0 ↔ w.toBitVec.getLsbD (q.toInt.toNat % 64) = true := by
  have hk : q.toInt.toNat % 64 < 64 := Nat.mod_lt _ (by decide)
  have e : (w &&& ((1 : Int64) <<< (q &&& 0x3f).toInt64)).toBitVec = w.toBitVec &&& (1#64 <<< (q.toInt.toNat % 64)) := by
    rw [← own_shl q hq]; rfl
  have z : (w &&& ((1 : Int64) <<< (q &&& 0x3f).toInt64)).toInt ≠ 0 ↔ w.toBitVec &&& (1#64 <<< (q.toInt.toNat % 64)) ≠ 0#64 := by
    rw [← e]
    constructor
    · intro h h2; apply h
      have : (w &&& ((1 : Int64) <<< (q &&& 0x3f).toInt64)) = 0 := Int64.toBitVec_inj.mp h2
      rw [this]; rfl
    · intro h h2; apply h
      have : (w &&& ((1 : Int64) <<< (q &&& 0x3f).toInt64)) = 0 := Int64.toInt_inj.mp h2
      rw [this]; rfl
  rw [z]
  generalize q.toInt.toNat % 64 = k at hk
  constructor
  · intro h
    cases hb : w.toBitVec.getLsbD k with
    | true => rfl
    | false =>
      exfalso; apply h
      apply BitVec.eq_of_getLsbD_eq
      intro i hi
      rw [BitVec.getLsbD_and, own_bit1 k i hk hi]
      by_cases q : i = k
      · subst q; simp [hb]
      · simp [q]
  · intro h h2
    have q : (w.toBitVec &&& (1#64 <<< k)).getLsbD k = true := by rw [BitVec.getLsbD_and, own_bit1 k k hk hk, h]; simp
    rw [h2] at q
    simp at q
theorem own_set (W : List Int64) (t : Int32) (w : Int64) (ht : 0 ≤ t.toInt) (hw : W[t.toInt.toNat / 64]? = some w) (f : Nat) :
    (own_bt (W.set (t.toInt.toNat / 64) (w ||| ((1 : Int64) <<< (t &&& 0x3f).toInt64))) f = true ↔ (own_bt W f = true ∨ (f : Int) = t.toInt)) := by
  have hk : t.toInt.toNat % 64 < 64 := Nat.mod_lt _ (by decide)
  have hlt : t.toInt.toNat / 64 < W.length := (List.getElem?_eq_some_iff.mp hw).1
  have e : (w ||| ((1 : Int64) <<< (t &&& 0x3f).toInt64)).toBitVec = w.toBitVec ||| (1#64 <<< (t.toInt.toNat % 64)) := by
    rw [← own_shl t ht]; rfl
  have hf : f % 64 < 64 := Nat.mod_lt _ (by decide)
  unfold own_bt
  rw [List.getD_eq_getElem?_getD, List.getD_eq_getElem?_getD, List.getElem?_set]
  by_cases h1 : t.toInt.toNat / 64 = f / 64
  · rw [if_pos h1, ← h1, hw]
    simp only [hlt, if_true, Option.getD_some]
    rw [e, BitVec.getLsbD_or, own_bit1 _ _ hk hf, Bool.or_eq_true, decide_eq_true_eq]
    constructor
    · rintro (h | h)
      · exact Or.inl h
      · right; omega
    · rintro (h | h)
      · exact Or.inl h
      · right; omega
  · rw [if_neg h1]
    constructor
    · intro h; exact Or.inl h
    · rintro (h | h)
      · exact h
      · exfalso; omega
theorem own_zero (n f : Nat) : ¬ own_bt (List.replicate n (0 : Int64)) f = true := by
  unfold own_bt
  rw [List.getD_eq_getElem?_getD, List.getElem?_replicate]
  split <;> simp

set_option maxRecDepth 65536 in
set_option maxHeartbeats 40000000 in
theorem m_c (l : Launch) (Z : State) (a0 : Array Value) (hw : ∀ d ∈ tables_1, d.before a0 Z = true) (a : Addr) (f n : Int32) (h0 : Heap) (n0 : Nat) (z0 : n0 ≤ h0.size) (hF : Fld Z h0 a "com/example/forward_planner/forwardplanner/model/State" "factCount" "I" (.int n)) (hf : 0 ≤ f.toInt ∧ f.toInt < n.toInt) : Mt false l Z (⟨"com/example/forward_planner/forwardplanner/model/State", "checkFact", "(I)V"⟩ : MethodName) prog_35_method_7_code 2 none ({ frames := 0, cells := 0, slots := 0, locals := 0 } : Room) n0 (fun v h => v = none ∧ h0 = h) h0 #[(.ref a), (.int f)] := by
  refine Mt.go (Ls := #[.val (.ref a), .val (.int f)]) (plainFor_of_name pn0) (fun m => by first | (simp [entryFrame, mkF, argsToLocals, Value.category]; done) | rfl) ?_
  show (Go false l ({ frames := 0, cells := 0, slots := 0, locals := 0 } : Room) Z (⟨"com/example/forward_planner/forwardplanner/model/State", "checkFact", "(I)V"⟩ : MethodName) prog_35_method_7_code 2 none n0 0 0 (fun v h => v = none ∧ h0 = h)) h0 0 0 0 #[.val (.ref a), .val (.int f)] []
  refine Go.iloadN (pc' := 1) d3_0 rfl rfl ?_
  refine Go.ifc (pc1 := 12) (pc2 := 4) d3_1 (by decide) (by decide) rfl (fun (c_1 : f.toInt < 0) => ?_) (fun (c_1 : 0 ≤ f.toInt) => ?_)
  · exfalso; omega
  refine Go.iloadN (pc' := 5) d3_4 rfl rfl ?_
  refine Go.aloadN (pc' := 6) d3_5 rfl rfl rfl ?_
  refine Go.getF (pc' := 9) (hw _ (List.mem_of_getElem? (i := 12) rfl)) hF d3_6 rfl ?_
  refine Go.icmp (pc1 := 22) (pc2 := 12) d3_9 (by decide) (by decide) rfl (fun (c_2 : f.toInt < n.toInt) => ?_) (fun (c_2 : n.toInt ≤ f.toInt) => ?_)
  rotate_left
  · exfalso; omega
  exact Go.ret0 d3_22 rfl ⟨rfl, rfl⟩ (by decide) (by decide)
set_option maxRecDepth 65536 in
set_option maxHeartbeats 40000000 in
theorem m_i0 (l : Launch) (Z : State) (a0 : Array Value) (hw : ∀ d ∈ tables_1, d.before a0 Z = true) (a b : Addr) (n  : Int32) (h0 : Heap) (n0 : Nat) (z0 : n0 ≤ h0.size) (hE : Exa Z h0 a "com/example/forward_planner/forwardplanner/model/State") (hF : Fld Z h0 a "com/example/forward_planner/forwardplanner/model/State" "factCount" "I" (.int (0 : Int32))) (hG : Fld Z h0 a "com/example/forward_planner/forwardplanner/model/State" "words" "[J" .null) (hg : n0 ≤ a) (hA : Ary Z h0 b .int []) (hab : a ≠ b) (hn : 1 ≤ n.toInt ∧ n.toInt ≤ 256)  : Mt false l Z (⟨"com/example/forward_planner/forwardplanner/model/State", "<init>", "(I[I)V"⟩ : MethodName) prog_35_method_1_code 7 none ({ frames := 1, cells := 1, slots := 4, locals := 13 } : Room) n0 (fun v h => v = none ∧ ∃ (e : Addr) (W : List Int64), Keep h0 h [a] ∧ Exa Z h a "com/example/forward_planner/forwardplanner/model/State" ∧ Fld Z h a "com/example/forward_planner/forwardplanner/model/State" "words" "[J" (.ref e) ∧ Ary Z h e .long (W.map Value.long) ∧ h0.size ≤ e ∧ e < h.size ∧ n.toInt ≤ 64 * (W.length : Int) ∧ ∀ f : Nat, (own_bt W f = true ↔ ((0 : Int) = 1))) h0 #[(.ref a), (.int n), (.ref b)] := by
  refine Mt.go (Ls := #[.val (.ref a), .val (.int n), .val (.ref b), .unset, .unset, .unset, .unset]) (plainFor_of_name pn0) (fun m => by first | (simp [entryFrame, mkF, argsToLocals, Value.category]; done) | rfl) ?_
  show (Go false l ({ frames := 1, cells := 1, slots := 4, locals := 13 } : Room) Z (⟨"com/example/forward_planner/forwardplanner/model/State", "<init>", "(I[I)V"⟩ : MethodName) prog_35_method_1_code 7 none n0 1 4 (fun v h => v = none ∧ ∃ (e : Addr) (W : List Int64), Keep h0 h [a] ∧ Exa Z h a "com/example/forward_planner/forwardplanner/model/State" ∧ Fld Z h a "com/example/forward_planner/forwardplanner/model/State" "words" "[J" (.ref e) ∧ Ary Z h e .long (W.map Value.long) ∧ h0.size ≤ e ∧ e < h.size ∧ n.toInt ≤ 64 * (W.length : Int) ∧ ∀ f : Nat, (own_bt W f = true ↔ ((0 : Int) = 1)))) h0 0 0 0 #[.val (.ref a), .val (.int n), .val (.ref b), .unset, .unset, .unset, .unset] []
  refine Go.aloadN (pc' := 1) d1_0 rfl rfl rfl ?_
  refine Go.initO (pc' := 4) (W := 0) (hw _ (List.mem_of_getElem? (i := 9) rfl)) (hw _ (List.mem_of_getElem? (i := 10) rfl)) (hw _ (List.mem_of_getElem? (i := 11) rfl)) d1_1 rfl (by decide) (Nat.le_of_eq rfl) (by decide) rfl ?_
  refine Go.iloadN (pc' := 5) d1_4 rfl rfl ?_
  refine Go.ifc (pc1 := 18) (pc2 := 8) d1_5 (by decide) (by decide) rfl (fun (c_3 : 0 ≤ n.toInt) => ?_) (fun (c_3 : n.toInt < 0) => ?_)
  rotate_left
  · exfalso; omega
  refine Go.aloadN (pc' := 19) d1_18 rfl rfl rfl ?_
  refine Go.iloadN (pc' := 20) d1_19 rfl rfl ?_
  refine Go.putF (pc' := 23) (ty := .int) (hw _ (List.mem_of_getElem? (i := 12) rfl)) hF hE (Or.inr ⟨(hw _ (List.mem_of_getElem? (i := 13) rfl)), rfl, rfl⟩) (hw _ (List.mem_of_getElem? (i := 4) rfl)) (by decide) rfl rfl d1_20 hg rfl ?_
  intro h_4 W_5
  have f_6 : Exa Z h_4 a "com/example/forward_planner/forwardplanner/model/State" := Exa.wr W_5 hE
  have f_7 : Ary Z h_4 b .int [] := hA.sm (Sm.wr W_5 hab.symm)
  have t_8 : a < h_4.size := Nat.lt_of_lt_of_le hE.lt (Nat.le_of_eq W_5.size.symm)
  have t_9 : b < h_4.size := Nat.lt_of_lt_of_le hA.lt (Nat.le_of_eq W_5.size.symm)
  have z_10 : n0 ≤ h_4.size := Nat.le_trans z0 (Nat.le_of_eq W_5.size.symm)
  have b_11 : h0.size ≤ h_4.size := Nat.le_trans (Nat.le_refl _) (Nat.le_of_eq W_5.size.symm)
  have K_12 : Keep h0 h_4 [a] := (Keep.refl _ _).wr W_5 (Or.inl (List.mem_of_getElem? (i := 0) rfl))
  have f_13 : Fld Z h_4 a "com/example/forward_planner/forwardplanner/model/State" "factCount" "I" (.int n) := Fld.same W_5 hF
  have f_14 : Fld Z h_4 a "com/example/forward_planner/forwardplanner/model/State" "words" "[J" .null := Fld.other W_5 hG (Or.inr (slot_ne (Or.inr (hw _ (List.mem_of_getElem? (i := 16) rfl))) (Or.inr (hw _ (List.mem_of_getElem? (i := 13) rfl))) (by decide) (t := (.array .long)) (t' := .int) (by decide) (by decide)))
  refine Go.aloadN (pc' := 24) d1_23 rfl rfl rfl ?_
  refine Go.iloadN (pc' := 25) d1_24 rfl rfl ?_
  refine Go.bipush (pc' := 27) (v := (63 : Int32)) d1_25 rfl rfl ?_
  refine Go.iadd (pc' := 28) d1_27 rfl ?_
  refine Go.bipush (pc' := 30) (v := (64 : Int32)) d1_28 rfl rfl ?_
  refine Go.idiv (pc' := 31) d1_30 (by decide) rfl ?_
  generalize ek_15 : (n + (63 : Int32)) / (64 : Int32) = k_15
  have k_16 : k_15.toInt = (n.toInt + 63) / 64 := by
    rw [← ek_15]
    have : (63 : Int32).toInt = 63 := by decide
    have := c_iadd n (63 : Int32)
    have := rng32 (n + (63 : Int32))
    have := rng32 n
    have : (64 : Int32).toInt = 64 := by decide
    have := c_idiv (n + (63 : Int32)) (64 : Int32) 64 (by decide) (by decide)
    have := rng32 ((n + (63 : Int32)) / (64 : Int32))
    omega
  refine Go.newA (pc' := 33) (k := k_15.toInt.toNat) (ty := .long) (cap := 4) (hw _ (List.mem_of_getElem? (i := 14) rfl)) rfl (by omega) (by omega) (by decide) d1_31 (by decide) (by decide) rfl ?_
  intro h_17 a_18 q_19 E_20 A_21
  have n_23 : a ≠ a_18 := Nat.ne_of_lt (q_19 ▸ t_8)
  have n_24 : b ≠ a_18 := Nat.ne_of_lt (q_19 ▸ t_9)
  have g_25 : n0 ≤ a_18 := q_19 ▸ z_10
  have g_26 : h0.size ≤ a_18 := q_19 ▸ b_11
  have f_27 : Exa Z h_17 a "com/example/forward_planner/forwardplanner/model/State" := f_6.sm (Sm.ext E_20)
  have f_28 : Ary Z h_17 b .int [] := f_7.sm (Sm.ext E_20)
  have f_29 : Fld Z h_17 a "com/example/forward_planner/forwardplanner/model/State" "factCount" "I" (.int n) := f_13.sm (Sm.ext E_20)
  have f_30 : Fld Z h_17 a "com/example/forward_planner/forwardplanner/model/State" "words" "[J" .null := f_14.sm (Sm.ext E_20)
  have t_31 : a < h_17.size := Nat.lt_of_lt_of_le t_8 E_20.1
  have t_32 : b < h_17.size := Nat.lt_of_lt_of_le t_9 E_20.1
  have z_33 : n0 ≤ h_17.size := Nat.le_trans z_10 E_20.1
  have b_34 : h0.size ≤ h_17.size := Nat.le_trans b_11 E_20.1
  have K_35 : Keep h0 h_17 [a] := K_12.ext E_20
  have t_36 : a_18 < h_17.size := A_21.lt
  have y0 : Ary Z h_17 a_18 .long ((List.replicate (k_15.toInt.toNat) (0 : Int64)).map Value.long) := A_21.eq (by simp [defaultValue])
  obtain ⟨W0, hW0⟩ : ∃ W : List Int64, W = List.replicate (k_15.toInt.toNat) (0 : Int64) := ⟨_, rfl⟩
  rw [← hW0] at y0
  have l0 : W0.length = k_15.toInt.toNat := by rw [hW0]; simp
  have b0 : ∀ f : Nat, (own_bt W0 f = true ↔ ((0 : Int) = 1)) := fun f => by rw [hW0]; exact ⟨fun q => absurd q (own_zero _ _), fun q => by omega⟩
  refine Go.putF (pc' := 36) (ty := (.array .long)) (hw _ (List.mem_of_getElem? (i := 15) rfl)) f_30 f_27 (Or.inr ⟨(hw _ (List.mem_of_getElem? (i := 16) rfl)), rfl, rfl⟩) (hw _ (List.mem_of_getElem? (i := 4) rfl)) (by decide) rfl rfl d1_33 hg rfl ?_
  intro h_37 W_38
  have f_39 : Exa Z h_37 a "com/example/forward_planner/forwardplanner/model/State" := Exa.wr W_38 f_27
  have f_40 : Ary Z h_37 b .int [] := f_28.sm (Sm.wr W_38 hab.symm)
  have f_41 : Ary Z h_37 a_18 .long (W0.map Value.long) := y0.sm (Sm.wr W_38 n_23.symm)
  have t_42 : a < h_37.size := Nat.lt_of_lt_of_le t_31 (Nat.le_of_eq W_38.size.symm)
  have t_43 : b < h_37.size := Nat.lt_of_lt_of_le t_32 (Nat.le_of_eq W_38.size.symm)
  have t_44 : a_18 < h_37.size := Nat.lt_of_lt_of_le t_36 (Nat.le_of_eq W_38.size.symm)
  have z_45 : n0 ≤ h_37.size := Nat.le_trans z_33 (Nat.le_of_eq W_38.size.symm)
  have b_46 : h0.size ≤ h_37.size := Nat.le_trans b_34 (Nat.le_of_eq W_38.size.symm)
  have K_47 : Keep h0 h_37 [a] := K_35.wr W_38 (Or.inl (List.mem_of_getElem? (i := 0) rfl))
  have f_48 : Fld Z h_37 a "com/example/forward_planner/forwardplanner/model/State" "factCount" "I" (.int n) := Fld.other W_38 f_29 (Or.inr (slot_ne (Or.inr (hw _ (List.mem_of_getElem? (i := 13) rfl))) (Or.inr (hw _ (List.mem_of_getElem? (i := 16) rfl))) (by decide) (t := .int) (t' := (.array .long)) (by decide) (by decide)))
  have f_49 : Fld Z h_37 a "com/example/forward_planner/forwardplanner/model/State" "words" "[J" (.ref a_18) := Fld.same W_38 f_30
  refine Go.aloadN (pc' := 37) d1_36 rfl rfl rfl ?_
  refine Go.astoreN (pc' := 38) (Ls' := #[.val (.ref a), .val (.int n), .val (.ref b), .val (.ref b), .unset, .unset, .unset]) d1_37 rfl rfl rfl ?_
  refine Go.aloadN (pc' := 39) d1_38 rfl rfl rfl ?_
  refine Go.alen (pc' := 40) (z := (0 : Int32)) f_40 rfl d1_39 rfl ?_
  refine Go.istore (pc' := 42) (Ls' := #[.val (.ref a), .val (.int n), .val (.ref b), .val (.ref b), .val (.int (0 : Int32)), .unset, .unset]) d1_40 rfl rfl ?_
  refine Go.iconst (pc' := 43) (v := (0 : Int32)) d1_42 rfl rfl ?_
  refine Go.istore (pc' := 45) (Ls' := #[.val (.ref a), .val (.int n), .val (.ref b), .val (.ref b), .val (.int (0 : Int32)), .val (.int (0 : Int32)), .unset]) d1_43 rfl rfl ?_
  refine Go.iload (pc' := 47) d1_45 rfl rfl ?_
  refine Go.iload (pc' := 49) d1_47 rfl rfl ?_
  refine Go.icmp (pc1 := 87) (pc2 := 52) d1_49 (by decide) (by decide) rfl (fun (c_50 : (0 : Int) ≤ (0 : Int)) => ?_) (fun (c_50 : (0 : Int) < (0 : Int)) => ?_)
  rotate_left
  · exact absurd c_50 (by decide)
  exact Go.ret0 d1_87 rfl ⟨rfl, a_18, W0, K_47, f_39, f_49, f_41, g_26, t_44, (by omega), b0⟩ (by decide) (by decide)
set_option maxRecDepth 65536 in
set_option maxHeartbeats 40000000 in
theorem m_i3 (l : Launch) (Z : State) (a0 : Array Value) (hw : ∀ d ∈ tables_1, d.before a0 Z = true) (a b : Addr) (n t0 t1 t2 : Int32) (h0 : Heap) (n0 : Nat) (z0 : n0 ≤ h0.size) (hE : Exa Z h0 a "com/example/forward_planner/forwardplanner/model/State") (hF : Fld Z h0 a "com/example/forward_planner/forwardplanner/model/State" "factCount" "I" (.int (0 : Int32))) (hG : Fld Z h0 a "com/example/forward_planner/forwardplanner/model/State" "words" "[J" .null) (hg : n0 ≤ a) (hA : Ary Z h0 b .int [.int t0, .int t1, .int t2]) (hab : a ≠ b) (hn : 1 ≤ n.toInt ∧ n.toInt ≤ 256) (ht0 : 0 ≤ t0.toInt ∧ t0.toInt < n.toInt) (ht1 : 0 ≤ t1.toInt ∧ t1.toInt < n.toInt) (ht2 : 0 ≤ t2.toInt ∧ t2.toInt < n.toInt) : Mt false l Z (⟨"com/example/forward_planner/forwardplanner/model/State", "<init>", "(I[I)V"⟩ : MethodName) prog_35_method_1_code 7 none ({ frames := 1, cells := 1, slots := 4, locals := 13 } : Room) n0 (fun v h => v = none ∧ ∃ (e : Addr) (W : List Int64), Keep h0 h [a] ∧ Exa Z h a "com/example/forward_planner/forwardplanner/model/State" ∧ Fld Z h a "com/example/forward_planner/forwardplanner/model/State" "words" "[J" (.ref e) ∧ Ary Z h e .long (W.map Value.long) ∧ h0.size ≤ e ∧ e < h.size ∧ n.toInt ≤ 64 * (W.length : Int) ∧ ∀ f : Nat, (own_bt W f = true ↔ ((f : Int) = t0.toInt ∨ (f : Int) = t1.toInt ∨ (f : Int) = t2.toInt))) h0 #[(.ref a), (.int n), (.ref b)] := by
  refine Mt.go (Ls := #[.val (.ref a), .val (.int n), .val (.ref b), .unset, .unset, .unset, .unset]) (plainFor_of_name pn0) (fun m => by first | (simp [entryFrame, mkF, argsToLocals, Value.category]; done) | rfl) ?_
  show (Go false l ({ frames := 1, cells := 1, slots := 4, locals := 13 } : Room) Z (⟨"com/example/forward_planner/forwardplanner/model/State", "<init>", "(I[I)V"⟩ : MethodName) prog_35_method_1_code 7 none n0 1 4 (fun v h => v = none ∧ ∃ (e : Addr) (W : List Int64), Keep h0 h [a] ∧ Exa Z h a "com/example/forward_planner/forwardplanner/model/State" ∧ Fld Z h a "com/example/forward_planner/forwardplanner/model/State" "words" "[J" (.ref e) ∧ Ary Z h e .long (W.map Value.long) ∧ h0.size ≤ e ∧ e < h.size ∧ n.toInt ≤ 64 * (W.length : Int) ∧ ∀ f : Nat, (own_bt W f = true ↔ ((f : Int) = t0.toInt ∨ (f : Int) = t1.toInt ∨ (f : Int) = t2.toInt)))) h0 0 0 0 #[.val (.ref a), .val (.int n), .val (.ref b), .unset, .unset, .unset, .unset] []
  refine Go.aloadN (pc' := 1) d1_0 rfl rfl rfl ?_
  refine Go.initO (pc' := 4) (W := 0) (hw _ (List.mem_of_getElem? (i := 9) rfl)) (hw _ (List.mem_of_getElem? (i := 10) rfl)) (hw _ (List.mem_of_getElem? (i := 11) rfl)) d1_1 rfl (by decide) (Nat.le_of_eq rfl) (by decide) rfl ?_
  refine Go.iloadN (pc' := 5) d1_4 rfl rfl ?_
  refine Go.ifc (pc1 := 18) (pc2 := 8) d1_5 (by decide) (by decide) rfl (fun (c_51 : 0 ≤ n.toInt) => ?_) (fun (c_51 : n.toInt < 0) => ?_)
  rotate_left
  · exfalso; omega
  refine Go.aloadN (pc' := 19) d1_18 rfl rfl rfl ?_
  refine Go.iloadN (pc' := 20) d1_19 rfl rfl ?_
  refine Go.putF (pc' := 23) (ty := .int) (hw _ (List.mem_of_getElem? (i := 12) rfl)) hF hE (Or.inr ⟨(hw _ (List.mem_of_getElem? (i := 13) rfl)), rfl, rfl⟩) (hw _ (List.mem_of_getElem? (i := 4) rfl)) (by decide) rfl rfl d1_20 hg rfl ?_
  intro h_52 W_53
  have f_54 : Exa Z h_52 a "com/example/forward_planner/forwardplanner/model/State" := Exa.wr W_53 hE
  have f_55 : Ary Z h_52 b .int [(.int t0), (.int t1), (.int t2)] := hA.sm (Sm.wr W_53 hab.symm)
  have t_56 : a < h_52.size := Nat.lt_of_lt_of_le hE.lt (Nat.le_of_eq W_53.size.symm)
  have t_57 : b < h_52.size := Nat.lt_of_lt_of_le hA.lt (Nat.le_of_eq W_53.size.symm)
  have z_58 : n0 ≤ h_52.size := Nat.le_trans z0 (Nat.le_of_eq W_53.size.symm)
  have b_59 : h0.size ≤ h_52.size := Nat.le_trans (Nat.le_refl _) (Nat.le_of_eq W_53.size.symm)
  have K_60 : Keep h0 h_52 [a] := (Keep.refl _ _).wr W_53 (Or.inl (List.mem_of_getElem? (i := 0) rfl))
  have f_61 : Fld Z h_52 a "com/example/forward_planner/forwardplanner/model/State" "factCount" "I" (.int n) := Fld.same W_53 hF
  have f_62 : Fld Z h_52 a "com/example/forward_planner/forwardplanner/model/State" "words" "[J" .null := Fld.other W_53 hG (Or.inr (slot_ne (Or.inr (hw _ (List.mem_of_getElem? (i := 16) rfl))) (Or.inr (hw _ (List.mem_of_getElem? (i := 13) rfl))) (by decide) (t := (.array .long)) (t' := .int) (by decide) (by decide)))
  refine Go.aloadN (pc' := 24) d1_23 rfl rfl rfl ?_
  refine Go.iloadN (pc' := 25) d1_24 rfl rfl ?_
  refine Go.bipush (pc' := 27) (v := (63 : Int32)) d1_25 rfl rfl ?_
  refine Go.iadd (pc' := 28) d1_27 rfl ?_
  refine Go.bipush (pc' := 30) (v := (64 : Int32)) d1_28 rfl rfl ?_
  refine Go.idiv (pc' := 31) d1_30 (by decide) rfl ?_
  generalize ek_63 : (n + (63 : Int32)) / (64 : Int32) = k_63
  have k_64 : k_63.toInt = (n.toInt + 63) / 64 := by
    rw [← ek_63]
    have : (63 : Int32).toInt = 63 := by decide
    have := c_iadd n (63 : Int32)
    have := rng32 (n + (63 : Int32))
    have := rng32 n
    have : (64 : Int32).toInt = 64 := by decide
    have := c_idiv (n + (63 : Int32)) (64 : Int32) 64 (by decide) (by decide)
    have := rng32 ((n + (63 : Int32)) / (64 : Int32))
    omega
  refine Go.newA (pc' := 33) (k := k_63.toInt.toNat) (ty := .long) (cap := 4) (hw _ (List.mem_of_getElem? (i := 14) rfl)) rfl (by omega) (by omega) (by decide) d1_31 (by decide) (by decide) rfl ?_
  intro h_65 a_66 q_67 E_68 A_69
  have n_71 : a ≠ a_66 := Nat.ne_of_lt (q_67 ▸ t_56)
  have n_72 : b ≠ a_66 := Nat.ne_of_lt (q_67 ▸ t_57)
  have g_73 : n0 ≤ a_66 := q_67 ▸ z_58
  have g_74 : h0.size ≤ a_66 := q_67 ▸ b_59
  have f_75 : Exa Z h_65 a "com/example/forward_planner/forwardplanner/model/State" := f_54.sm (Sm.ext E_68)
  have f_76 : Ary Z h_65 b .int [(.int t0), (.int t1), (.int t2)] := f_55.sm (Sm.ext E_68)
  have f_77 : Fld Z h_65 a "com/example/forward_planner/forwardplanner/model/State" "factCount" "I" (.int n) := f_61.sm (Sm.ext E_68)
  have f_78 : Fld Z h_65 a "com/example/forward_planner/forwardplanner/model/State" "words" "[J" .null := f_62.sm (Sm.ext E_68)
  have t_79 : a < h_65.size := Nat.lt_of_lt_of_le t_56 E_68.1
  have t_80 : b < h_65.size := Nat.lt_of_lt_of_le t_57 E_68.1
  have z_81 : n0 ≤ h_65.size := Nat.le_trans z_58 E_68.1
  have b_82 : h0.size ≤ h_65.size := Nat.le_trans b_59 E_68.1
  have K_83 : Keep h0 h_65 [a] := K_60.ext E_68
  have t_84 : a_66 < h_65.size := A_69.lt
  have y0 : Ary Z h_65 a_66 .long ((List.replicate (k_63.toInt.toNat) (0 : Int64)).map Value.long) := A_69.eq (by simp [defaultValue])
  obtain ⟨W0, hW0⟩ : ∃ W : List Int64, W = List.replicate (k_63.toInt.toNat) (0 : Int64) := ⟨_, rfl⟩
  rw [← hW0] at y0
  have l0 : W0.length = k_63.toInt.toNat := by rw [hW0]; simp
  have b0 : ∀ f : Nat, (own_bt W0 f = true ↔ ((0 : Int) = 1)) := fun f => by rw [hW0]; exact ⟨fun q => absurd q (own_zero _ _), fun q => by omega⟩
  refine Go.putF (pc' := 36) (ty := (.array .long)) (hw _ (List.mem_of_getElem? (i := 15) rfl)) f_78 f_75 (Or.inr ⟨(hw _ (List.mem_of_getElem? (i := 16) rfl)), rfl, rfl⟩) (hw _ (List.mem_of_getElem? (i := 4) rfl)) (by decide) rfl rfl d1_33 hg rfl ?_
  intro h_85 W_86
  have f_87 : Exa Z h_85 a "com/example/forward_planner/forwardplanner/model/State" := Exa.wr W_86 f_75
  have f_88 : Ary Z h_85 b .int [(.int t0), (.int t1), (.int t2)] := f_76.sm (Sm.wr W_86 hab.symm)
  have f_89 : Ary Z h_85 a_66 .long (W0.map Value.long) := y0.sm (Sm.wr W_86 n_71.symm)
  have t_90 : a < h_85.size := Nat.lt_of_lt_of_le t_79 (Nat.le_of_eq W_86.size.symm)
  have t_91 : b < h_85.size := Nat.lt_of_lt_of_le t_80 (Nat.le_of_eq W_86.size.symm)
  have t_92 : a_66 < h_85.size := Nat.lt_of_lt_of_le t_84 (Nat.le_of_eq W_86.size.symm)
  have z_93 : n0 ≤ h_85.size := Nat.le_trans z_81 (Nat.le_of_eq W_86.size.symm)
  have b_94 : h0.size ≤ h_85.size := Nat.le_trans b_82 (Nat.le_of_eq W_86.size.symm)
  have K_95 : Keep h0 h_85 [a] := K_83.wr W_86 (Or.inl (List.mem_of_getElem? (i := 0) rfl))
  have f_96 : Fld Z h_85 a "com/example/forward_planner/forwardplanner/model/State" "factCount" "I" (.int n) := Fld.other W_86 f_77 (Or.inr (slot_ne (Or.inr (hw _ (List.mem_of_getElem? (i := 13) rfl))) (Or.inr (hw _ (List.mem_of_getElem? (i := 16) rfl))) (by decide) (t := .int) (t' := (.array .long)) (by decide) (by decide)))
  have f_97 : Fld Z h_85 a "com/example/forward_planner/forwardplanner/model/State" "words" "[J" (.ref a_66) := Fld.same W_86 f_78
  refine Go.aloadN (pc' := 37) d1_36 rfl rfl rfl ?_
  refine Go.astoreN (pc' := 38) (Ls' := #[.val (.ref a), .val (.int n), .val (.ref b), .val (.ref b), .unset, .unset, .unset]) d1_37 rfl rfl rfl ?_
  refine Go.aloadN (pc' := 39) d1_38 rfl rfl rfl ?_
  refine Go.alen (pc' := 40) (z := (3 : Int32)) f_88 rfl d1_39 rfl ?_
  refine Go.istore (pc' := 42) (Ls' := #[.val (.ref a), .val (.int n), .val (.ref b), .val (.ref b), .val (.int (3 : Int32)), .unset, .unset]) d1_40 rfl rfl ?_
  refine Go.iconst (pc' := 43) (v := (0 : Int32)) d1_42 rfl rfl ?_
  refine Go.istore (pc' := 45) (Ls' := #[.val (.ref a), .val (.int n), .val (.ref b), .val (.ref b), .val (.int (3 : Int32)), .val (.int (0 : Int32)), .unset]) d1_43 rfl rfl ?_
  refine Go.iload (pc' := 47) d1_45 rfl rfl ?_
  refine Go.iload (pc' := 49) d1_47 rfl rfl ?_
  refine Go.icmp (pc1 := 87) (pc2 := 52) d1_49 (by decide) (by decide) rfl (fun (c_98 : (3 : Int) ≤ (0 : Int)) => ?_) (fun (c_98 : (0 : Int) < (3 : Int)) => ?_)
  · exact absurd c_98 (by decide)
  refine Go.aloadN (pc' := 53) d1_52 rfl rfl rfl ?_
  refine Go.iload (pc' := 55) d1_53 rfl rfl ?_
  refine Go.ldI (pc' := 56) (k := 0) (v := (.int t0)) f_88 rfl rfl d1_55 rfl ?_
  refine Go.istore (pc' := 58) (Ls' := #[.val (.ref a), .val (.int n), .val (.ref b), .val (.ref b), .val (.int (3 : Int32)), .val (.int (0 : Int32)), .val (.int t0)]) d1_56 rfl rfl ?_
  refine Go.aloadN (pc' := 59) d1_58 rfl rfl rfl ?_
  refine Go.iload (pc' := 61) d1_59 rfl rfl ?_
  refine Go.callP (pc' := 64) (argsL := [(.int t0)]) (rest := []) (W := 0) (hw _ (List.mem_of_getElem? (i := 17) rfl)) (hw _ (List.mem_of_getElem? (i := 18) rfl)) (hw _ (List.mem_of_getElem? (i := 19) rfl)) (hw _ (List.mem_of_getElem? (i := 5) rfl)) (hw _ (List.mem_of_getElem? (i := 20) rfl)) (hw _ (List.mem_of_getElem? (i := 24) rfl)) rfl (by decide) f_87 (m_c l Z a0 hw a t0 n h_85 n0 z_93 f_96 ht0) d1_61 rfl pd0 rfl rfl (Nat.le_of_eq rfl) (by decide) (by decide) (by decide) (by decide) rfl ?_
  rintro _ _ ⟨rfl, rfl⟩
  show (Go false l ({ frames := 1, cells := 1, slots := 4, locals := 13 } : Room) Z (⟨"com/example/forward_planner/forwardplanner/model/State", "<init>", "(I[I)V"⟩ : MethodName) prog_35_method_1_code 7 none n0 1 4 (fun v h => v = none ∧ ∃ (e : Addr) (W : List Int64), Keep h0 h [a] ∧ Exa Z h a "com/example/forward_planner/forwardplanner/model/State" ∧ Fld Z h a "com/example/forward_planner/forwardplanner/model/State" "words" "[J" (.ref e) ∧ Ary Z h e .long (W.map Value.long) ∧ h0.size ≤ e ∧ e < h.size ∧ n.toInt ≤ 64 * (W.length : Int) ∧ ∀ f : Nat, (own_bt W f = true ↔ ((f : Int) = t0.toInt ∨ (f : Int) = t1.toInt ∨ (f : Int) = t2.toInt)))) h_85 (0 + 1 + 0) (0 + 4 + 0) 64 #[.val (.ref a), .val (.int n), .val (.ref b), .val (.ref b), .val (.int (3 : Int32)), .val (.int (0 : Int32)), .val (.int t0)] []
  refine Go.aloadN (pc' := 65) d1_64 rfl rfl rfl ?_
  refine Go.getF (pc' := 68) (hw _ (List.mem_of_getElem? (i := 15) rfl)) f_97 d1_65 rfl ?_
  refine Go.iload (pc' := 70) d1_68 rfl rfl ?_
  refine Go.bipush (pc' := 72) (v := (6 : Int32)) d1_70 rfl rfl ?_
  refine Go.iushr (pc' := 73) d1_72 rfl ?_
  generalize ex_99 : (t0.toUInt32 >>> ((6 : Int32) &&& 31).toUInt32).toInt32 = x_99
  have k_100 : x_99.toInt = ((t0.toInt.toNat / 64 : Nat) : Int) := by
    rw [← ex_99]
    have : (6 : Int32).toInt = 6 := by decide
    have := c_iushr t0 (6 : Int32) 6 (by decide) (by decide)
    have := rng32 ((t0.toUInt32 >>> ((6 : Int32) &&& 31).toUInt32).toInt32)
    have := rng32 t0
    omega
  refine Go.dup2 (pc' := 74) d1_73 rfl rfl rfl ?_
  obtain ⟨w0, hw0⟩ : ∃ w, W0[(t0.toInt.toNat / 64)]? = some w := ⟨_, List.getElem?_eq_getElem (by omega)⟩
  refine Go.ldJ (pc' := 75) (k := (t0.toInt.toNat / 64)) (v := (.long w0)) f_89 (by omega) (by rw [List.getElem?_map, hw0]; rfl) d1_74 rfl ?_
  refine Go.lconst (pc' := 76) (v := (1 : Int64)) d1_75 rfl rfl ?_
  refine Go.iload (pc' := 78) d1_76 rfl rfl ?_
  refine Go.lshl (pc' := 79) d1_78 rfl ?_
  refine Go.lor (pc' := 80) d1_79 rfl ?_
  refine Go.stJ (pc' := 81) (k := (t0.toInt.toNat / 64)) f_89 (by omega) (by rw [List.length_map]; omega) d1_80 g_73 rfl ?_
  intro h_101 W_102 A_103
  have f_104 : Exa Z h_101 a "com/example/forward_planner/forwardplanner/model/State" := f_87.sm (Sm.wr W_102 n_71)
  have f_105 : Ary Z h_101 b .int [(.int t0), (.int t1), (.int t2)] := f_88.sm (Sm.wr W_102 n_72)
  have f_106 : Fld Z h_101 a "com/example/forward_planner/forwardplanner/model/State" "factCount" "I" (.int n) := f_96.sm (Sm.wr W_102 n_71)
  have f_107 : Fld Z h_101 a "com/example/forward_planner/forwardplanner/model/State" "words" "[J" (.ref a_66) := f_97.sm (Sm.wr W_102 n_71)
  have t_108 : a < h_101.size := Nat.lt_of_lt_of_le t_90 (Nat.le_of_eq W_102.size.symm)
  have t_109 : b < h_101.size := Nat.lt_of_lt_of_le t_91 (Nat.le_of_eq W_102.size.symm)
  have t_110 : a_66 < h_101.size := Nat.lt_of_lt_of_le t_92 (Nat.le_of_eq W_102.size.symm)
  have z_111 : n0 ≤ h_101.size := Nat.le_trans z_93 (Nat.le_of_eq W_102.size.symm)
  have b_112 : h0.size ≤ h_101.size := Nat.le_trans b_94 (Nat.le_of_eq W_102.size.symm)
  have K_113 : Keep h0 h_101 [a] := K_95.wr W_102 (Or.inr g_74)
  obtain ⟨W1, hW1⟩ : ∃ W : List Int64, W = W0.set (t0.toInt.toNat / 64) (w0 ||| ((1 : Int64) <<< (t0 &&& 0x3f).toInt64)) := ⟨_, rfl⟩
  have y1 : Ary Z h_101 a_66 .long (W1.map Value.long) := A_103.eq (by rw [hW1, List.map_set])
  have l1 : W1.length = k_63.toInt.toNat := by rw [hW1, List.length_set]; exact l0
  have b1 : ∀ f : Nat, (own_bt W1 f = true ↔ ((f : Int) = t0.toInt)) := fun f => by
    rw [hW1, own_set W0 t0 w0 (by omega) hw0 f, b0 f] <;> omega
  refine Go.iinc (pc' := 84) (w := (1 : Int32)) (Ls' := #[.val (.ref a), .val (.int n), .val (.ref b), .val (.ref b), .val (.int (3 : Int32)), .val (.int (1 : Int32)), .val (.int t0)]) d1_81 rfl rfl rfl rfl ?_
  refine Go.goto (pc' := 45) d1_84 (by decide) (by decide) ?_
  refine Go.iload (pc' := 47) d1_45 rfl rfl ?_
  refine Go.iload (pc' := 49) d1_47 rfl rfl ?_
  refine Go.icmp (pc1 := 87) (pc2 := 52) d1_49 (by decide) (by decide) rfl (fun (c_114 : (3 : Int) ≤ (1 : Int)) => ?_) (fun (c_114 : (1 : Int) < (3 : Int)) => ?_)
  · exact absurd c_114 (by decide)
  refine Go.aloadN (pc' := 53) d1_52 rfl rfl rfl ?_
  refine Go.iload (pc' := 55) d1_53 rfl rfl ?_
  refine Go.ldI (pc' := 56) (k := 1) (v := (.int t1)) f_105 rfl rfl d1_55 rfl ?_
  refine Go.istore (pc' := 58) (Ls' := #[.val (.ref a), .val (.int n), .val (.ref b), .val (.ref b), .val (.int (3 : Int32)), .val (.int (1 : Int32)), .val (.int t1)]) d1_56 rfl rfl ?_
  refine Go.aloadN (pc' := 59) d1_58 rfl rfl rfl ?_
  refine Go.iload (pc' := 61) d1_59 rfl rfl ?_
  refine Go.callP (pc' := 64) (argsL := [(.int t1)]) (rest := []) (W := 0) (hw _ (List.mem_of_getElem? (i := 17) rfl)) (hw _ (List.mem_of_getElem? (i := 18) rfl)) (hw _ (List.mem_of_getElem? (i := 19) rfl)) (hw _ (List.mem_of_getElem? (i := 5) rfl)) (hw _ (List.mem_of_getElem? (i := 20) rfl)) (hw _ (List.mem_of_getElem? (i := 24) rfl)) rfl (by decide) f_104 (m_c l Z a0 hw a t1 n h_101 n0 z_111 f_106 ht1) d1_61 rfl pd0 rfl rfl (Nat.le_of_eq rfl) (by decide) (by decide) (by decide) (by decide) rfl ?_
  rintro _ _ ⟨rfl, rfl⟩
  show (Go false l ({ frames := 1, cells := 1, slots := 4, locals := 13 } : Room) Z (⟨"com/example/forward_planner/forwardplanner/model/State", "<init>", "(I[I)V"⟩ : MethodName) prog_35_method_1_code 7 none n0 1 4 (fun v h => v = none ∧ ∃ (e : Addr) (W : List Int64), Keep h0 h [a] ∧ Exa Z h a "com/example/forward_planner/forwardplanner/model/State" ∧ Fld Z h a "com/example/forward_planner/forwardplanner/model/State" "words" "[J" (.ref e) ∧ Ary Z h e .long (W.map Value.long) ∧ h0.size ≤ e ∧ e < h.size ∧ n.toInt ≤ 64 * (W.length : Int) ∧ ∀ f : Nat, (own_bt W f = true ↔ ((f : Int) = t0.toInt ∨ (f : Int) = t1.toInt ∨ (f : Int) = t2.toInt)))) h_101 (0 + 1 + 0 + 0) (0 + 4 + 0 + 0) 64 #[.val (.ref a), .val (.int n), .val (.ref b), .val (.ref b), .val (.int (3 : Int32)), .val (.int (1 : Int32)), .val (.int t1)] []
  refine Go.aloadN (pc' := 65) d1_64 rfl rfl rfl ?_
  refine Go.getF (pc' := 68) (hw _ (List.mem_of_getElem? (i := 15) rfl)) f_107 d1_65 rfl ?_
  refine Go.iload (pc' := 70) d1_68 rfl rfl ?_
  refine Go.bipush (pc' := 72) (v := (6 : Int32)) d1_70 rfl rfl ?_
  refine Go.iushr (pc' := 73) d1_72 rfl ?_
  generalize ex_115 : (t1.toUInt32 >>> ((6 : Int32) &&& 31).toUInt32).toInt32 = x_115
  have k_116 : x_115.toInt = ((t1.toInt.toNat / 64 : Nat) : Int) := by
    rw [← ex_115]
    have : (6 : Int32).toInt = 6 := by decide
    have := c_iushr t1 (6 : Int32) 6 (by decide) (by decide)
    have := rng32 ((t1.toUInt32 >>> ((6 : Int32) &&& 31).toUInt32).toInt32)
    have := rng32 t1
    omega
  refine Go.dup2 (pc' := 74) d1_73 rfl rfl rfl ?_
  obtain ⟨w1, hw1⟩ : ∃ w, W1[(t1.toInt.toNat / 64)]? = some w := ⟨_, List.getElem?_eq_getElem (by omega)⟩
  refine Go.ldJ (pc' := 75) (k := (t1.toInt.toNat / 64)) (v := (.long w1)) y1 (by omega) (by rw [List.getElem?_map, hw1]; rfl) d1_74 rfl ?_
  refine Go.lconst (pc' := 76) (v := (1 : Int64)) d1_75 rfl rfl ?_
  refine Go.iload (pc' := 78) d1_76 rfl rfl ?_
  refine Go.lshl (pc' := 79) d1_78 rfl ?_
  refine Go.lor (pc' := 80) d1_79 rfl ?_
  refine Go.stJ (pc' := 81) (k := (t1.toInt.toNat / 64)) y1 (by omega) (by rw [List.length_map]; omega) d1_80 g_73 rfl ?_
  intro h_117 W_118 A_119
  have f_120 : Exa Z h_117 a "com/example/forward_planner/forwardplanner/model/State" := f_104.sm (Sm.wr W_118 n_71)
  have f_121 : Ary Z h_117 b .int [(.int t0), (.int t1), (.int t2)] := f_105.sm (Sm.wr W_118 n_72)
  have f_122 : Fld Z h_117 a "com/example/forward_planner/forwardplanner/model/State" "factCount" "I" (.int n) := f_106.sm (Sm.wr W_118 n_71)
  have f_123 : Fld Z h_117 a "com/example/forward_planner/forwardplanner/model/State" "words" "[J" (.ref a_66) := f_107.sm (Sm.wr W_118 n_71)
  have t_124 : a < h_117.size := Nat.lt_of_lt_of_le t_108 (Nat.le_of_eq W_118.size.symm)
  have t_125 : b < h_117.size := Nat.lt_of_lt_of_le t_109 (Nat.le_of_eq W_118.size.symm)
  have t_126 : a_66 < h_117.size := Nat.lt_of_lt_of_le t_110 (Nat.le_of_eq W_118.size.symm)
  have z_127 : n0 ≤ h_117.size := Nat.le_trans z_111 (Nat.le_of_eq W_118.size.symm)
  have b_128 : h0.size ≤ h_117.size := Nat.le_trans b_112 (Nat.le_of_eq W_118.size.symm)
  have K_129 : Keep h0 h_117 [a] := K_113.wr W_118 (Or.inr g_74)
  obtain ⟨W2, hW2⟩ : ∃ W : List Int64, W = W1.set (t1.toInt.toNat / 64) (w1 ||| ((1 : Int64) <<< (t1 &&& 0x3f).toInt64)) := ⟨_, rfl⟩
  have y2 : Ary Z h_117 a_66 .long (W2.map Value.long) := A_119.eq (by rw [hW2, List.map_set])
  have l2 : W2.length = k_63.toInt.toNat := by rw [hW2, List.length_set]; exact l1
  have b2 : ∀ f : Nat, (own_bt W2 f = true ↔ ((f : Int) = t0.toInt ∨ (f : Int) = t1.toInt)) := fun f => by
    rw [hW2, own_set W1 t1 w1 (by omega) hw1 f, b1 f] <;> omega
  refine Go.iinc (pc' := 84) (w := (2 : Int32)) (Ls' := #[.val (.ref a), .val (.int n), .val (.ref b), .val (.ref b), .val (.int (3 : Int32)), .val (.int (2 : Int32)), .val (.int t1)]) d1_81 rfl rfl rfl rfl ?_
  refine Go.goto (pc' := 45) d1_84 (by decide) (by decide) ?_
  refine Go.iload (pc' := 47) d1_45 rfl rfl ?_
  refine Go.iload (pc' := 49) d1_47 rfl rfl ?_
  refine Go.icmp (pc1 := 87) (pc2 := 52) d1_49 (by decide) (by decide) rfl (fun (c_130 : (3 : Int) ≤ (2 : Int)) => ?_) (fun (c_130 : (2 : Int) < (3 : Int)) => ?_)
  · exact absurd c_130 (by decide)
  refine Go.aloadN (pc' := 53) d1_52 rfl rfl rfl ?_
  refine Go.iload (pc' := 55) d1_53 rfl rfl ?_
  refine Go.ldI (pc' := 56) (k := 2) (v := (.int t2)) f_121 rfl rfl d1_55 rfl ?_
  refine Go.istore (pc' := 58) (Ls' := #[.val (.ref a), .val (.int n), .val (.ref b), .val (.ref b), .val (.int (3 : Int32)), .val (.int (2 : Int32)), .val (.int t2)]) d1_56 rfl rfl ?_
  refine Go.aloadN (pc' := 59) d1_58 rfl rfl rfl ?_
  refine Go.iload (pc' := 61) d1_59 rfl rfl ?_
  refine Go.callP (pc' := 64) (argsL := [(.int t2)]) (rest := []) (W := 0) (hw _ (List.mem_of_getElem? (i := 17) rfl)) (hw _ (List.mem_of_getElem? (i := 18) rfl)) (hw _ (List.mem_of_getElem? (i := 19) rfl)) (hw _ (List.mem_of_getElem? (i := 5) rfl)) (hw _ (List.mem_of_getElem? (i := 20) rfl)) (hw _ (List.mem_of_getElem? (i := 24) rfl)) rfl (by decide) f_120 (m_c l Z a0 hw a t2 n h_117 n0 z_127 f_122 ht2) d1_61 rfl pd0 rfl rfl (Nat.le_of_eq rfl) (by decide) (by decide) (by decide) (by decide) rfl ?_
  rintro _ _ ⟨rfl, rfl⟩
  show (Go false l ({ frames := 1, cells := 1, slots := 4, locals := 13 } : Room) Z (⟨"com/example/forward_planner/forwardplanner/model/State", "<init>", "(I[I)V"⟩ : MethodName) prog_35_method_1_code 7 none n0 1 4 (fun v h => v = none ∧ ∃ (e : Addr) (W : List Int64), Keep h0 h [a] ∧ Exa Z h a "com/example/forward_planner/forwardplanner/model/State" ∧ Fld Z h a "com/example/forward_planner/forwardplanner/model/State" "words" "[J" (.ref e) ∧ Ary Z h e .long (W.map Value.long) ∧ h0.size ≤ e ∧ e < h.size ∧ n.toInt ≤ 64 * (W.length : Int) ∧ ∀ f : Nat, (own_bt W f = true ↔ ((f : Int) = t0.toInt ∨ (f : Int) = t1.toInt ∨ (f : Int) = t2.toInt)))) h_117 (0 + 1 + 0 + 0 + 0) (0 + 4 + 0 + 0 + 0) 64 #[.val (.ref a), .val (.int n), .val (.ref b), .val (.ref b), .val (.int (3 : Int32)), .val (.int (2 : Int32)), .val (.int t2)] []
  refine Go.aloadN (pc' := 65) d1_64 rfl rfl rfl ?_
  refine Go.getF (pc' := 68) (hw _ (List.mem_of_getElem? (i := 15) rfl)) f_123 d1_65 rfl ?_
  refine Go.iload (pc' := 70) d1_68 rfl rfl ?_
  refine Go.bipush (pc' := 72) (v := (6 : Int32)) d1_70 rfl rfl ?_
  refine Go.iushr (pc' := 73) d1_72 rfl ?_
  generalize ex_131 : (t2.toUInt32 >>> ((6 : Int32) &&& 31).toUInt32).toInt32 = x_131
  have k_132 : x_131.toInt = ((t2.toInt.toNat / 64 : Nat) : Int) := by
    rw [← ex_131]
    have : (6 : Int32).toInt = 6 := by decide
    have := c_iushr t2 (6 : Int32) 6 (by decide) (by decide)
    have := rng32 ((t2.toUInt32 >>> ((6 : Int32) &&& 31).toUInt32).toInt32)
    have := rng32 t2
    omega
  refine Go.dup2 (pc' := 74) d1_73 rfl rfl rfl ?_
  obtain ⟨w2, hw2⟩ : ∃ w, W2[(t2.toInt.toNat / 64)]? = some w := ⟨_, List.getElem?_eq_getElem (by omega)⟩
  refine Go.ldJ (pc' := 75) (k := (t2.toInt.toNat / 64)) (v := (.long w2)) y2 (by omega) (by rw [List.getElem?_map, hw2]; rfl) d1_74 rfl ?_
  refine Go.lconst (pc' := 76) (v := (1 : Int64)) d1_75 rfl rfl ?_
  refine Go.iload (pc' := 78) d1_76 rfl rfl ?_
  refine Go.lshl (pc' := 79) d1_78 rfl ?_
  refine Go.lor (pc' := 80) d1_79 rfl ?_
  refine Go.stJ (pc' := 81) (k := (t2.toInt.toNat / 64)) y2 (by omega) (by rw [List.length_map]; omega) d1_80 g_73 rfl ?_
  intro h_133 W_134 A_135
  have f_136 : Exa Z h_133 a "com/example/forward_planner/forwardplanner/model/State" := f_120.sm (Sm.wr W_134 n_71)
  have f_137 : Ary Z h_133 b .int [(.int t0), (.int t1), (.int t2)] := f_121.sm (Sm.wr W_134 n_72)
  have f_138 : Fld Z h_133 a "com/example/forward_planner/forwardplanner/model/State" "factCount" "I" (.int n) := f_122.sm (Sm.wr W_134 n_71)
  have f_139 : Fld Z h_133 a "com/example/forward_planner/forwardplanner/model/State" "words" "[J" (.ref a_66) := f_123.sm (Sm.wr W_134 n_71)
  have t_140 : a < h_133.size := Nat.lt_of_lt_of_le t_124 (Nat.le_of_eq W_134.size.symm)
  have t_141 : b < h_133.size := Nat.lt_of_lt_of_le t_125 (Nat.le_of_eq W_134.size.symm)
  have t_142 : a_66 < h_133.size := Nat.lt_of_lt_of_le t_126 (Nat.le_of_eq W_134.size.symm)
  have z_143 : n0 ≤ h_133.size := Nat.le_trans z_127 (Nat.le_of_eq W_134.size.symm)
  have b_144 : h0.size ≤ h_133.size := Nat.le_trans b_128 (Nat.le_of_eq W_134.size.symm)
  have K_145 : Keep h0 h_133 [a] := K_129.wr W_134 (Or.inr g_74)
  obtain ⟨W3, hW3⟩ : ∃ W : List Int64, W = W2.set (t2.toInt.toNat / 64) (w2 ||| ((1 : Int64) <<< (t2 &&& 0x3f).toInt64)) := ⟨_, rfl⟩
  have y3 : Ary Z h_133 a_66 .long (W3.map Value.long) := A_135.eq (by rw [hW3, List.map_set])
  have l3 : W3.length = k_63.toInt.toNat := by rw [hW3, List.length_set]; exact l2
  have b3 : ∀ f : Nat, (own_bt W3 f = true ↔ ((f : Int) = t0.toInt ∨ (f : Int) = t1.toInt ∨ (f : Int) = t2.toInt)) := fun f => by
    rw [hW3, own_set W2 t2 w2 (by omega) hw2 f, b2 f] <;> omega
  refine Go.iinc (pc' := 84) (w := (3 : Int32)) (Ls' := #[.val (.ref a), .val (.int n), .val (.ref b), .val (.ref b), .val (.int (3 : Int32)), .val (.int (3 : Int32)), .val (.int t2)]) d1_81 rfl rfl rfl rfl ?_
  refine Go.goto (pc' := 45) d1_84 (by decide) (by decide) ?_
  refine Go.iload (pc' := 47) d1_45 rfl rfl ?_
  refine Go.iload (pc' := 49) d1_47 rfl rfl ?_
  refine Go.icmp (pc1 := 87) (pc2 := 52) d1_49 (by decide) (by decide) rfl (fun (c_146 : (3 : Int) ≤ (3 : Int)) => ?_) (fun (c_146 : (3 : Int) < (3 : Int)) => ?_)
  rotate_left
  · exact absurd c_146 (by decide)
  exact Go.ret0 d1_87 rfl ⟨rfl, a_66, W3, K_145, f_136, f_139, y3, g_74, t_142, (by omega), b3⟩ (by decide) (by decide)
set_option maxRecDepth 65536 in
set_option maxHeartbeats 40000000 in
theorem m_h0 (l : Launch) (Z : State) (a0 : Array Value) (hw : ∀ d ∈ tables_1, d.before a0 Z = true) (a e b : Addr) (W : List Int64) (h0 : Heap) (n0 : Nat) (z0 : n0 ≤ h0.size) (hE : Exa Z h0 a "com/example/forward_planner/forwardplanner/model/State") (hG : Fld Z h0 a "com/example/forward_planner/forwardplanner/model/State" "words" "[J" (.ref e)) (hV : Ary Z h0 e .long (W.map Value.long)) (hA : Ary Z h0 b .int [])  : Mt false l Z (⟨"com/example/forward_planner/forwardplanner/model/State", "holdsAll", "([I)Z"⟩ : MethodName) prog_35_method_6_code 6 (some .boolean) ({ frames := 0, cells := 0, slots := 0, locals := 0 } : Room) n0 (fun v h => ∃ r : Int32, v = some (.int r) ∧ h0 = h ∧ (r.toInt = 0 ∨ r.toInt = 1) ∧ (r.toInt = 1 ↔ ((0 : Int) = 0))) h0 #[(.ref a), (.ref b)] := by
  refine Mt.go (Ls := #[.val (.ref a), .val (.ref b), .unset, .unset, .unset, .unset]) (plainFor_of_name pn0) (fun m => by first | (simp [entryFrame, mkF, argsToLocals, Value.category]; done) | rfl) ?_
  show (Go false l ({ frames := 0, cells := 0, slots := 0, locals := 0 } : Room) Z (⟨"com/example/forward_planner/forwardplanner/model/State", "holdsAll", "([I)Z"⟩ : MethodName) prog_35_method_6_code 6 (some .boolean) n0 0 0 (fun v h => ∃ r : Int32, v = some (.int r) ∧ h0 = h ∧ (r.toInt = 0 ∨ r.toInt = 1) ∧ (r.toInt = 1 ↔ ((0 : Int) = 0)))) h0 0 0 0 #[.val (.ref a), .val (.ref b), .unset, .unset, .unset, .unset] []
  refine Go.aloadN (pc' := 1) d4_0 rfl rfl rfl ?_
  refine Go.astoreN (pc' := 2) (Ls' := #[.val (.ref a), .val (.ref b), .val (.ref b), .unset, .unset, .unset]) d4_1 rfl rfl rfl ?_
  refine Go.aloadN (pc' := 3) d4_2 rfl rfl rfl ?_
  refine Go.alen (pc' := 4) (z := (0 : Int32)) hA rfl d4_3 rfl ?_
  refine Go.istoreN (pc' := 5) (Ls' := #[.val (.ref a), .val (.ref b), .val (.ref b), .val (.int (0 : Int32)), .unset, .unset]) d4_4 rfl rfl ?_
  refine Go.iconst (pc' := 6) (v := (0 : Int32)) d4_5 rfl rfl ?_
  refine Go.istore (pc' := 8) (Ls' := #[.val (.ref a), .val (.ref b), .val (.ref b), .val (.int (0 : Int32)), .val (.int (0 : Int32)), .unset]) d4_6 rfl rfl ?_
  refine Go.iload (pc' := 10) d4_8 rfl rfl ?_
  refine Go.iloadN (pc' := 11) d4_10 rfl rfl ?_
  refine Go.icmp (pc1 := 48) (pc2 := 14) d4_11 (by decide) (by decide) rfl (fun (c_147 : (0 : Int) ≤ (0 : Int)) => ?_) (fun (c_147 : (0 : Int) < (0 : Int)) => ?_)
  rotate_left
  · exact absurd c_147 (by decide)
  refine Go.iconst (pc' := 49) (v := (1 : Int32)) d4_48 rfl rfl ?_
  exact Go.retN (t := .boolean) d4_49 rfl (by simp) rfl ⟨_, rfl, rfl, Or.inr rfl, ⟨fun _ => rfl, fun _ => rfl⟩⟩ (by decide) (by decide)
set_option maxRecDepth 65536 in
set_option maxHeartbeats 40000000 in
theorem m_h1 (l : Launch) (Z : State) (a0 : Array Value) (hw : ∀ d ∈ tables_1, d.before a0 Z = true) (a e b : Addr) (W : List Int64) (q0 : Int32) (h0 : Heap) (n0 : Nat) (z0 : n0 ≤ h0.size) (hE : Exa Z h0 a "com/example/forward_planner/forwardplanner/model/State") (hG : Fld Z h0 a "com/example/forward_planner/forwardplanner/model/State" "words" "[J" (.ref e)) (hV : Ary Z h0 e .long (W.map Value.long)) (hA : Ary Z h0 b .int [.int q0]) (hq0 : 0 ≤ q0.toInt ∧ q0.toInt < 64 * (W.length : Int)) : Mt false l Z (⟨"com/example/forward_planner/forwardplanner/model/State", "holdsAll", "([I)Z"⟩ : MethodName) prog_35_method_6_code 6 (some .boolean) ({ frames := 0, cells := 0, slots := 0, locals := 0 } : Room) n0 (fun v h => ∃ r : Int32, v = some (.int r) ∧ h0 = h ∧ (r.toInt = 0 ∨ r.toInt = 1) ∧ (r.toInt = 1 ↔ (own_bt W q0.toInt.toNat = true))) h0 #[(.ref a), (.ref b)] := by
  refine Mt.go (Ls := #[.val (.ref a), .val (.ref b), .unset, .unset, .unset, .unset]) (plainFor_of_name pn0) (fun m => by first | (simp [entryFrame, mkF, argsToLocals, Value.category]; done) | rfl) ?_
  show (Go false l ({ frames := 0, cells := 0, slots := 0, locals := 0 } : Room) Z (⟨"com/example/forward_planner/forwardplanner/model/State", "holdsAll", "([I)Z"⟩ : MethodName) prog_35_method_6_code 6 (some .boolean) n0 0 0 (fun v h => ∃ r : Int32, v = some (.int r) ∧ h0 = h ∧ (r.toInt = 0 ∨ r.toInt = 1) ∧ (r.toInt = 1 ↔ (own_bt W q0.toInt.toNat = true)))) h0 0 0 0 #[.val (.ref a), .val (.ref b), .unset, .unset, .unset, .unset] []
  refine Go.aloadN (pc' := 1) d4_0 rfl rfl rfl ?_
  refine Go.astoreN (pc' := 2) (Ls' := #[.val (.ref a), .val (.ref b), .val (.ref b), .unset, .unset, .unset]) d4_1 rfl rfl rfl ?_
  refine Go.aloadN (pc' := 3) d4_2 rfl rfl rfl ?_
  refine Go.alen (pc' := 4) (z := (1 : Int32)) hA rfl d4_3 rfl ?_
  refine Go.istoreN (pc' := 5) (Ls' := #[.val (.ref a), .val (.ref b), .val (.ref b), .val (.int (1 : Int32)), .unset, .unset]) d4_4 rfl rfl ?_
  refine Go.iconst (pc' := 6) (v := (0 : Int32)) d4_5 rfl rfl ?_
  refine Go.istore (pc' := 8) (Ls' := #[.val (.ref a), .val (.ref b), .val (.ref b), .val (.int (1 : Int32)), .val (.int (0 : Int32)), .unset]) d4_6 rfl rfl ?_
  refine Go.iload (pc' := 10) d4_8 rfl rfl ?_
  refine Go.iloadN (pc' := 11) d4_10 rfl rfl ?_
  refine Go.icmp (pc1 := 48) (pc2 := 14) d4_11 (by decide) (by decide) rfl (fun (c_148 : (1 : Int) ≤ (0 : Int)) => ?_) (fun (c_148 : (0 : Int) < (1 : Int)) => ?_)
  · exact absurd c_148 (by decide)
  refine Go.aloadN (pc' := 15) d4_14 rfl rfl rfl ?_
  refine Go.iload (pc' := 17) d4_15 rfl rfl ?_
  refine Go.ldI (pc' := 18) (k := 0) (v := (.int q0)) hA rfl rfl d4_17 rfl ?_
  refine Go.istore (pc' := 20) (Ls' := #[.val (.ref a), .val (.ref b), .val (.ref b), .val (.int (1 : Int32)), .val (.int (0 : Int32)), .val (.int q0)]) d4_18 rfl rfl ?_
  refine Go.aloadN (pc' := 21) d4_20 rfl rfl rfl ?_
  refine Go.getF (pc' := 24) (hw _ (List.mem_of_getElem? (i := 15) rfl)) hG d4_21 rfl ?_
  refine Go.iload (pc' := 26) d4_24 rfl rfl ?_
  refine Go.bipush (pc' := 28) (v := (6 : Int32)) d4_26 rfl rfl ?_
  refine Go.iushr (pc' := 29) d4_28 rfl ?_
  generalize ex_149 : (q0.toUInt32 >>> ((6 : Int32) &&& 31).toUInt32).toInt32 = x_149
  have k_150 : x_149.toInt = ((q0.toInt.toNat / 64 : Nat) : Int) := by
    rw [← ex_149]
    have : (6 : Int32).toInt = 6 := by decide
    have := c_iushr q0 (6 : Int32) 6 (by decide) (by decide)
    have := rng32 ((q0.toUInt32 >>> ((6 : Int32) &&& 31).toUInt32).toInt32)
    have := rng32 q0
    omega
  obtain ⟨w0, hw0⟩ : ∃ w, W[(q0.toInt.toNat / 64)]? = some w := ⟨_, List.getElem?_eq_getElem (by omega)⟩
  have o0 : (own_bt W q0.toInt.toNat = true ↔ w0.toBitVec.getLsbD (q0.toInt.toNat % 64) = true) := by unfold own_bt; rw [List.getD_eq_getElem?_getD, hw0]; rfl
  refine Go.ldJ (pc' := 30) (k := (q0.toInt.toNat / 64)) (v := (.long w0)) hV (by omega) (by rw [List.getElem?_map, hw0]; rfl) d4_29 rfl ?_
  refine Go.lconst (pc' := 31) (v := (1 : Int64)) d4_30 rfl rfl ?_
  refine Go.iload (pc' := 33) d4_31 rfl rfl ?_
  refine Go.lshl (pc' := 34) d4_33 rfl ?_
  refine Go.land (pc' := 35) d4_34 rfl ?_
  refine Go.lconst (pc' := 36) (v := (0 : Int64)) d4_35 rfl rfl ?_
  refine Go.lcmp (pc' := 37) d4_36 rfl ?_
  refine Go.ifw (pc1 := 42) (pc2 := 40) d4_37 (by decide) (by decide) rfl (fun (c_151 : (w0 &&& ((1 : Int64) <<< (q0 &&& 0x3f).toInt64)).toInt ≠ (0 : Int)) => ?_) (fun (c_151 : (w0 &&& ((1 : Int64) <<< (q0 &&& 0x3f).toInt64)).toInt = (0 : Int)) => ?_)
  · have d0 : own_bt W q0.toInt.toNat = true := o0.mpr ((own_test w0 q0 (by omega)).mp c_151)
    refine Go.iinc (pc' := 45) (w := (1 : Int32)) (Ls' := #[.val (.ref a), .val (.ref b), .val (.ref b), .val (.int (1 : Int32)), .val (.int (1 : Int32)), .val (.int q0)]) d4_42 rfl rfl rfl rfl ?_
    refine Go.goto (pc' := 8) d4_45 (by decide) (by decide) ?_
    refine Go.iload (pc' := 10) d4_8 rfl rfl ?_
    refine Go.iloadN (pc' := 11) d4_10 rfl rfl ?_
    refine Go.icmp (pc1 := 48) (pc2 := 14) d4_11 (by decide) (by decide) rfl (fun (c_152 : (1 : Int) ≤ (1 : Int)) => ?_) (fun (c_152 : (1 : Int) < (1 : Int)) => ?_)
    rotate_left
    · exact absurd c_152 (by decide)
    refine Go.iconst (pc' := 49) (v := (1 : Int32)) d4_48 rfl rfl ?_
    exact Go.retN (t := .boolean) d4_49 rfl (by simp) rfl ⟨_, rfl, rfl, Or.inr rfl, ⟨fun _ => d0, fun _ => rfl⟩⟩ (by decide) (by decide)
  · refine Go.iconst (pc' := 41) (v := (0 : Int32)) d4_40 rfl rfl ?_
    have d0 : ¬ own_bt W q0.toInt.toNat = true := fun z => (own_test w0 q0 (by omega)).mpr (o0.mp z) c_151
    exact Go.retN (t := .boolean) d4_41 rfl (by simp) rfl ⟨_, rfl, rfl, Or.inl rfl, ⟨fun z => absurd z (by decide), fun z => absurd (z) d0⟩⟩ (by decide) (by decide)
set_option maxRecDepth 65536 in
set_option maxHeartbeats 40000000 in
theorem m_h2 (l : Launch) (Z : State) (a0 : Array Value) (hw : ∀ d ∈ tables_1, d.before a0 Z = true) (a e b : Addr) (W : List Int64) (q0 q1 : Int32) (h0 : Heap) (n0 : Nat) (z0 : n0 ≤ h0.size) (hE : Exa Z h0 a "com/example/forward_planner/forwardplanner/model/State") (hG : Fld Z h0 a "com/example/forward_planner/forwardplanner/model/State" "words" "[J" (.ref e)) (hV : Ary Z h0 e .long (W.map Value.long)) (hA : Ary Z h0 b .int [.int q0, .int q1]) (hq0 : 0 ≤ q0.toInt ∧ q0.toInt < 64 * (W.length : Int)) (hq1 : 0 ≤ q1.toInt ∧ q1.toInt < 64 * (W.length : Int)) : Mt false l Z (⟨"com/example/forward_planner/forwardplanner/model/State", "holdsAll", "([I)Z"⟩ : MethodName) prog_35_method_6_code 6 (some .boolean) ({ frames := 0, cells := 0, slots := 0, locals := 0 } : Room) n0 (fun v h => ∃ r : Int32, v = some (.int r) ∧ h0 = h ∧ (r.toInt = 0 ∨ r.toInt = 1) ∧ (r.toInt = 1 ↔ (own_bt W q0.toInt.toNat = true ∧ own_bt W q1.toInt.toNat = true))) h0 #[(.ref a), (.ref b)] := by
  refine Mt.go (Ls := #[.val (.ref a), .val (.ref b), .unset, .unset, .unset, .unset]) (plainFor_of_name pn0) (fun m => by first | (simp [entryFrame, mkF, argsToLocals, Value.category]; done) | rfl) ?_
  show (Go false l ({ frames := 0, cells := 0, slots := 0, locals := 0 } : Room) Z (⟨"com/example/forward_planner/forwardplanner/model/State", "holdsAll", "([I)Z"⟩ : MethodName) prog_35_method_6_code 6 (some .boolean) n0 0 0 (fun v h => ∃ r : Int32, v = some (.int r) ∧ h0 = h ∧ (r.toInt = 0 ∨ r.toInt = 1) ∧ (r.toInt = 1 ↔ (own_bt W q0.toInt.toNat = true ∧ own_bt W q1.toInt.toNat = true)))) h0 0 0 0 #[.val (.ref a), .val (.ref b), .unset, .unset, .unset, .unset] []
  refine Go.aloadN (pc' := 1) d4_0 rfl rfl rfl ?_
  refine Go.astoreN (pc' := 2) (Ls' := #[.val (.ref a), .val (.ref b), .val (.ref b), .unset, .unset, .unset]) d4_1 rfl rfl rfl ?_
  refine Go.aloadN (pc' := 3) d4_2 rfl rfl rfl ?_
  refine Go.alen (pc' := 4) (z := (2 : Int32)) hA rfl d4_3 rfl ?_
  refine Go.istoreN (pc' := 5) (Ls' := #[.val (.ref a), .val (.ref b), .val (.ref b), .val (.int (2 : Int32)), .unset, .unset]) d4_4 rfl rfl ?_
  refine Go.iconst (pc' := 6) (v := (0 : Int32)) d4_5 rfl rfl ?_
  refine Go.istore (pc' := 8) (Ls' := #[.val (.ref a), .val (.ref b), .val (.ref b), .val (.int (2 : Int32)), .val (.int (0 : Int32)), .unset]) d4_6 rfl rfl ?_
  refine Go.iload (pc' := 10) d4_8 rfl rfl ?_
  refine Go.iloadN (pc' := 11) d4_10 rfl rfl ?_
  refine Go.icmp (pc1 := 48) (pc2 := 14) d4_11 (by decide) (by decide) rfl (fun (c_153 : (2 : Int) ≤ (0 : Int)) => ?_) (fun (c_153 : (0 : Int) < (2 : Int)) => ?_)
  · exact absurd c_153 (by decide)
  refine Go.aloadN (pc' := 15) d4_14 rfl rfl rfl ?_
  refine Go.iload (pc' := 17) d4_15 rfl rfl ?_
  refine Go.ldI (pc' := 18) (k := 0) (v := (.int q0)) hA rfl rfl d4_17 rfl ?_
  refine Go.istore (pc' := 20) (Ls' := #[.val (.ref a), .val (.ref b), .val (.ref b), .val (.int (2 : Int32)), .val (.int (0 : Int32)), .val (.int q0)]) d4_18 rfl rfl ?_
  refine Go.aloadN (pc' := 21) d4_20 rfl rfl rfl ?_
  refine Go.getF (pc' := 24) (hw _ (List.mem_of_getElem? (i := 15) rfl)) hG d4_21 rfl ?_
  refine Go.iload (pc' := 26) d4_24 rfl rfl ?_
  refine Go.bipush (pc' := 28) (v := (6 : Int32)) d4_26 rfl rfl ?_
  refine Go.iushr (pc' := 29) d4_28 rfl ?_
  generalize ex_154 : (q0.toUInt32 >>> ((6 : Int32) &&& 31).toUInt32).toInt32 = x_154
  have k_155 : x_154.toInt = ((q0.toInt.toNat / 64 : Nat) : Int) := by
    rw [← ex_154]
    have : (6 : Int32).toInt = 6 := by decide
    have := c_iushr q0 (6 : Int32) 6 (by decide) (by decide)
    have := rng32 ((q0.toUInt32 >>> ((6 : Int32) &&& 31).toUInt32).toInt32)
    have := rng32 q0
    omega
  obtain ⟨w0, hw0⟩ : ∃ w, W[(q0.toInt.toNat / 64)]? = some w := ⟨_, List.getElem?_eq_getElem (by omega)⟩
  have o0 : (own_bt W q0.toInt.toNat = true ↔ w0.toBitVec.getLsbD (q0.toInt.toNat % 64) = true) := by unfold own_bt; rw [List.getD_eq_getElem?_getD, hw0]; rfl
  refine Go.ldJ (pc' := 30) (k := (q0.toInt.toNat / 64)) (v := (.long w0)) hV (by omega) (by rw [List.getElem?_map, hw0]; rfl) d4_29 rfl ?_
  refine Go.lconst (pc' := 31) (v := (1 : Int64)) d4_30 rfl rfl ?_
  refine Go.iload (pc' := 33) d4_31 rfl rfl ?_
  refine Go.lshl (pc' := 34) d4_33 rfl ?_
  refine Go.land (pc' := 35) d4_34 rfl ?_
  refine Go.lconst (pc' := 36) (v := (0 : Int64)) d4_35 rfl rfl ?_
  refine Go.lcmp (pc' := 37) d4_36 rfl ?_
  refine Go.ifw (pc1 := 42) (pc2 := 40) d4_37 (by decide) (by decide) rfl (fun (c_156 : (w0 &&& ((1 : Int64) <<< (q0 &&& 0x3f).toInt64)).toInt ≠ (0 : Int)) => ?_) (fun (c_156 : (w0 &&& ((1 : Int64) <<< (q0 &&& 0x3f).toInt64)).toInt = (0 : Int)) => ?_)
  · have d0 : own_bt W q0.toInt.toNat = true := o0.mpr ((own_test w0 q0 (by omega)).mp c_156)
    refine Go.iinc (pc' := 45) (w := (1 : Int32)) (Ls' := #[.val (.ref a), .val (.ref b), .val (.ref b), .val (.int (2 : Int32)), .val (.int (1 : Int32)), .val (.int q0)]) d4_42 rfl rfl rfl rfl ?_
    refine Go.goto (pc' := 8) d4_45 (by decide) (by decide) ?_
    refine Go.iload (pc' := 10) d4_8 rfl rfl ?_
    refine Go.iloadN (pc' := 11) d4_10 rfl rfl ?_
    refine Go.icmp (pc1 := 48) (pc2 := 14) d4_11 (by decide) (by decide) rfl (fun (c_157 : (2 : Int) ≤ (1 : Int)) => ?_) (fun (c_157 : (1 : Int) < (2 : Int)) => ?_)
    · exact absurd c_157 (by decide)
    refine Go.aloadN (pc' := 15) d4_14 rfl rfl rfl ?_
    refine Go.iload (pc' := 17) d4_15 rfl rfl ?_
    refine Go.ldI (pc' := 18) (k := 1) (v := (.int q1)) hA rfl rfl d4_17 rfl ?_
    refine Go.istore (pc' := 20) (Ls' := #[.val (.ref a), .val (.ref b), .val (.ref b), .val (.int (2 : Int32)), .val (.int (1 : Int32)), .val (.int q1)]) d4_18 rfl rfl ?_
    refine Go.aloadN (pc' := 21) d4_20 rfl rfl rfl ?_
    refine Go.getF (pc' := 24) (hw _ (List.mem_of_getElem? (i := 15) rfl)) hG d4_21 rfl ?_
    refine Go.iload (pc' := 26) d4_24 rfl rfl ?_
    refine Go.bipush (pc' := 28) (v := (6 : Int32)) d4_26 rfl rfl ?_
    refine Go.iushr (pc' := 29) d4_28 rfl ?_
    generalize ex_158 : (q1.toUInt32 >>> ((6 : Int32) &&& 31).toUInt32).toInt32 = x_158
    have k_159 : x_158.toInt = ((q1.toInt.toNat / 64 : Nat) : Int) := by
      rw [← ex_158]
      have : (6 : Int32).toInt = 6 := by decide
      have := c_iushr q1 (6 : Int32) 6 (by decide) (by decide)
      have := rng32 ((q1.toUInt32 >>> ((6 : Int32) &&& 31).toUInt32).toInt32)
      have := rng32 q1
      omega
    obtain ⟨w1, hw1⟩ : ∃ w, W[(q1.toInt.toNat / 64)]? = some w := ⟨_, List.getElem?_eq_getElem (by omega)⟩
    have o1 : (own_bt W q1.toInt.toNat = true ↔ w1.toBitVec.getLsbD (q1.toInt.toNat % 64) = true) := by unfold own_bt; rw [List.getD_eq_getElem?_getD, hw1]; rfl
    refine Go.ldJ (pc' := 30) (k := (q1.toInt.toNat / 64)) (v := (.long w1)) hV (by omega) (by rw [List.getElem?_map, hw1]; rfl) d4_29 rfl ?_
    refine Go.lconst (pc' := 31) (v := (1 : Int64)) d4_30 rfl rfl ?_
    refine Go.iload (pc' := 33) d4_31 rfl rfl ?_
    refine Go.lshl (pc' := 34) d4_33 rfl ?_
    refine Go.land (pc' := 35) d4_34 rfl ?_
    refine Go.lconst (pc' := 36) (v := (0 : Int64)) d4_35 rfl rfl ?_
    refine Go.lcmp (pc' := 37) d4_36 rfl ?_
    refine Go.ifw (pc1 := 42) (pc2 := 40) d4_37 (by decide) (by decide) rfl (fun (c_160 : (w1 &&& ((1 : Int64) <<< (q1 &&& 0x3f).toInt64)).toInt ≠ (0 : Int)) => ?_) (fun (c_160 : (w1 &&& ((1 : Int64) <<< (q1 &&& 0x3f).toInt64)).toInt = (0 : Int)) => ?_)
    · have d1 : own_bt W q1.toInt.toNat = true := o1.mpr ((own_test w1 q1 (by omega)).mp c_160)
      refine Go.iinc (pc' := 45) (w := (2 : Int32)) (Ls' := #[.val (.ref a), .val (.ref b), .val (.ref b), .val (.int (2 : Int32)), .val (.int (2 : Int32)), .val (.int q1)]) d4_42 rfl rfl rfl rfl ?_
      refine Go.goto (pc' := 8) d4_45 (by decide) (by decide) ?_
      refine Go.iload (pc' := 10) d4_8 rfl rfl ?_
      refine Go.iloadN (pc' := 11) d4_10 rfl rfl ?_
      refine Go.icmp (pc1 := 48) (pc2 := 14) d4_11 (by decide) (by decide) rfl (fun (c_161 : (2 : Int) ≤ (2 : Int)) => ?_) (fun (c_161 : (2 : Int) < (2 : Int)) => ?_)
      rotate_left
      · exact absurd c_161 (by decide)
      refine Go.iconst (pc' := 49) (v := (1 : Int32)) d4_48 rfl rfl ?_
      exact Go.retN (t := .boolean) d4_49 rfl (by simp) rfl ⟨_, rfl, rfl, Or.inr rfl, ⟨fun _ => ⟨d0, d1⟩, fun _ => rfl⟩⟩ (by decide) (by decide)
    · refine Go.iconst (pc' := 41) (v := (0 : Int32)) d4_40 rfl rfl ?_
      have d1 : ¬ own_bt W q1.toInt.toNat = true := fun z => (own_test w1 q1 (by omega)).mpr (o1.mp z) c_160
      exact Go.retN (t := .boolean) d4_41 rfl (by simp) rfl ⟨_, rfl, rfl, Or.inl rfl, ⟨fun z => absurd z (by decide), fun z => absurd (z.2) d1⟩⟩ (by decide) (by decide)
  · refine Go.iconst (pc' := 41) (v := (0 : Int32)) d4_40 rfl rfl ?_
    have d0 : ¬ own_bt W q0.toInt.toNat = true := fun z => (own_test w0 q0 (by omega)).mpr (o0.mp z) c_156
    exact Go.retN (t := .boolean) d4_41 rfl (by simp) rfl ⟨_, rfl, rfl, Or.inl rfl, ⟨fun z => absurd z (by decide), fun z => absurd (z.1) d0⟩⟩ (by decide) (by decide)
set_option maxRecDepth 65536 in
set_option maxHeartbeats 40000000 in
theorem m_h3 (l : Launch) (Z : State) (a0 : Array Value) (hw : ∀ d ∈ tables_1, d.before a0 Z = true) (a e b : Addr) (W : List Int64) (q0 q1 q2 : Int32) (h0 : Heap) (n0 : Nat) (z0 : n0 ≤ h0.size) (hE : Exa Z h0 a "com/example/forward_planner/forwardplanner/model/State") (hG : Fld Z h0 a "com/example/forward_planner/forwardplanner/model/State" "words" "[J" (.ref e)) (hV : Ary Z h0 e .long (W.map Value.long)) (hA : Ary Z h0 b .int [.int q0, .int q1, .int q2]) (hq0 : 0 ≤ q0.toInt ∧ q0.toInt < 64 * (W.length : Int)) (hq1 : 0 ≤ q1.toInt ∧ q1.toInt < 64 * (W.length : Int)) (hq2 : 0 ≤ q2.toInt ∧ q2.toInt < 64 * (W.length : Int)) : Mt false l Z (⟨"com/example/forward_planner/forwardplanner/model/State", "holdsAll", "([I)Z"⟩ : MethodName) prog_35_method_6_code 6 (some .boolean) ({ frames := 0, cells := 0, slots := 0, locals := 0 } : Room) n0 (fun v h => ∃ r : Int32, v = some (.int r) ∧ h0 = h ∧ (r.toInt = 0 ∨ r.toInt = 1) ∧ (r.toInt = 1 ↔ (own_bt W q0.toInt.toNat = true ∧ own_bt W q1.toInt.toNat = true ∧ own_bt W q2.toInt.toNat = true))) h0 #[(.ref a), (.ref b)] := by
  refine Mt.go (Ls := #[.val (.ref a), .val (.ref b), .unset, .unset, .unset, .unset]) (plainFor_of_name pn0) (fun m => by first | (simp [entryFrame, mkF, argsToLocals, Value.category]; done) | rfl) ?_
  show (Go false l ({ frames := 0, cells := 0, slots := 0, locals := 0 } : Room) Z (⟨"com/example/forward_planner/forwardplanner/model/State", "holdsAll", "([I)Z"⟩ : MethodName) prog_35_method_6_code 6 (some .boolean) n0 0 0 (fun v h => ∃ r : Int32, v = some (.int r) ∧ h0 = h ∧ (r.toInt = 0 ∨ r.toInt = 1) ∧ (r.toInt = 1 ↔ (own_bt W q0.toInt.toNat = true ∧ own_bt W q1.toInt.toNat = true ∧ own_bt W q2.toInt.toNat = true)))) h0 0 0 0 #[.val (.ref a), .val (.ref b), .unset, .unset, .unset, .unset] []
  refine Go.aloadN (pc' := 1) d4_0 rfl rfl rfl ?_
  refine Go.astoreN (pc' := 2) (Ls' := #[.val (.ref a), .val (.ref b), .val (.ref b), .unset, .unset, .unset]) d4_1 rfl rfl rfl ?_
  refine Go.aloadN (pc' := 3) d4_2 rfl rfl rfl ?_
  refine Go.alen (pc' := 4) (z := (3 : Int32)) hA rfl d4_3 rfl ?_
  refine Go.istoreN (pc' := 5) (Ls' := #[.val (.ref a), .val (.ref b), .val (.ref b), .val (.int (3 : Int32)), .unset, .unset]) d4_4 rfl rfl ?_
  refine Go.iconst (pc' := 6) (v := (0 : Int32)) d4_5 rfl rfl ?_
  refine Go.istore (pc' := 8) (Ls' := #[.val (.ref a), .val (.ref b), .val (.ref b), .val (.int (3 : Int32)), .val (.int (0 : Int32)), .unset]) d4_6 rfl rfl ?_
  refine Go.iload (pc' := 10) d4_8 rfl rfl ?_
  refine Go.iloadN (pc' := 11) d4_10 rfl rfl ?_
  refine Go.icmp (pc1 := 48) (pc2 := 14) d4_11 (by decide) (by decide) rfl (fun (c_162 : (3 : Int) ≤ (0 : Int)) => ?_) (fun (c_162 : (0 : Int) < (3 : Int)) => ?_)
  · exact absurd c_162 (by decide)
  refine Go.aloadN (pc' := 15) d4_14 rfl rfl rfl ?_
  refine Go.iload (pc' := 17) d4_15 rfl rfl ?_
  refine Go.ldI (pc' := 18) (k := 0) (v := (.int q0)) hA rfl rfl d4_17 rfl ?_
  refine Go.istore (pc' := 20) (Ls' := #[.val (.ref a), .val (.ref b), .val (.ref b), .val (.int (3 : Int32)), .val (.int (0 : Int32)), .val (.int q0)]) d4_18 rfl rfl ?_
  refine Go.aloadN (pc' := 21) d4_20 rfl rfl rfl ?_
  refine Go.getF (pc' := 24) (hw _ (List.mem_of_getElem? (i := 15) rfl)) hG d4_21 rfl ?_
  refine Go.iload (pc' := 26) d4_24 rfl rfl ?_
  refine Go.bipush (pc' := 28) (v := (6 : Int32)) d4_26 rfl rfl ?_
  refine Go.iushr (pc' := 29) d4_28 rfl ?_
  generalize ex_163 : (q0.toUInt32 >>> ((6 : Int32) &&& 31).toUInt32).toInt32 = x_163
  have k_164 : x_163.toInt = ((q0.toInt.toNat / 64 : Nat) : Int) := by
    rw [← ex_163]
    have : (6 : Int32).toInt = 6 := by decide
    have := c_iushr q0 (6 : Int32) 6 (by decide) (by decide)
    have := rng32 ((q0.toUInt32 >>> ((6 : Int32) &&& 31).toUInt32).toInt32)
    have := rng32 q0
    omega
  obtain ⟨w0, hw0⟩ : ∃ w, W[(q0.toInt.toNat / 64)]? = some w := ⟨_, List.getElem?_eq_getElem (by omega)⟩
  have o0 : (own_bt W q0.toInt.toNat = true ↔ w0.toBitVec.getLsbD (q0.toInt.toNat % 64) = true) := by unfold own_bt; rw [List.getD_eq_getElem?_getD, hw0]; rfl
  refine Go.ldJ (pc' := 30) (k := (q0.toInt.toNat / 64)) (v := (.long w0)) hV (by omega) (by rw [List.getElem?_map, hw0]; rfl) d4_29 rfl ?_
  refine Go.lconst (pc' := 31) (v := (1 : Int64)) d4_30 rfl rfl ?_
  refine Go.iload (pc' := 33) d4_31 rfl rfl ?_
  refine Go.lshl (pc' := 34) d4_33 rfl ?_
  refine Go.land (pc' := 35) d4_34 rfl ?_
  refine Go.lconst (pc' := 36) (v := (0 : Int64)) d4_35 rfl rfl ?_
  refine Go.lcmp (pc' := 37) d4_36 rfl ?_
  refine Go.ifw (pc1 := 42) (pc2 := 40) d4_37 (by decide) (by decide) rfl (fun (c_165 : (w0 &&& ((1 : Int64) <<< (q0 &&& 0x3f).toInt64)).toInt ≠ (0 : Int)) => ?_) (fun (c_165 : (w0 &&& ((1 : Int64) <<< (q0 &&& 0x3f).toInt64)).toInt = (0 : Int)) => ?_)
  · have d0 : own_bt W q0.toInt.toNat = true := o0.mpr ((own_test w0 q0 (by omega)).mp c_165)
    refine Go.iinc (pc' := 45) (w := (1 : Int32)) (Ls' := #[.val (.ref a), .val (.ref b), .val (.ref b), .val (.int (3 : Int32)), .val (.int (1 : Int32)), .val (.int q0)]) d4_42 rfl rfl rfl rfl ?_
    refine Go.goto (pc' := 8) d4_45 (by decide) (by decide) ?_
    refine Go.iload (pc' := 10) d4_8 rfl rfl ?_
    refine Go.iloadN (pc' := 11) d4_10 rfl rfl ?_
    refine Go.icmp (pc1 := 48) (pc2 := 14) d4_11 (by decide) (by decide) rfl (fun (c_166 : (3 : Int) ≤ (1 : Int)) => ?_) (fun (c_166 : (1 : Int) < (3 : Int)) => ?_)
    · exact absurd c_166 (by decide)
    refine Go.aloadN (pc' := 15) d4_14 rfl rfl rfl ?_
    refine Go.iload (pc' := 17) d4_15 rfl rfl ?_
    refine Go.ldI (pc' := 18) (k := 1) (v := (.int q1)) hA rfl rfl d4_17 rfl ?_
    refine Go.istore (pc' := 20) (Ls' := #[.val (.ref a), .val (.ref b), .val (.ref b), .val (.int (3 : Int32)), .val (.int (1 : Int32)), .val (.int q1)]) d4_18 rfl rfl ?_
    refine Go.aloadN (pc' := 21) d4_20 rfl rfl rfl ?_
    refine Go.getF (pc' := 24) (hw _ (List.mem_of_getElem? (i := 15) rfl)) hG d4_21 rfl ?_
    refine Go.iload (pc' := 26) d4_24 rfl rfl ?_
    refine Go.bipush (pc' := 28) (v := (6 : Int32)) d4_26 rfl rfl ?_
    refine Go.iushr (pc' := 29) d4_28 rfl ?_
    generalize ex_167 : (q1.toUInt32 >>> ((6 : Int32) &&& 31).toUInt32).toInt32 = x_167
    have k_168 : x_167.toInt = ((q1.toInt.toNat / 64 : Nat) : Int) := by
      rw [← ex_167]
      have : (6 : Int32).toInt = 6 := by decide
      have := c_iushr q1 (6 : Int32) 6 (by decide) (by decide)
      have := rng32 ((q1.toUInt32 >>> ((6 : Int32) &&& 31).toUInt32).toInt32)
      have := rng32 q1
      omega
    obtain ⟨w1, hw1⟩ : ∃ w, W[(q1.toInt.toNat / 64)]? = some w := ⟨_, List.getElem?_eq_getElem (by omega)⟩
    have o1 : (own_bt W q1.toInt.toNat = true ↔ w1.toBitVec.getLsbD (q1.toInt.toNat % 64) = true) := by unfold own_bt; rw [List.getD_eq_getElem?_getD, hw1]; rfl
    refine Go.ldJ (pc' := 30) (k := (q1.toInt.toNat / 64)) (v := (.long w1)) hV (by omega) (by rw [List.getElem?_map, hw1]; rfl) d4_29 rfl ?_
    refine Go.lconst (pc' := 31) (v := (1 : Int64)) d4_30 rfl rfl ?_
    refine Go.iload (pc' := 33) d4_31 rfl rfl ?_
    refine Go.lshl (pc' := 34) d4_33 rfl ?_
    refine Go.land (pc' := 35) d4_34 rfl ?_
    refine Go.lconst (pc' := 36) (v := (0 : Int64)) d4_35 rfl rfl ?_
    refine Go.lcmp (pc' := 37) d4_36 rfl ?_
    refine Go.ifw (pc1 := 42) (pc2 := 40) d4_37 (by decide) (by decide) rfl (fun (c_169 : (w1 &&& ((1 : Int64) <<< (q1 &&& 0x3f).toInt64)).toInt ≠ (0 : Int)) => ?_) (fun (c_169 : (w1 &&& ((1 : Int64) <<< (q1 &&& 0x3f).toInt64)).toInt = (0 : Int)) => ?_)
    · have d1 : own_bt W q1.toInt.toNat = true := o1.mpr ((own_test w1 q1 (by omega)).mp c_169)
      refine Go.iinc (pc' := 45) (w := (2 : Int32)) (Ls' := #[.val (.ref a), .val (.ref b), .val (.ref b), .val (.int (3 : Int32)), .val (.int (2 : Int32)), .val (.int q1)]) d4_42 rfl rfl rfl rfl ?_
      refine Go.goto (pc' := 8) d4_45 (by decide) (by decide) ?_
      refine Go.iload (pc' := 10) d4_8 rfl rfl ?_
      refine Go.iloadN (pc' := 11) d4_10 rfl rfl ?_
      refine Go.icmp (pc1 := 48) (pc2 := 14) d4_11 (by decide) (by decide) rfl (fun (c_170 : (3 : Int) ≤ (2 : Int)) => ?_) (fun (c_170 : (2 : Int) < (3 : Int)) => ?_)
      · exact absurd c_170 (by decide)
      refine Go.aloadN (pc' := 15) d4_14 rfl rfl rfl ?_
      refine Go.iload (pc' := 17) d4_15 rfl rfl ?_
      refine Go.ldI (pc' := 18) (k := 2) (v := (.int q2)) hA rfl rfl d4_17 rfl ?_
      refine Go.istore (pc' := 20) (Ls' := #[.val (.ref a), .val (.ref b), .val (.ref b), .val (.int (3 : Int32)), .val (.int (2 : Int32)), .val (.int q2)]) d4_18 rfl rfl ?_
      refine Go.aloadN (pc' := 21) d4_20 rfl rfl rfl ?_
      refine Go.getF (pc' := 24) (hw _ (List.mem_of_getElem? (i := 15) rfl)) hG d4_21 rfl ?_
      refine Go.iload (pc' := 26) d4_24 rfl rfl ?_
      refine Go.bipush (pc' := 28) (v := (6 : Int32)) d4_26 rfl rfl ?_
      refine Go.iushr (pc' := 29) d4_28 rfl ?_
      generalize ex_171 : (q2.toUInt32 >>> ((6 : Int32) &&& 31).toUInt32).toInt32 = x_171
      have k_172 : x_171.toInt = ((q2.toInt.toNat / 64 : Nat) : Int) := by
        rw [← ex_171]
        have : (6 : Int32).toInt = 6 := by decide
        have := c_iushr q2 (6 : Int32) 6 (by decide) (by decide)
        have := rng32 ((q2.toUInt32 >>> ((6 : Int32) &&& 31).toUInt32).toInt32)
        have := rng32 q2
        omega
      obtain ⟨w2, hw2⟩ : ∃ w, W[(q2.toInt.toNat / 64)]? = some w := ⟨_, List.getElem?_eq_getElem (by omega)⟩
      have o2 : (own_bt W q2.toInt.toNat = true ↔ w2.toBitVec.getLsbD (q2.toInt.toNat % 64) = true) := by unfold own_bt; rw [List.getD_eq_getElem?_getD, hw2]; rfl
      refine Go.ldJ (pc' := 30) (k := (q2.toInt.toNat / 64)) (v := (.long w2)) hV (by omega) (by rw [List.getElem?_map, hw2]; rfl) d4_29 rfl ?_
      refine Go.lconst (pc' := 31) (v := (1 : Int64)) d4_30 rfl rfl ?_
      refine Go.iload (pc' := 33) d4_31 rfl rfl ?_
      refine Go.lshl (pc' := 34) d4_33 rfl ?_
      refine Go.land (pc' := 35) d4_34 rfl ?_
      refine Go.lconst (pc' := 36) (v := (0 : Int64)) d4_35 rfl rfl ?_
      refine Go.lcmp (pc' := 37) d4_36 rfl ?_
      refine Go.ifw (pc1 := 42) (pc2 := 40) d4_37 (by decide) (by decide) rfl (fun (c_173 : (w2 &&& ((1 : Int64) <<< (q2 &&& 0x3f).toInt64)).toInt ≠ (0 : Int)) => ?_) (fun (c_173 : (w2 &&& ((1 : Int64) <<< (q2 &&& 0x3f).toInt64)).toInt = (0 : Int)) => ?_)
      · have d2 : own_bt W q2.toInt.toNat = true := o2.mpr ((own_test w2 q2 (by omega)).mp c_173)
        refine Go.iinc (pc' := 45) (w := (3 : Int32)) (Ls' := #[.val (.ref a), .val (.ref b), .val (.ref b), .val (.int (3 : Int32)), .val (.int (3 : Int32)), .val (.int q2)]) d4_42 rfl rfl rfl rfl ?_
        refine Go.goto (pc' := 8) d4_45 (by decide) (by decide) ?_
        refine Go.iload (pc' := 10) d4_8 rfl rfl ?_
        refine Go.iloadN (pc' := 11) d4_10 rfl rfl ?_
        refine Go.icmp (pc1 := 48) (pc2 := 14) d4_11 (by decide) (by decide) rfl (fun (c_174 : (3 : Int) ≤ (3 : Int)) => ?_) (fun (c_174 : (3 : Int) < (3 : Int)) => ?_)
        rotate_left
        · exact absurd c_174 (by decide)
        refine Go.iconst (pc' := 49) (v := (1 : Int32)) d4_48 rfl rfl ?_
        exact Go.retN (t := .boolean) d4_49 rfl (by simp) rfl ⟨_, rfl, rfl, Or.inr rfl, ⟨fun _ => ⟨d0, d1, d2⟩, fun _ => rfl⟩⟩ (by decide) (by decide)
      · refine Go.iconst (pc' := 41) (v := (0 : Int32)) d4_40 rfl rfl ?_
        have d2 : ¬ own_bt W q2.toInt.toNat = true := fun z => (own_test w2 q2 (by omega)).mpr (o2.mp z) c_173
        exact Go.retN (t := .boolean) d4_41 rfl (by simp) rfl ⟨_, rfl, rfl, Or.inl rfl, ⟨fun z => absurd z (by decide), fun z => absurd (z.2.2) d2⟩⟩ (by decide) (by decide)
    · refine Go.iconst (pc' := 41) (v := (0 : Int32)) d4_40 rfl rfl ?_
      have d1 : ¬ own_bt W q1.toInt.toNat = true := fun z => (own_test w1 q1 (by omega)).mpr (o1.mp z) c_169
      exact Go.retN (t := .boolean) d4_41 rfl (by simp) rfl ⟨_, rfl, rfl, Or.inl rfl, ⟨fun z => absurd z (by decide), fun z => absurd (z.2.1) d1⟩⟩ (by decide) (by decide)
  · refine Go.iconst (pc' := 41) (v := (0 : Int32)) d4_40 rfl rfl ?_
    have d0 : ¬ own_bt W q0.toInt.toNat = true := fun z => (own_test w0 q0 (by omega)).mpr (o0.mp z) c_165
    exact Go.retN (t := .boolean) d4_41 rfl (by simp) rfl ⟨_, rfl, rfl, Or.inl rfl, ⟨fun z => absurd z (by decide), fun z => absurd (z.1) d0⟩⟩ (by decide) (by decide)
set_option maxRecDepth 65536 in
set_option maxHeartbeats 40000000 in
theorem m_n (l : Launch) (Z : State) (a0 : Array Value) (hw : ∀ d ∈ tables_1, d.before a0 Z = true) (q s t0 t1 t2 : Int32) (h0 : Heap) (n0 : Nat) (z0 : n0 ≤ h0.size)  : Mt false l Z (⟨"com/example/forward_planner/forwardplanner/model/StateHoldsAllPinLaw", "in", "(IZIII)Z"⟩ : MethodName) method_2_code 5 (some .boolean) ({ frames := 0, cells := 0, slots := 0, locals := 0 } : Room) n0 (fun v h => ∃ r : Int32, v = some (.int r) ∧ h0 = h ∧ (r.toInt = 0 ∨ r.toInt = 1) ∧ (r.toInt = 1 ↔ (s.toInt = 0 ∧ (q.toInt = t0.toInt ∨ q.toInt = t1.toInt ∨ q.toInt = t2.toInt)))) h0 #[(.int q), (.int s), (.int t0), (.int t1), (.int t2)] := by
  refine Mt.go (Ls := #[.val (.int q), .val (.int s), .val (.int t0), .val (.int t1), .val (.int t2)]) (plainFor_of_name pn1) (fun m => by first | (simp [entryFrame, mkF, argsToLocals, Value.category]; done) | rfl) ?_
  show (Go false l ({ frames := 0, cells := 0, slots := 0, locals := 0 } : Room) Z (⟨"com/example/forward_planner/forwardplanner/model/StateHoldsAllPinLaw", "in", "(IZIII)Z"⟩ : MethodName) method_2_code 5 (some .boolean) n0 0 0 (fun v h => ∃ r : Int32, v = some (.int r) ∧ h0 = h ∧ (r.toInt = 0 ∨ r.toInt = 1) ∧ (r.toInt = 1 ↔ (s.toInt = 0 ∧ (q.toInt = t0.toInt ∨ q.toInt = t1.toInt ∨ q.toInt = t2.toInt))))) h0 0 0 0 #[.val (.int q), .val (.int s), .val (.int t0), .val (.int t1), .val (.int t2)] []
  refine Go.iloadN (pc' := 1) d5_0 rfl rfl ?_
  refine Go.ifc (pc1 := 6) (pc2 := 4) d5_1 (by decide) (by decide) rfl (fun (c_175 : s.toInt = 0) => ?_) (fun (c_175 : s.toInt ≠ 0) => ?_)
  · refine Go.iloadN (pc' := 7) d5_6 rfl rfl ?_
    refine Go.iloadN (pc' := 8) d5_7 rfl rfl ?_
    refine Go.icmp (pc1 := 22) (pc2 := 11) d5_8 (by decide) (by decide) rfl (fun (c_176 : q.toInt = t0.toInt) => ?_) (fun (c_176 : q.toInt ≠ t0.toInt) => ?_)
    · refine Go.iconst (pc' := 23) (v := (1 : Int32)) d5_22 rfl rfl ?_
      refine Go.goto (pc' := 27) d5_23 (by decide) (by decide) ?_
      exact Go.retN (t := .boolean) d5_27 rfl (by simp) rfl ⟨_, rfl, rfl, by decide, by have z0 : (0 : Int32).toInt = 0 := rfl; have z1 : (1 : Int32).toInt = 1 := rfl; omega⟩ (by decide) (by decide)
    · refine Go.iloadN (pc' := 12) d5_11 rfl rfl ?_
      refine Go.iloadN (pc' := 13) d5_12 rfl rfl ?_
      refine Go.icmp (pc1 := 22) (pc2 := 16) d5_13 (by decide) (by decide) rfl (fun (c_177 : q.toInt = t1.toInt) => ?_) (fun (c_177 : q.toInt ≠ t1.toInt) => ?_)
      · refine Go.iconst (pc' := 23) (v := (1 : Int32)) d5_22 rfl rfl ?_
        refine Go.goto (pc' := 27) d5_23 (by decide) (by decide) ?_
        exact Go.retN (t := .boolean) d5_27 rfl (by simp) rfl ⟨_, rfl, rfl, by decide, by have z0 : (0 : Int32).toInt = 0 := rfl; have z1 : (1 : Int32).toInt = 1 := rfl; omega⟩ (by decide) (by decide)
      · refine Go.iloadN (pc' := 17) d5_16 rfl rfl ?_
        refine Go.iload (pc' := 19) d5_17 rfl rfl ?_
        refine Go.icmp (pc1 := 26) (pc2 := 22) d5_19 (by decide) (by decide) rfl (fun (c_178 : q.toInt ≠ t2.toInt) => ?_) (fun (c_178 : q.toInt = t2.toInt) => ?_)
        · refine Go.iconst (pc' := 27) (v := (0 : Int32)) d5_26 rfl rfl ?_
          exact Go.retN (t := .boolean) d5_27 rfl (by simp) rfl ⟨_, rfl, rfl, by decide, by have z0 : (0 : Int32).toInt = 0 := rfl; have z1 : (1 : Int32).toInt = 1 := rfl; omega⟩ (by decide) (by decide)
        · refine Go.iconst (pc' := 23) (v := (1 : Int32)) d5_22 rfl rfl ?_
          refine Go.goto (pc' := 27) d5_23 (by decide) (by decide) ?_
          exact Go.retN (t := .boolean) d5_27 rfl (by simp) rfl ⟨_, rfl, rfl, by decide, by have z0 : (0 : Int32).toInt = 0 := rfl; have z1 : (1 : Int32).toInt = 1 := rfl; omega⟩ (by decide) (by decide)
  · refine Go.iconst (pc' := 5) (v := (0 : Int32)) d5_4 rfl rfl ?_
    exact Go.retN (t := .boolean) d5_5 rfl (by simp) rfl ⟨_, rfl, rfl, by decide, by have z0 : (0 : Int32).toInt = 0 := rfl; have z1 : (1 : Int32).toInt = 1 := rfl; omega⟩ (by decide) (by decide)
set_option maxRecDepth 65536 in
set_option maxHeartbeats 40000000 in
theorem rm1 (l : Launch) (Z : State) (a0 : Array Value) (hw : ∀ d ∈ tables_1, d.before a0 Z = true) (ws : List Jvm.Cond) (x0 x1 x2 x3 : Int32) (y0 : Int64) (x4 : Int32) (h0 : Heap) (n0 : Nat) (z0 : n0 ≤ h0.size)  : MetFree l x (head1 (Jvm.Cond.code x code maxLocals ret :: ws) room_1) (fun a U => a = #[(.int x0), (.int x1), (.int x2), (.int x3), (.long y0), (.int x4)] ∧ Z.Warmed39 U.vm ∧ U.heap = h0) (fun _ _ _ _ _ => True) (fun _ U o U' => ∃ v L, o = .returned v ∧ (((fun v h => v = some (.int 1)) v U'.heap ∧ h0.size ≤ U'.heap.size) ∧ Fr n0 L) ∧ GoEnd false U o U' L 16 128) := by
  refine met_go (y := x) (Q := fun v h => v = some (.int 1)) (Ls := #[.val (.int x0), .val (.int x1), .val (.int x2), .val (.int x3), .val (.long y0), .second, .val (.int x4), .unset, .unset, .unset, .unset, .unset, .unset, .unset, .unset, .unset, .unset, .unset, .unset, .unset, .unset, .unset, .unset, .unset]) (plainFor_of_name pn1) (fun m => by first | (simp [entryFrame, mkF, argsToLocals, Value.category, maxLocals]; done) | rfl) ?_
  show (Go false l room_1 Z x code maxLocals ret n0 16 128 (fun v h => v = some (.int 1))) h0 0 0 0 #[.val (.int x0), .val (.int x1), .val (.int x2), .val (.int x3), .val (.long y0), .second, .val (.int x4), .unset, .unset, .unset, .unset, .unset, .unset, .unset, .unset, .unset, .unset, .unset, .unset, .unset, .unset, .unset, .unset, .unset] []
  refine Go.iconst (pc' := 1) (v := (1 : Int32)) at_0 rfl rfl ?_
  refine Go.iloadN (pc' := 2) at_1 rfl rfl ?_
  refine Go.sipush (pc' := 5) (v := (255 : Int32)) at_2 rfl rfl ?_
  refine Go.iand (pc' := 6) at_5 rfl ?_
  refine Go.iadd (pc' := 7) at_6 rfl ?_
  generalize en_179 : (1 : Int32) + (x0 &&& (255 : Int32)) = n_179
  have k_180 : 1 ≤ n_179.toInt ∧ n_179.toInt ≤ 256 := by
    rw [← en_179]
    have : (1 : Int32).toInt = 1 := by decide
    have : (255 : Int32).toInt = 255 := by decide
    have := c_mask x0 (255 : Int32) 8 (by decide) (by decide)
    have := rng32 (x0 &&& (255 : Int32))
    have := rng32 x0
    have := c_iadd (1 : Int32) (x0 &&& (255 : Int32))
    have := rng32 ((1 : Int32) + (x0 &&& (255 : Int32)))
    omega
  have nz : n_179 ≠ 0 := fun q => by have z : (0 : Int32).toInt = 0 := rfl; rw [q] at k_180; omega
  refine Go.istore (pc' := 9) (Ls' := #[.val (.int x0), .val (.int x1), .val (.int x2), .val (.int x3), .val (.long y0), .second, .val (.int x4), .val (.int n_179), .unset, .unset, .unset, .unset, .unset, .unset, .unset, .unset, .unset, .unset, .unset, .unset, .unset, .unset, .unset, .unset]) at_7 rfl rfl ?_
  refine Go.iloadN (pc' := 10) at_9 rfl rfl ?_
  refine Go.bipush (pc' := 12) (v := (8 : Int32)) at_10 rfl rfl ?_
  refine Go.iushr (pc' := 13) at_12 rfl ?_
  refine Go.iconst (pc' := 14) (v := (3 : Int32)) at_13 rfl rfl ?_
  refine Go.iand (pc' := 15) at_14 rfl ?_
  generalize ek_181 : ((x0.toUInt32 >>> ((8 : Int32) &&& 31).toUInt32).toInt32) &&& (3 : Int32) = k_181
  have k_182 : k_181.toInt = 0 ∨ k_181.toInt = 1 ∨ k_181.toInt = 2 ∨ k_181.toInt = 3 := by
    rw [← ek_181]
    have : (8 : Int32).toInt = 8 := by decide
    have := c_iushr x0 (8 : Int32) 8 (by decide) (by decide)
    have := rng32 ((x0.toUInt32 >>> ((8 : Int32) &&& 31).toUInt32).toInt32)
    have := rng32 x0
    have : (3 : Int32).toInt = 3 := by decide
    have := c_mask ((x0.toUInt32 >>> ((8 : Int32) &&& 31).toUInt32).toInt32) (3 : Int32) 2 (by decide) (by decide)
    have := rng32 (((x0.toUInt32 >>> ((8 : Int32) &&& 31).toUInt32).toInt32) &&& (3 : Int32))
    omega
  refine Go.istore (pc' := 17) (Ls' := #[.val (.int x0), .val (.int x1), .val (.int x2), .val (.int x3), .val (.long y0), .second, .val (.int x4), .val (.int n_179), .val (.int k_181), .unset, .unset, .unset, .unset, .unset, .unset, .unset, .unset, .unset, .unset, .unset, .unset, .unset, .unset, .unset]) at_15 rfl rfl ?_
  refine Go.iloadN (pc' := 18) at_17 rfl rfl ?_
  refine Go.bipush (pc' := 20) (v := (10 : Int32)) at_18 rfl rfl ?_
  refine Go.iushr (pc' := 21) at_20 rfl ?_
  refine Go.iconst (pc' := 22) (v := (1 : Int32)) at_21 rfl rfl ?_
  refine Go.iand (pc' := 23) at_22 rfl ?_
  refine Go.ifc (pc1 := 30) (pc2 := 26) at_23 (by decide) (by decide) rfl (fun (c_183 : (((x0.toUInt32 >>> ((10 : Int32) &&& 31).toUInt32).toInt32) &&& (1 : Int32)).toInt = 0) => ?_) (fun (c_183 : (((x0.toUInt32 >>> ((10 : Int32) &&& 31).toUInt32).toInt32) &&& (1 : Int32)).toInt ≠ 0) => ?_)
  · refine Go.iconst (pc' := 31) (v := (0 : Int32)) at_30 rfl rfl ?_
    refine Go.istore (pc' := 33) (Ls' := #[.val (.int x0), .val (.int x1), .val (.int x2), .val (.int x3), .val (.long y0), .second, .val (.int x4), .val (.int n_179), .val (.int k_181), .val (.int (0 : Int32)), .unset, .unset, .unset, .unset, .unset, .unset, .unset, .unset, .unset, .unset, .unset, .unset, .unset, .unset]) at_31 rfl rfl ?_
    refine Go.iloadN (pc' := 34) at_33 rfl rfl ?_
    refine Go.ldcI (pc' := 36) (hw _ (List.mem_of_getElem? (i := 0) rfl)) at_34 rfl ?_
    refine Go.iand (pc' := 37) at_36 rfl ?_
    refine Go.iload (pc' := 39) at_37 rfl rfl ?_
    refine Go.irem (pc' := 40) at_39 nz rfl ?_
    generalize et_184 : (x1 &&& (2147483647 : Int32)) % n_179 = t_184
    have k_185 : 0 ≤ t_184.toInt ∧ t_184.toInt < n_179.toInt := by
      rw [← et_184]
      have : (2147483647 : Int32).toInt = 2147483647 := by decide
      have := c_mask x1 (2147483647 : Int32) 31 (by decide) (by decide)
      have := rng32 (x1 &&& (2147483647 : Int32))
      have := rng32 x1
      have := c_iremV (x1 &&& (2147483647 : Int32)) n_179
      have := rng32 ((x1 &&& (2147483647 : Int32)) % n_179)
      have := rng32 n_179
      omega
    refine Go.istore (pc' := 42) (Ls' := #[.val (.int x0), .val (.int x1), .val (.int x2), .val (.int x3), .val (.long y0), .second, .val (.int x4), .val (.int n_179), .val (.int k_181), .val (.int (0 : Int32)), .val (.int t_184), .unset, .unset, .unset, .unset, .unset, .unset, .unset, .unset, .unset, .unset, .unset, .unset, .unset]) at_40 rfl rfl ?_
    refine Go.iloadN (pc' := 43) at_42 rfl rfl ?_
    refine Go.ldcI (pc' := 45) (hw _ (List.mem_of_getElem? (i := 0) rfl)) at_43 rfl ?_
    refine Go.iand (pc' := 46) at_45 rfl ?_
    refine Go.iload (pc' := 48) at_46 rfl rfl ?_
    refine Go.irem (pc' := 49) at_48 nz rfl ?_
    generalize et_186 : (x2 &&& (2147483647 : Int32)) % n_179 = t_186
    have k_187 : 0 ≤ t_186.toInt ∧ t_186.toInt < n_179.toInt := by
      rw [← et_186]
      have : (2147483647 : Int32).toInt = 2147483647 := by decide
      have := c_mask x2 (2147483647 : Int32) 31 (by decide) (by decide)
      have := rng32 (x2 &&& (2147483647 : Int32))
      have := rng32 x2
      have := c_iremV (x2 &&& (2147483647 : Int32)) n_179
      have := rng32 ((x2 &&& (2147483647 : Int32)) % n_179)
      have := rng32 n_179
      omega
    refine Go.istore (pc' := 51) (Ls' := #[.val (.int x0), .val (.int x1), .val (.int x2), .val (.int x3), .val (.long y0), .second, .val (.int x4), .val (.int n_179), .val (.int k_181), .val (.int (0 : Int32)), .val (.int t_184), .val (.int t_186), .unset, .unset, .unset, .unset, .unset, .unset, .unset, .unset, .unset, .unset, .unset, .unset]) at_49 rfl rfl ?_
    refine Go.iloadN (pc' := 52) at_51 rfl rfl ?_
    refine Go.ldcI (pc' := 54) (hw _ (List.mem_of_getElem? (i := 0) rfl)) at_52 rfl ?_
    refine Go.iand (pc' := 55) at_54 rfl ?_
    refine Go.iload (pc' := 57) at_55 rfl rfl ?_
    refine Go.irem (pc' := 58) at_57 nz rfl ?_
    generalize et_188 : (x3 &&& (2147483647 : Int32)) % n_179 = t_188
    have k_189 : 0 ≤ t_188.toInt ∧ t_188.toInt < n_179.toInt := by
      rw [← et_188]
      have : (2147483647 : Int32).toInt = 2147483647 := by decide
      have := c_mask x3 (2147483647 : Int32) 31 (by decide) (by decide)
      have := rng32 (x3 &&& (2147483647 : Int32))
      have := rng32 x3
      have := c_iremV (x3 &&& (2147483647 : Int32)) n_179
      have := rng32 ((x3 &&& (2147483647 : Int32)) % n_179)
      have := rng32 n_179
      omega
    refine Go.istore (pc' := 60) (Ls' := #[.val (.int x0), .val (.int x1), .val (.int x2), .val (.int x3), .val (.long y0), .second, .val (.int x4), .val (.int n_179), .val (.int k_181), .val (.int (0 : Int32)), .val (.int t_184), .val (.int t_186), .val (.int t_188), .unset, .unset, .unset, .unset, .unset, .unset, .unset, .unset, .unset, .unset, .unset]) at_58 rfl rfl ?_
    refine Go.lload (pc' := 62) at_60 rfl rfl ?_
    refine Go.ldcL (pc' := 65) (hw _ (List.mem_of_getElem? (i := 1) rfl)) at_62 rfl ?_
    refine Go.land (pc' := 66) at_65 rfl ?_
    refine Go.l2i (pc' := 67) at_66 rfl ?_
    refine Go.iload (pc' := 69) at_67 rfl rfl ?_
    refine Go.irem (pc' := 70) at_69 nz rfl ?_
    generalize et_190 : ((y0 &&& (2147483647 : Int64)).toInt32) % n_179 = t_190
    have k_191 : 0 ≤ t_190.toInt ∧ t_190.toInt < n_179.toInt := by
      rw [← et_190]
      have : (2147483647 : Int64).toInt = 2147483647 := by decide
      have := c_maskL y0 (2147483647 : Int64) 31 (by decide) (by decide)
      have := rng64 (y0 &&& (2147483647 : Int64))
      have := rng64 y0
      have := c_l2i (y0 &&& (2147483647 : Int64))
      have := rng32 ((y0 &&& (2147483647 : Int64)).toInt32)
      have := c_iremV ((y0 &&& (2147483647 : Int64)).toInt32) n_179
      have := rng32 (((y0 &&& (2147483647 : Int64)).toInt32) % n_179)
      have := rng32 n_179
      omega
    refine Go.istore (pc' := 72) (Ls' := #[.val (.int x0), .val (.int x1), .val (.int x2), .val (.int x3), .val (.long y0), .second, .val (.int x4), .val (.int n_179), .val (.int k_181), .val (.int (0 : Int32)), .val (.int t_184), .val (.int t_186), .val (.int t_188), .val (.int t_190), .unset, .unset, .unset, .unset, .unset, .unset, .unset, .unset, .unset, .unset]) at_70 rfl rfl ?_
    refine Go.lload (pc' := 74) at_72 rfl rfl ?_
    refine Go.bipush (pc' := 76) (v := (32 : Int32)) at_74 rfl rfl ?_
    refine Go.lushr (pc' := 77) at_76 rfl ?_
    refine Go.ldcL (pc' := 80) (hw _ (List.mem_of_getElem? (i := 1) rfl)) at_77 rfl ?_
    refine Go.land (pc' := 81) at_80 rfl ?_
    refine Go.l2i (pc' := 82) at_81 rfl ?_
    refine Go.iload (pc' := 84) at_82 rfl rfl ?_
    refine Go.irem (pc' := 85) at_84 nz rfl ?_
    generalize et_192 : ((((y0.toUInt64 >>> ((32 : Int32) &&& 0x3f).toInt64.toUInt64).toInt64) &&& (2147483647 : Int64)).toInt32) % n_179 = t_192
    have k_193 : 0 ≤ t_192.toInt ∧ t_192.toInt < n_179.toInt := by
      rw [← et_192]
      have : (32 : Int32).toInt = 32 := by decide
      have := c_lushr y0 (32 : Int32) 32 (by decide) (by decide)
      have := rng64 ((y0.toUInt64 >>> ((32 : Int32) &&& 0x3f).toInt64.toUInt64).toInt64)
      have := rng64 y0
      have : (2147483647 : Int64).toInt = 2147483647 := by decide
      have := c_maskL ((y0.toUInt64 >>> ((32 : Int32) &&& 0x3f).toInt64.toUInt64).toInt64) (2147483647 : Int64) 31 (by decide) (by decide)
      have := rng64 (((y0.toUInt64 >>> ((32 : Int32) &&& 0x3f).toInt64.toUInt64).toInt64) &&& (2147483647 : Int64))
      have := c_l2i (((y0.toUInt64 >>> ((32 : Int32) &&& 0x3f).toInt64.toUInt64).toInt64) &&& (2147483647 : Int64))
      have := rng32 ((((y0.toUInt64 >>> ((32 : Int32) &&& 0x3f).toInt64.toUInt64).toInt64) &&& (2147483647 : Int64)).toInt32)
      have := c_iremV ((((y0.toUInt64 >>> ((32 : Int32) &&& 0x3f).toInt64.toUInt64).toInt64) &&& (2147483647 : Int64)).toInt32) n_179
      have := rng32 (((((y0.toUInt64 >>> ((32 : Int32) &&& 0x3f).toInt64.toUInt64).toInt64) &&& (2147483647 : Int64)).toInt32) % n_179)
      have := rng32 n_179
      omega
    refine Go.istore (pc' := 87) (Ls' := #[.val (.int x0), .val (.int x1), .val (.int x2), .val (.int x3), .val (.long y0), .second, .val (.int x4), .val (.int n_179), .val (.int k_181), .val (.int (0 : Int32)), .val (.int t_184), .val (.int t_186), .val (.int t_188), .val (.int t_190), .val (.int t_192), .unset, .unset, .unset, .unset, .unset, .unset, .unset, .unset, .unset]) at_85 rfl rfl ?_
    refine Go.iload (pc' := 89) at_87 rfl rfl ?_
    refine Go.ldcI (pc' := 91) (hw _ (List.mem_of_getElem? (i := 0) rfl)) at_89 rfl ?_
    refine Go.iand (pc' := 92) at_91 rfl ?_
    refine Go.iload (pc' := 94) at_92 rfl rfl ?_
    refine Go.irem (pc' := 95) at_94 nz rfl ?_
    generalize et_194 : (x4 &&& (2147483647 : Int32)) % n_179 = t_194
    have k_195 : 0 ≤ t_194.toInt ∧ t_194.toInt < n_179.toInt := by
      rw [← et_194]
      have : (2147483647 : Int32).toInt = 2147483647 := by decide
      have := c_mask x4 (2147483647 : Int32) 31 (by decide) (by decide)
      have := rng32 (x4 &&& (2147483647 : Int32))
      have := rng32 x4
      have := c_iremV (x4 &&& (2147483647 : Int32)) n_179
      have := rng32 ((x4 &&& (2147483647 : Int32)) % n_179)
      have := rng32 n_179
      omega
    refine Go.istore (pc' := 97) (Ls' := #[.val (.int x0), .val (.int x1), .val (.int x2), .val (.int x3), .val (.long y0), .second, .val (.int x4), .val (.int n_179), .val (.int k_181), .val (.int (0 : Int32)), .val (.int t_184), .val (.int t_186), .val (.int t_188), .val (.int t_190), .val (.int t_192), .val (.int t_194), .unset, .unset, .unset, .unset, .unset, .unset, .unset, .unset]) at_95 rfl rfl ?_
    refine Go.iload (pc' := 99) at_97 rfl rfl ?_
    refine Go.ifc (pc1 := 110) (pc2 := 102) at_99 (by decide) (by decide) rfl (fun (c_196 : (0 : Int) = 0) => ?_) (fun (c_196 : (0 : Int) ≠ 0) => ?_)
    rotate_left
    · exact absurd c_196 (by decide)
    refine Go.iconst (pc' := 111) (v := (3 : Int32)) at_110 rfl rfl ?_
    refine Go.newA (pc' := 113) (k := 3) (ty := .int) (cap := 3) (hw _ (List.mem_of_getElem? (i := 2) rfl)) rfl rfl (by decide) (by decide) at_111 (by decide) (by decide) rfl ?_
    intro h_197 a_198 q_199 E_200 A_201
    have g_203 : n0 ≤ a_198 := q_199 ▸ z0
    have z_204 : n0 ≤ h_197.size := Nat.le_trans z0 E_200.1
    have t_205 : a_198 < h_197.size := A_201.lt
    change Ary Z h_197 a_198 .int [(.int (0 : Int32)), (.int (0 : Int32)), (.int (0 : Int32))] at A_201
    refine Go.dup (pc' := 114) at_113 rfl rfl ?_
    refine Go.iconst (pc' := 115) (v := (0 : Int32)) at_114 rfl rfl ?_
    refine Go.iload (pc' := 117) at_115 rfl rfl ?_
    refine Go.stI (pc' := 118) (k := 0) A_201 rfl (by show 0 < 3; decide) at_117 g_203 rfl ?_
    intro h_206 W_207 A_208
    have t_209 : a_198 < h_206.size := Nat.lt_of_lt_of_le t_205 (Nat.le_of_eq W_207.size.symm)
    have z_210 : n0 ≤ h_206.size := Nat.le_trans z_204 (Nat.le_of_eq W_207.size.symm)
    change Ary Z h_206 a_198 .int [(.int t_184), (.int (0 : Int32)), (.int (0 : Int32))] at A_208
    refine Go.dup (pc' := 119) at_118 rfl rfl ?_
    refine Go.iconst (pc' := 120) (v := (1 : Int32)) at_119 rfl rfl ?_
    refine Go.iload (pc' := 122) at_120 rfl rfl ?_
    refine Go.stI (pc' := 123) (k := 1) A_208 rfl (by show 1 < 3; decide) at_122 g_203 rfl ?_
    intro h_211 W_212 A_213
    have t_214 : a_198 < h_211.size := Nat.lt_of_lt_of_le t_209 (Nat.le_of_eq W_212.size.symm)
    have z_215 : n0 ≤ h_211.size := Nat.le_trans z_210 (Nat.le_of_eq W_212.size.symm)
    change Ary Z h_211 a_198 .int [(.int t_184), (.int t_186), (.int (0 : Int32))] at A_213
    refine Go.dup (pc' := 124) at_123 rfl rfl ?_
    refine Go.iconst (pc' := 125) (v := (2 : Int32)) at_124 rfl rfl ?_
    refine Go.iload (pc' := 127) at_125 rfl rfl ?_
    refine Go.stI (pc' := 128) (k := 2) A_213 rfl (by show 2 < 3; decide) at_127 g_203 rfl ?_
    intro h_216 W_217 A_218
    have t_219 : a_198 < h_216.size := Nat.lt_of_lt_of_le t_214 (Nat.le_of_eq W_217.size.symm)
    have z_220 : n0 ≤ h_216.size := Nat.le_trans z_215 (Nat.le_of_eq W_217.size.symm)
    change Ary Z h_216 a_198 .int [(.int t_184), (.int t_186), (.int t_188)] at A_218
    refine Go.astore (pc' := 130) (Ls' := #[.val (.int x0), .val (.int x1), .val (.int x2), .val (.int x3), .val (.long y0), .second, .val (.int x4), .val (.int n_179), .val (.int k_181), .val (.int (0 : Int32)), .val (.int t_184), .val (.int t_186), .val (.int t_188), .val (.int t_190), .val (.int t_192), .val (.int t_194), .val (.ref a_198), .unset, .unset, .unset, .unset, .unset, .unset, .unset]) at_128 rfl rfl rfl ?_
    refine Go.iload (pc' := 132) at_130 rfl rfl ?_
    clear ek_181
    rcases k_182 with k_182 | k_182 | k_182 | k_182
    · obtain rfl : k_181 = (0 : Int32) := Int32.toInt_inj.mp k_182
      refine Go.ifc (pc1 := 143) (pc2 := 135) at_132 (by decide) (by decide) rfl (fun (c_221 : (0 : Int) ≠ 0) => ?_) (fun (c_221 : (0 : Int) = 0) => ?_)
      · exact absurd c_221 (by decide)
      refine Go.iconst (pc' := 136) (v := (0 : Int32)) at_135 rfl rfl ?_
      refine Go.newA (pc' := 138) (k := 0) (ty := .int) (cap := 0) (hw _ (List.mem_of_getElem? (i := 2) rfl)) rfl rfl (by decide) (by decide) at_136 (by decide) (by decide) rfl ?_
      intro h_222 a_223 q_224 E_225 A_226
      have n_228 : a_198 ≠ a_223 := Nat.ne_of_lt (q_224 ▸ t_219)
      have g_229 : n0 ≤ a_223 := q_224 ▸ z_220
      have f_230 : Ary Z h_222 a_198 .int [(.int t_184), (.int t_186), (.int t_188)] := A_218.sm (Sm.ext E_225)
      have t_231 : a_198 < h_222.size := Nat.lt_of_lt_of_le t_219 E_225.1
      have z_232 : n0 ≤ h_222.size := Nat.le_trans z_220 E_225.1
      have t_233 : a_223 < h_222.size := A_226.lt
      change Ary Z h_222 a_223 .int [] at A_226
      refine Go.astore (pc' := 140) (Ls' := #[.val (.int x0), .val (.int x1), .val (.int x2), .val (.int x3), .val (.long y0), .second, .val (.int x4), .val (.int n_179), .val (.int (0 : Int32)), .val (.int (0 : Int32)), .val (.int t_184), .val (.int t_186), .val (.int t_188), .val (.int t_190), .val (.int t_192), .val (.int t_194), .val (.ref a_198), .val (.ref a_223), .unset, .unset, .unset, .unset, .unset, .unset]) at_138 rfl rfl rfl ?_
      refine Go.goto (pc' := 206) at_140 (by decide) (by decide) ?_
      refine Go.newO (pc' := 209) (hw _ (List.mem_of_getElem? (i := 3) rfl)) (hw _ (List.mem_of_getElem? (i := 4) rfl)) (hw _ (List.mem_of_getElem? (i := 5) rfl)) at_206 (by decide) (by decide) rfl ?_
      intro h_234 a_235 q_236 E_237 A_238 D_239
      have n_240 : a_198 ≠ a_235 := Nat.ne_of_lt (q_236 ▸ t_231)
      have n_241 : a_223 ≠ a_235 := Nat.ne_of_lt (q_236 ▸ t_233)
      have g_242 : n0 ≤ a_235 := q_236 ▸ z_232
      have f_243 : Ary Z h_234 a_198 .int [(.int t_184), (.int t_186), (.int t_188)] := f_230.sm (Sm.ext E_237)
      have f_244 : Ary Z h_234 a_223 .int [] := A_226.sm (Sm.ext E_237)
      have t_245 : a_198 < h_234.size := Nat.lt_of_lt_of_le t_231 E_237.1
      have t_246 : a_223 < h_234.size := Nat.lt_of_lt_of_le t_233 E_237.1
      have z_247 : n0 ≤ h_234.size := Nat.le_trans z_232 E_237.1
      have t_248 : a_235 < h_234.size := A_238.lt
      have f_249 : Fld Z h_234 a_235 "com/example/forward_planner/forwardplanner/model/State" "factCount" "I" (.int (0 : Int32)) := D_239 (Or.inr (hw _ (List.mem_of_getElem? (i := 13) rfl))) (ty := .int) (by decide)
      have f_250 : Fld Z h_234 a_235 "com/example/forward_planner/forwardplanner/model/State" "words" "[J" .null := D_239 (Or.inr (hw _ (List.mem_of_getElem? (i := 16) rfl))) (ty := (.array .long)) (by decide)
      refine Go.dup (pc' := 210) at_209 rfl rfl ?_
      refine Go.iload (pc' := 212) at_210 rfl rfl ?_
      refine Go.aload (pc' := 214) at_212 rfl rfl rfl ?_
      refine Go.callN (pc' := 217) (argsL := [(.int n_179), (.ref a_198)]) (rest := [(.ref a_235)]) (W := 1) rfl (hw _ (List.mem_of_getElem? (i := 6) rfl)) (hw _ (List.mem_of_getElem? (i := 7) rfl)) (hw _ (List.mem_of_getElem? (i := 5) rfl)) (hw _ (List.mem_of_getElem? (i := 8) rfl)) (by decide) (m_i3 l Z a0 hw a_235 a_198 n_179 t_184 t_186 t_188 h_234 n0 z_247 A_238 f_249 f_250 g_242 f_243 n_240.symm (by omega) (by omega) (by omega) (by omega)) at_214 rfl pd1 rfl rfl (Nat.le_of_eq rfl) (by decide) (by decide) (by decide) (by decide) rfl ?_
      rintro _ h_251 ⟨rfl, e, W, K_252, X_253, F_254, A_255, he, hlt, hlen, hbt⟩
      have f_256 : Ary Z h_251 a_198 .int [(.int t_184), (.int t_186), (.int t_188)] := f_243.sm (Sm.keep K_252 (ninS n_240 nin0))
      have f_257 : Ary Z h_251 a_223 .int [] := f_244.sm (Sm.keep K_252 (ninS n_241 nin0))
      have f_258 : Exa Z h_251 a_235 "com/example/forward_planner/forwardplanner/model/State" := A_238.keep K_252
      have t_261 : a_198 < h_251.size := Nat.lt_of_lt_of_le t_245 K_252.1
      have t_262 : a_223 < h_251.size := Nat.lt_of_lt_of_le t_246 K_252.1
      have t_263 : a_235 < h_251.size := Nat.lt_of_lt_of_le t_248 K_252.1
      have z_264 : n0 ≤ h_251.size := Nat.le_trans z_247 K_252.1
      show (Go false l room_1 Z x code maxLocals ret n0 16 128 (fun v h => v = some (.int 1))) h_251 (0 + 1 + 1 + 1 + 1) (0 + 3 + 0 + 2 + 4) 217 #[.val (.int x0), .val (.int x1), .val (.int x2), .val (.int x3), .val (.long y0), .second, .val (.int x4), .val (.int n_179), .val (.int (0 : Int32)), .val (.int (0 : Int32)), .val (.int t_184), .val (.int t_186), .val (.int t_188), .val (.int t_190), .val (.int t_192), .val (.int t_194), .val (.ref a_198), .val (.ref a_223), .unset, .unset, .unset, .unset, .unset, .unset] [(.ref a_235)]
      refine Go.astore (pc' := 219) (Ls' := #[.val (.int x0), .val (.int x1), .val (.int x2), .val (.int x3), .val (.long y0), .second, .val (.int x4), .val (.int n_179), .val (.int (0 : Int32)), .val (.int (0 : Int32)), .val (.int t_184), .val (.int t_186), .val (.int t_188), .val (.int t_190), .val (.int t_192), .val (.int t_194), .val (.ref a_198), .val (.ref a_223), .val (.ref a_235), .unset, .unset, .unset, .unset, .unset]) at_217 rfl rfl rfl ?_
      refine Go.aload (pc' := 221) at_219 rfl rfl rfl ?_
      refine Go.aload (pc' := 223) at_221 rfl rfl rfl ?_
      refine Go.callV (pc' := 226) (argsL := [(.ref a_223)]) (rest := []) (W := 0) (hw _ (List.mem_of_getElem? (i := 21) rfl)) (hw _ (List.mem_of_getElem? (i := 22) rfl)) (hw _ (List.mem_of_getElem? (i := 24) rfl)) (hw _ (List.mem_of_getElem? (i := 23) rfl)) (hw _ (List.mem_of_getElem? (i := 5) rfl)) (hw _ (List.mem_of_getElem? (i := 25) rfl)) (by decide) f_258 (m_h0 l Z a0 hw a_235 e a_223 W  h_251 n0 z_264 f_258 F_254 A_255 f_257 ) at_223 rfl pd2 rfl rfl (Nat.le_of_eq rfl) (by decide) (by decide) (by decide) (by decide) rfl ?_
      rintro _ _ ⟨r, rfl, rfl, hr, hr2⟩
      show (Go false l room_1 Z x code maxLocals ret n0 16 128 (fun v h => v = some (.int 1))) h_251 (0 + 1 + 1 + 1 + 1 + 0) (0 + 3 + 0 + 2 + 4 + 0) 226 #[.val (.int x0), .val (.int x1), .val (.int x2), .val (.int x3), .val (.long y0), .second, .val (.int x4), .val (.int n_179), .val (.int (0 : Int32)), .val (.int (0 : Int32)), .val (.int t_184), .val (.int t_186), .val (.int t_188), .val (.int t_190), .val (.int t_192), .val (.int t_194), .val (.ref a_198), .val (.ref a_223), .val (.ref a_235), .unset, .unset, .unset, .unset, .unset] [(.int r)]
      refine Go.istore (pc' := 228) (Ls' := #[.val (.int x0), .val (.int x1), .val (.int x2), .val (.int x3), .val (.long y0), .second, .val (.int x4), .val (.int n_179), .val (.int (0 : Int32)), .val (.int (0 : Int32)), .val (.int t_184), .val (.int t_186), .val (.int t_188), .val (.int t_190), .val (.int t_192), .val (.int t_194), .val (.ref a_198), .val (.ref a_223), .val (.ref a_235), .val (.int r), .unset, .unset, .unset, .unset]) at_226 rfl rfl ?_
      refine Go.iload (pc' := 230) at_228 rfl rfl ?_
      refine Go.iload (pc' := 232) at_230 rfl rfl ?_
      refine Go.iload (pc' := 234) at_232 rfl rfl ?_
      refine Go.iload (pc' := 236) at_234 rfl rfl ?_
      refine Go.iload (pc' := 238) at_236 rfl rfl ?_
      refine Go.callS (pc' := 241) (argsL := [(.int t_190), (.int (0 : Int32)), (.int t_184), (.int t_186), (.int t_188)]) (rest := []) (W := 0) (hw _ (List.mem_of_getElem? (i := 26) rfl)) (hw _ (List.mem_of_getElem? (i := 27) rfl)) (hw _ (List.mem_of_getElem? (i := 28) rfl)) (hw _ (List.mem_of_getElem? (i := 29) rfl)) (by decide) (m_n l Z a0 hw t_190 (0 : Int32) t_184 t_186 t_188 h_251 n0 z_264) at_238 rfl pd3 rfl rfl (Nat.le_of_eq rfl) (by decide) (by decide) (by decide) (by decide) rfl ?_
      rintro _ _ ⟨g0, rfl, rfl, hg0, hgg0⟩
      show (Go false l room_1 Z x code maxLocals ret n0 16 128 (fun v h => v = some (.int 1))) h_251 (0 + 1 + 1 + 1 + 1 + 0 + 0) (0 + 3 + 0 + 2 + 4 + 0 + 0) 241 #[.val (.int x0), .val (.int x1), .val (.int x2), .val (.int x3), .val (.long y0), .second, .val (.int x4), .val (.int n_179), .val (.int (0 : Int32)), .val (.int (0 : Int32)), .val (.int t_184), .val (.int t_186), .val (.int t_188), .val (.int t_190), .val (.int t_192), .val (.int t_194), .val (.ref a_198), .val (.ref a_223), .val (.ref a_235), .val (.int r), .unset, .unset, .unset, .unset] [(.int g0)]
      refine Go.istore (pc' := 243) (Ls' := #[.val (.int x0), .val (.int x1), .val (.int x2), .val (.int x3), .val (.long y0), .second, .val (.int x4), .val (.int n_179), .val (.int (0 : Int32)), .val (.int (0 : Int32)), .val (.int t_184), .val (.int t_186), .val (.int t_188), .val (.int t_190), .val (.int t_192), .val (.int t_194), .val (.ref a_198), .val (.ref a_223), .val (.ref a_235), .val (.int r), .val (.int g0), .unset, .unset, .unset]) at_241 rfl rfl ?_
      refine Go.iload (pc' := 245) at_243 rfl rfl ?_
      refine Go.iload (pc' := 247) at_245 rfl rfl ?_
      refine Go.iload (pc' := 249) at_247 rfl rfl ?_
      refine Go.iload (pc' := 251) at_249 rfl rfl ?_
      refine Go.iload (pc' := 253) at_251 rfl rfl ?_
      refine Go.callS (pc' := 256) (argsL := [(.int t_192), (.int (0 : Int32)), (.int t_184), (.int t_186), (.int t_188)]) (rest := []) (W := 0) (hw _ (List.mem_of_getElem? (i := 26) rfl)) (hw _ (List.mem_of_getElem? (i := 27) rfl)) (hw _ (List.mem_of_getElem? (i := 28) rfl)) (hw _ (List.mem_of_getElem? (i := 29) rfl)) (by decide) (m_n l Z a0 hw t_192 (0 : Int32) t_184 t_186 t_188 h_251 n0 z_264) at_253 rfl pd3 rfl rfl (Nat.le_of_eq rfl) (by decide) (by decide) (by decide) (by decide) rfl ?_
      rintro _ _ ⟨g1, rfl, rfl, hg1, hgg1⟩
      show (Go false l room_1 Z x code maxLocals ret n0 16 128 (fun v h => v = some (.int 1))) h_251 (0 + 1 + 1 + 1 + 1 + 0 + 0 + 0) (0 + 3 + 0 + 2 + 4 + 0 + 0 + 0) 256 #[.val (.int x0), .val (.int x1), .val (.int x2), .val (.int x3), .val (.long y0), .second, .val (.int x4), .val (.int n_179), .val (.int (0 : Int32)), .val (.int (0 : Int32)), .val (.int t_184), .val (.int t_186), .val (.int t_188), .val (.int t_190), .val (.int t_192), .val (.int t_194), .val (.ref a_198), .val (.ref a_223), .val (.ref a_235), .val (.int r), .val (.int g0), .unset, .unset, .unset] [(.int g1)]
      refine Go.istore (pc' := 258) (Ls' := #[.val (.int x0), .val (.int x1), .val (.int x2), .val (.int x3), .val (.long y0), .second, .val (.int x4), .val (.int n_179), .val (.int (0 : Int32)), .val (.int (0 : Int32)), .val (.int t_184), .val (.int t_186), .val (.int t_188), .val (.int t_190), .val (.int t_192), .val (.int t_194), .val (.ref a_198), .val (.ref a_223), .val (.ref a_235), .val (.int r), .val (.int g0), .val (.int g1), .unset, .unset]) at_256 rfl rfl ?_
      refine Go.iload (pc' := 260) at_258 rfl rfl ?_
      refine Go.iload (pc' := 262) at_260 rfl rfl ?_
      refine Go.iload (pc' := 264) at_262 rfl rfl ?_
      refine Go.iload (pc' := 266) at_264 rfl rfl ?_
      refine Go.iload (pc' := 268) at_266 rfl rfl ?_
      refine Go.callS (pc' := 271) (argsL := [(.int t_194), (.int (0 : Int32)), (.int t_184), (.int t_186), (.int t_188)]) (rest := []) (W := 0) (hw _ (List.mem_of_getElem? (i := 26) rfl)) (hw _ (List.mem_of_getElem? (i := 27) rfl)) (hw _ (List.mem_of_getElem? (i := 28) rfl)) (hw _ (List.mem_of_getElem? (i := 29) rfl)) (by decide) (m_n l Z a0 hw t_194 (0 : Int32) t_184 t_186 t_188 h_251 n0 z_264) at_268 rfl pd3 rfl rfl (Nat.le_of_eq rfl) (by decide) (by decide) (by decide) (by decide) rfl ?_
      rintro _ _ ⟨g2, rfl, rfl, hg2, hgg2⟩
      show (Go false l room_1 Z x code maxLocals ret n0 16 128 (fun v h => v = some (.int 1))) h_251 (0 + 1 + 1 + 1 + 1 + 0 + 0 + 0 + 0) (0 + 3 + 0 + 2 + 4 + 0 + 0 + 0 + 0) 271 #[.val (.int x0), .val (.int x1), .val (.int x2), .val (.int x3), .val (.long y0), .second, .val (.int x4), .val (.int n_179), .val (.int (0 : Int32)), .val (.int (0 : Int32)), .val (.int t_184), .val (.int t_186), .val (.int t_188), .val (.int t_190), .val (.int t_192), .val (.int t_194), .val (.ref a_198), .val (.ref a_223), .val (.ref a_235), .val (.int r), .val (.int g0), .val (.int g1), .unset, .unset] [(.int g2)]
      have p0 : (own_bt W t_190.toInt.toNat = true ↔ g0.toInt = 1) := by rw [hbt, hgg0, show ((t_190.toInt.toNat : Nat) : Int) = t_190.toInt from by omega]; exact ⟨fun z => ⟨rfl, z⟩, fun z => z.2⟩
      have p1 : (own_bt W t_192.toInt.toNat = true ↔ g1.toInt = 1) := by rw [hbt, hgg1, show ((t_192.toInt.toNat : Nat) : Int) = t_192.toInt from by omega]; exact ⟨fun z => ⟨rfl, z⟩, fun z => z.2⟩
      have p2 : (own_bt W t_194.toInt.toNat = true ↔ g2.toInt = 1) := by rw [hbt, hgg2, show ((t_194.toInt.toNat : Nat) : Int) = t_194.toInt from by omega]; exact ⟨fun z => ⟨rfl, z⟩, fun z => z.2⟩
      clear p0 p1 p2 hgg0 hgg1 hgg2 hbt
      have z0 : (0 : Int32).toInt = 0 := rfl
      have z1 : (1 : Int32).toInt = 1 := rfl
      refine Go.istore (pc' := 273) (Ls' := #[.val (.int x0), .val (.int x1), .val (.int x2), .val (.int x3), .val (.long y0), .second, .val (.int x4), .val (.int n_179), .val (.int (0 : Int32)), .val (.int (0 : Int32)), .val (.int t_184), .val (.int t_186), .val (.int t_188), .val (.int t_190), .val (.int t_192), .val (.int t_194), .val (.ref a_198), .val (.ref a_223), .val (.ref a_235), .val (.int r), .val (.int g0), .val (.int g1), .val (.int g2), .unset]) at_271 rfl rfl ?_
      refine Go.iload (pc' := 275) at_273 rfl rfl ?_
      refine Go.ifc (pc1 := 284) (pc2 := 278) at_275 (by decide) (by decide) rfl (fun (c_265 : (0 : Int) ≠ 0) => ?_) (fun (c_265 : (0 : Int) = 0) => ?_)
      · exact absurd c_265 (by decide)
      refine Go.iconst (pc' := 279) (v := (1 : Int32)) at_278 rfl rfl ?_
      refine Go.istore (pc' := 281) (Ls' := #[.val (.int x0), .val (.int x1), .val (.int x2), .val (.int x3), .val (.long y0), .second, .val (.int x4), .val (.int n_179), .val (.int (0 : Int32)), .val (.int (0 : Int32)), .val (.int t_184), .val (.int t_186), .val (.int t_188), .val (.int t_190), .val (.int t_192), .val (.int t_194), .val (.ref a_198), .val (.ref a_223), .val (.ref a_235), .val (.int r), .val (.int g0), .val (.int g1), .val (.int g2), .val (.int (1 : Int32))]) at_279 rfl rfl ?_
      refine Go.goto (pc' := 345) at_281 (by decide) (by decide) ?_
      refine Go.iload (pc' := 347) at_345 rfl rfl ?_
      refine Go.iload (pc' := 349) at_347 rfl rfl ?_
      refine Go.icmp (pc1 := 356) (pc2 := 352) at_349 (by decide) (by decide) rfl (fun (c_266 : r.toInt ≠ (1 : Int)) => ?_) (fun (c_266 : r.toInt = (1 : Int)) => ?_)
      · exact absurd (by omega) c_266
      refine Go.iconst (pc' := 353) (v := (1 : Int32)) at_352 rfl rfl ?_
      refine Go.goto (pc' := 357) at_353 (by decide) (by decide) ?_
      exact Go.retN (t := .boolean) at_357 rfl (by simp) rfl rfl (by decide) (by decide)
    · obtain rfl : k_181 = (1 : Int32) := Int32.toInt_inj.mp k_182
      refine Go.ifc (pc1 := 143) (pc2 := 135) at_132 (by decide) (by decide) rfl (fun (c_267 : (1 : Int) ≠ 0) => ?_) (fun (c_267 : (1 : Int) = 0) => ?_)
      rotate_left
      · exact absurd c_267 (by decide)
      refine Go.iload (pc' := 145) at_143 rfl rfl ?_
      refine Go.iconst (pc' := 146) (v := (1 : Int32)) at_145 rfl rfl ?_
      refine Go.icmp (pc1 := 162) (pc2 := 149) at_146 (by decide) (by decide) rfl (fun (c_268 : (1 : Int) ≠ (1 : Int)) => ?_) (fun (c_268 : (1 : Int) = (1 : Int)) => ?_)
      · exact absurd c_268 (by decide)
      refine Go.iconst (pc' := 150) (v := (1 : Int32)) at_149 rfl rfl ?_
      refine Go.newA (pc' := 152) (k := 1) (ty := .int) (cap := 1) (hw _ (List.mem_of_getElem? (i := 2) rfl)) rfl rfl (by decide) (by decide) at_150 (by decide) (by decide) rfl ?_
      intro h_269 a_270 q_271 E_272 A_273
      have n_275 : a_198 ≠ a_270 := Nat.ne_of_lt (q_271 ▸ t_219)
      have g_276 : n0 ≤ a_270 := q_271 ▸ z_220
      have f_277 : Ary Z h_269 a_198 .int [(.int t_184), (.int t_186), (.int t_188)] := A_218.sm (Sm.ext E_272)
      have t_278 : a_198 < h_269.size := Nat.lt_of_lt_of_le t_219 E_272.1
      have z_279 : n0 ≤ h_269.size := Nat.le_trans z_220 E_272.1
      have t_280 : a_270 < h_269.size := A_273.lt
      change Ary Z h_269 a_270 .int [(.int (0 : Int32))] at A_273
      refine Go.dup (pc' := 153) at_152 rfl rfl ?_
      refine Go.iconst (pc' := 154) (v := (0 : Int32)) at_153 rfl rfl ?_
      refine Go.iload (pc' := 156) at_154 rfl rfl ?_
      refine Go.stI (pc' := 157) (k := 0) A_273 rfl (by show 0 < 1; decide) at_156 g_276 rfl ?_
      intro h_281 W_282 A_283
      have f_284 : Ary Z h_281 a_198 .int [(.int t_184), (.int t_186), (.int t_188)] := f_277.sm (Sm.wr W_282 n_275)
      have t_285 : a_198 < h_281.size := Nat.lt_of_lt_of_le t_278 (Nat.le_of_eq W_282.size.symm)
      have t_286 : a_270 < h_281.size := Nat.lt_of_lt_of_le t_280 (Nat.le_of_eq W_282.size.symm)
      have z_287 : n0 ≤ h_281.size := Nat.le_trans z_279 (Nat.le_of_eq W_282.size.symm)
      change Ary Z h_281 a_270 .int [(.int t_190)] at A_283
      refine Go.astore (pc' := 159) (Ls' := #[.val (.int x0), .val (.int x1), .val (.int x2), .val (.int x3), .val (.long y0), .second, .val (.int x4), .val (.int n_179), .val (.int (1 : Int32)), .val (.int (0 : Int32)), .val (.int t_184), .val (.int t_186), .val (.int t_188), .val (.int t_190), .val (.int t_192), .val (.int t_194), .val (.ref a_198), .val (.ref a_270), .unset, .unset, .unset, .unset, .unset, .unset]) at_157 rfl rfl rfl ?_
      refine Go.goto (pc' := 206) at_159 (by decide) (by decide) ?_
      refine Go.newO (pc' := 209) (hw _ (List.mem_of_getElem? (i := 3) rfl)) (hw _ (List.mem_of_getElem? (i := 4) rfl)) (hw _ (List.mem_of_getElem? (i := 5) rfl)) at_206 (by decide) (by decide) rfl ?_
      intro h_288 a_289 q_290 E_291 A_292 D_293
      have n_294 : a_198 ≠ a_289 := Nat.ne_of_lt (q_290 ▸ t_285)
      have n_295 : a_270 ≠ a_289 := Nat.ne_of_lt (q_290 ▸ t_286)
      have g_296 : n0 ≤ a_289 := q_290 ▸ z_287
      have f_297 : Ary Z h_288 a_198 .int [(.int t_184), (.int t_186), (.int t_188)] := f_284.sm (Sm.ext E_291)
      have f_298 : Ary Z h_288 a_270 .int [(.int t_190)] := A_283.sm (Sm.ext E_291)
      have t_299 : a_198 < h_288.size := Nat.lt_of_lt_of_le t_285 E_291.1
      have t_300 : a_270 < h_288.size := Nat.lt_of_lt_of_le t_286 E_291.1
      have z_301 : n0 ≤ h_288.size := Nat.le_trans z_287 E_291.1
      have t_302 : a_289 < h_288.size := A_292.lt
      have f_303 : Fld Z h_288 a_289 "com/example/forward_planner/forwardplanner/model/State" "factCount" "I" (.int (0 : Int32)) := D_293 (Or.inr (hw _ (List.mem_of_getElem? (i := 13) rfl))) (ty := .int) (by decide)
      have f_304 : Fld Z h_288 a_289 "com/example/forward_planner/forwardplanner/model/State" "words" "[J" .null := D_293 (Or.inr (hw _ (List.mem_of_getElem? (i := 16) rfl))) (ty := (.array .long)) (by decide)
      refine Go.dup (pc' := 210) at_209 rfl rfl ?_
      refine Go.iload (pc' := 212) at_210 rfl rfl ?_
      refine Go.aload (pc' := 214) at_212 rfl rfl rfl ?_
      refine Go.callN (pc' := 217) (argsL := [(.int n_179), (.ref a_198)]) (rest := [(.ref a_289)]) (W := 1) rfl (hw _ (List.mem_of_getElem? (i := 6) rfl)) (hw _ (List.mem_of_getElem? (i := 7) rfl)) (hw _ (List.mem_of_getElem? (i := 5) rfl)) (hw _ (List.mem_of_getElem? (i := 8) rfl)) (by decide) (m_i3 l Z a0 hw a_289 a_198 n_179 t_184 t_186 t_188 h_288 n0 z_301 A_292 f_303 f_304 g_296 f_297 n_294.symm (by omega) (by omega) (by omega) (by omega)) at_214 rfl pd1 rfl rfl (Nat.le_of_eq rfl) (by decide) (by decide) (by decide) (by decide) rfl ?_
      rintro _ h_305 ⟨rfl, e, W, K_306, X_307, F_308, A_309, he, hlt, hlen, hbt⟩
      have f_310 : Ary Z h_305 a_198 .int [(.int t_184), (.int t_186), (.int t_188)] := f_297.sm (Sm.keep K_306 (ninS n_294 nin0))
      have f_311 : Ary Z h_305 a_270 .int [(.int t_190)] := f_298.sm (Sm.keep K_306 (ninS n_295 nin0))
      have f_312 : Exa Z h_305 a_289 "com/example/forward_planner/forwardplanner/model/State" := A_292.keep K_306
      have t_315 : a_198 < h_305.size := Nat.lt_of_lt_of_le t_299 K_306.1
      have t_316 : a_270 < h_305.size := Nat.lt_of_lt_of_le t_300 K_306.1
      have t_317 : a_289 < h_305.size := Nat.lt_of_lt_of_le t_302 K_306.1
      have z_318 : n0 ≤ h_305.size := Nat.le_trans z_301 K_306.1
      show (Go false l room_1 Z x code maxLocals ret n0 16 128 (fun v h => v = some (.int 1))) h_305 (0 + 1 + 1 + 1 + 1) (0 + 3 + 1 + 2 + 4) 217 #[.val (.int x0), .val (.int x1), .val (.int x2), .val (.int x3), .val (.long y0), .second, .val (.int x4), .val (.int n_179), .val (.int (1 : Int32)), .val (.int (0 : Int32)), .val (.int t_184), .val (.int t_186), .val (.int t_188), .val (.int t_190), .val (.int t_192), .val (.int t_194), .val (.ref a_198), .val (.ref a_270), .unset, .unset, .unset, .unset, .unset, .unset] [(.ref a_289)]
      refine Go.astore (pc' := 219) (Ls' := #[.val (.int x0), .val (.int x1), .val (.int x2), .val (.int x3), .val (.long y0), .second, .val (.int x4), .val (.int n_179), .val (.int (1 : Int32)), .val (.int (0 : Int32)), .val (.int t_184), .val (.int t_186), .val (.int t_188), .val (.int t_190), .val (.int t_192), .val (.int t_194), .val (.ref a_198), .val (.ref a_270), .val (.ref a_289), .unset, .unset, .unset, .unset, .unset]) at_217 rfl rfl rfl ?_
      refine Go.aload (pc' := 221) at_219 rfl rfl rfl ?_
      refine Go.aload (pc' := 223) at_221 rfl rfl rfl ?_
      refine Go.callV (pc' := 226) (argsL := [(.ref a_270)]) (rest := []) (W := 0) (hw _ (List.mem_of_getElem? (i := 21) rfl)) (hw _ (List.mem_of_getElem? (i := 22) rfl)) (hw _ (List.mem_of_getElem? (i := 24) rfl)) (hw _ (List.mem_of_getElem? (i := 23) rfl)) (hw _ (List.mem_of_getElem? (i := 5) rfl)) (hw _ (List.mem_of_getElem? (i := 25) rfl)) (by decide) f_312 (m_h1 l Z a0 hw a_289 e a_270 W t_190 h_305 n0 z_318 f_312 F_308 A_309 f_311 (by omega)) at_223 rfl pd2 rfl rfl (Nat.le_of_eq rfl) (by decide) (by decide) (by decide) (by decide) rfl ?_
      rintro _ _ ⟨r, rfl, rfl, hr, hr2⟩
      show (Go false l room_1 Z x code maxLocals ret n0 16 128 (fun v h => v = some (.int 1))) h_305 (0 + 1 + 1 + 1 + 1 + 0) (0 + 3 + 1 + 2 + 4 + 0) 226 #[.val (.int x0), .val (.int x1), .val (.int x2), .val (.int x3), .val (.long y0), .second, .val (.int x4), .val (.int n_179), .val (.int (1 : Int32)), .val (.int (0 : Int32)), .val (.int t_184), .val (.int t_186), .val (.int t_188), .val (.int t_190), .val (.int t_192), .val (.int t_194), .val (.ref a_198), .val (.ref a_270), .val (.ref a_289), .unset, .unset, .unset, .unset, .unset] [(.int r)]
      refine Go.istore (pc' := 228) (Ls' := #[.val (.int x0), .val (.int x1), .val (.int x2), .val (.int x3), .val (.long y0), .second, .val (.int x4), .val (.int n_179), .val (.int (1 : Int32)), .val (.int (0 : Int32)), .val (.int t_184), .val (.int t_186), .val (.int t_188), .val (.int t_190), .val (.int t_192), .val (.int t_194), .val (.ref a_198), .val (.ref a_270), .val (.ref a_289), .val (.int r), .unset, .unset, .unset, .unset]) at_226 rfl rfl ?_
      refine Go.iload (pc' := 230) at_228 rfl rfl ?_
      refine Go.iload (pc' := 232) at_230 rfl rfl ?_
      refine Go.iload (pc' := 234) at_232 rfl rfl ?_
      refine Go.iload (pc' := 236) at_234 rfl rfl ?_
      refine Go.iload (pc' := 238) at_236 rfl rfl ?_
      refine Go.callS (pc' := 241) (argsL := [(.int t_190), (.int (0 : Int32)), (.int t_184), (.int t_186), (.int t_188)]) (rest := []) (W := 0) (hw _ (List.mem_of_getElem? (i := 26) rfl)) (hw _ (List.mem_of_getElem? (i := 27) rfl)) (hw _ (List.mem_of_getElem? (i := 28) rfl)) (hw _ (List.mem_of_getElem? (i := 29) rfl)) (by decide) (m_n l Z a0 hw t_190 (0 : Int32) t_184 t_186 t_188 h_305 n0 z_318) at_238 rfl pd3 rfl rfl (Nat.le_of_eq rfl) (by decide) (by decide) (by decide) (by decide) rfl ?_
      rintro _ _ ⟨g0, rfl, rfl, hg0, hgg0⟩
      show (Go false l room_1 Z x code maxLocals ret n0 16 128 (fun v h => v = some (.int 1))) h_305 (0 + 1 + 1 + 1 + 1 + 0 + 0) (0 + 3 + 1 + 2 + 4 + 0 + 0) 241 #[.val (.int x0), .val (.int x1), .val (.int x2), .val (.int x3), .val (.long y0), .second, .val (.int x4), .val (.int n_179), .val (.int (1 : Int32)), .val (.int (0 : Int32)), .val (.int t_184), .val (.int t_186), .val (.int t_188), .val (.int t_190), .val (.int t_192), .val (.int t_194), .val (.ref a_198), .val (.ref a_270), .val (.ref a_289), .val (.int r), .unset, .unset, .unset, .unset] [(.int g0)]
      refine Go.istore (pc' := 243) (Ls' := #[.val (.int x0), .val (.int x1), .val (.int x2), .val (.int x3), .val (.long y0), .second, .val (.int x4), .val (.int n_179), .val (.int (1 : Int32)), .val (.int (0 : Int32)), .val (.int t_184), .val (.int t_186), .val (.int t_188), .val (.int t_190), .val (.int t_192), .val (.int t_194), .val (.ref a_198), .val (.ref a_270), .val (.ref a_289), .val (.int r), .val (.int g0), .unset, .unset, .unset]) at_241 rfl rfl ?_
      refine Go.iload (pc' := 245) at_243 rfl rfl ?_
      refine Go.iload (pc' := 247) at_245 rfl rfl ?_
      refine Go.iload (pc' := 249) at_247 rfl rfl ?_
      refine Go.iload (pc' := 251) at_249 rfl rfl ?_
      refine Go.iload (pc' := 253) at_251 rfl rfl ?_
      refine Go.callS (pc' := 256) (argsL := [(.int t_192), (.int (0 : Int32)), (.int t_184), (.int t_186), (.int t_188)]) (rest := []) (W := 0) (hw _ (List.mem_of_getElem? (i := 26) rfl)) (hw _ (List.mem_of_getElem? (i := 27) rfl)) (hw _ (List.mem_of_getElem? (i := 28) rfl)) (hw _ (List.mem_of_getElem? (i := 29) rfl)) (by decide) (m_n l Z a0 hw t_192 (0 : Int32) t_184 t_186 t_188 h_305 n0 z_318) at_253 rfl pd3 rfl rfl (Nat.le_of_eq rfl) (by decide) (by decide) (by decide) (by decide) rfl ?_
      rintro _ _ ⟨g1, rfl, rfl, hg1, hgg1⟩
      show (Go false l room_1 Z x code maxLocals ret n0 16 128 (fun v h => v = some (.int 1))) h_305 (0 + 1 + 1 + 1 + 1 + 0 + 0 + 0) (0 + 3 + 1 + 2 + 4 + 0 + 0 + 0) 256 #[.val (.int x0), .val (.int x1), .val (.int x2), .val (.int x3), .val (.long y0), .second, .val (.int x4), .val (.int n_179), .val (.int (1 : Int32)), .val (.int (0 : Int32)), .val (.int t_184), .val (.int t_186), .val (.int t_188), .val (.int t_190), .val (.int t_192), .val (.int t_194), .val (.ref a_198), .val (.ref a_270), .val (.ref a_289), .val (.int r), .val (.int g0), .unset, .unset, .unset] [(.int g1)]
      refine Go.istore (pc' := 258) (Ls' := #[.val (.int x0), .val (.int x1), .val (.int x2), .val (.int x3), .val (.long y0), .second, .val (.int x4), .val (.int n_179), .val (.int (1 : Int32)), .val (.int (0 : Int32)), .val (.int t_184), .val (.int t_186), .val (.int t_188), .val (.int t_190), .val (.int t_192), .val (.int t_194), .val (.ref a_198), .val (.ref a_270), .val (.ref a_289), .val (.int r), .val (.int g0), .val (.int g1), .unset, .unset]) at_256 rfl rfl ?_
      refine Go.iload (pc' := 260) at_258 rfl rfl ?_
      refine Go.iload (pc' := 262) at_260 rfl rfl ?_
      refine Go.iload (pc' := 264) at_262 rfl rfl ?_
      refine Go.iload (pc' := 266) at_264 rfl rfl ?_
      refine Go.iload (pc' := 268) at_266 rfl rfl ?_
      refine Go.callS (pc' := 271) (argsL := [(.int t_194), (.int (0 : Int32)), (.int t_184), (.int t_186), (.int t_188)]) (rest := []) (W := 0) (hw _ (List.mem_of_getElem? (i := 26) rfl)) (hw _ (List.mem_of_getElem? (i := 27) rfl)) (hw _ (List.mem_of_getElem? (i := 28) rfl)) (hw _ (List.mem_of_getElem? (i := 29) rfl)) (by decide) (m_n l Z a0 hw t_194 (0 : Int32) t_184 t_186 t_188 h_305 n0 z_318) at_268 rfl pd3 rfl rfl (Nat.le_of_eq rfl) (by decide) (by decide) (by decide) (by decide) rfl ?_
      rintro _ _ ⟨g2, rfl, rfl, hg2, hgg2⟩
      show (Go false l room_1 Z x code maxLocals ret n0 16 128 (fun v h => v = some (.int 1))) h_305 (0 + 1 + 1 + 1 + 1 + 0 + 0 + 0 + 0) (0 + 3 + 1 + 2 + 4 + 0 + 0 + 0 + 0) 271 #[.val (.int x0), .val (.int x1), .val (.int x2), .val (.int x3), .val (.long y0), .second, .val (.int x4), .val (.int n_179), .val (.int (1 : Int32)), .val (.int (0 : Int32)), .val (.int t_184), .val (.int t_186), .val (.int t_188), .val (.int t_190), .val (.int t_192), .val (.int t_194), .val (.ref a_198), .val (.ref a_270), .val (.ref a_289), .val (.int r), .val (.int g0), .val (.int g1), .unset, .unset] [(.int g2)]
      have p0 : (own_bt W t_190.toInt.toNat = true ↔ g0.toInt = 1) := by rw [hbt, hgg0, show ((t_190.toInt.toNat : Nat) : Int) = t_190.toInt from by omega]; exact ⟨fun z => ⟨rfl, z⟩, fun z => z.2⟩
      have p1 : (own_bt W t_192.toInt.toNat = true ↔ g1.toInt = 1) := by rw [hbt, hgg1, show ((t_192.toInt.toNat : Nat) : Int) = t_192.toInt from by omega]; exact ⟨fun z => ⟨rfl, z⟩, fun z => z.2⟩
      have p2 : (own_bt W t_194.toInt.toNat = true ↔ g2.toInt = 1) := by rw [hbt, hgg2, show ((t_194.toInt.toNat : Nat) : Int) = t_194.toInt from by omega]; exact ⟨fun z => ⟨rfl, z⟩, fun z => z.2⟩
      rw [p0] at hr2
      clear p0 p1 p2 hgg0 hgg1 hgg2 hbt
      have z0 : (0 : Int32).toInt = 0 := rfl
      have z1 : (1 : Int32).toInt = 1 := rfl
      refine Go.istore (pc' := 273) (Ls' := #[.val (.int x0), .val (.int x1), .val (.int x2), .val (.int x3), .val (.long y0), .second, .val (.int x4), .val (.int n_179), .val (.int (1 : Int32)), .val (.int (0 : Int32)), .val (.int t_184), .val (.int t_186), .val (.int t_188), .val (.int t_190), .val (.int t_192), .val (.int t_194), .val (.ref a_198), .val (.ref a_270), .val (.ref a_289), .val (.int r), .val (.int g0), .val (.int g1), .val (.int g2), .unset]) at_271 rfl rfl ?_
      refine Go.iload (pc' := 275) at_273 rfl rfl ?_
      refine Go.ifc (pc1 := 284) (pc2 := 278) at_275 (by decide) (by decide) rfl (fun (c_319 : (1 : Int) ≠ 0) => ?_) (fun (c_319 : (1 : Int) = 0) => ?_)
      rotate_left
      · exact absurd c_319 (by decide)
      refine Go.iload (pc' := 286) at_284 rfl rfl ?_
      refine Go.iconst (pc' := 287) (v := (1 : Int32)) at_286 rfl rfl ?_
      refine Go.icmp (pc1 := 297) (pc2 := 290) at_287 (by decide) (by decide) rfl (fun (c_320 : (1 : Int) ≠ (1 : Int)) => ?_) (fun (c_320 : (1 : Int) = (1 : Int)) => ?_)
      · exact absurd c_320 (by decide)
      refine Go.iload (pc' := 292) at_290 rfl rfl ?_
      refine Go.istore (pc' := 294) (Ls' := #[.val (.int x0), .val (.int x1), .val (.int x2), .val (.int x3), .val (.long y0), .second, .val (.int x4), .val (.int n_179), .val (.int (1 : Int32)), .val (.int (0 : Int32)), .val (.int t_184), .val (.int t_186), .val (.int t_188), .val (.int t_190), .val (.int t_192), .val (.int t_194), .val (.ref a_198), .val (.ref a_270), .val (.ref a_289), .val (.int r), .val (.int g0), .val (.int g1), .val (.int g2), .val (.int g0)]) at_292 rfl rfl ?_
      refine Go.goto (pc' := 345) at_294 (by decide) (by decide) ?_
      refine Go.iload (pc' := 347) at_345 rfl rfl ?_
      refine Go.iload (pc' := 349) at_347 rfl rfl ?_
      refine Go.icmp (pc1 := 356) (pc2 := 352) at_349 (by decide) (by decide) rfl (fun (c_321 : r.toInt ≠ g0.toInt) => ?_) (fun (c_321 : r.toInt = g0.toInt) => ?_)
      · exact absurd (by omega) c_321
      refine Go.iconst (pc' := 353) (v := (1 : Int32)) at_352 rfl rfl ?_
      refine Go.goto (pc' := 357) at_353 (by decide) (by decide) ?_
      exact Go.retN (t := .boolean) at_357 rfl (by simp) rfl rfl (by decide) (by decide)
    · obtain rfl : k_181 = (2 : Int32) := Int32.toInt_inj.mp k_182
      refine Go.ifc (pc1 := 143) (pc2 := 135) at_132 (by decide) (by decide) rfl (fun (c_322 : (2 : Int) ≠ 0) => ?_) (fun (c_322 : (2 : Int) = 0) => ?_)
      rotate_left
      · exact absurd c_322 (by decide)
      refine Go.iload (pc' := 145) at_143 rfl rfl ?_
      refine Go.iconst (pc' := 146) (v := (1 : Int32)) at_145 rfl rfl ?_
      refine Go.icmp (pc1 := 162) (pc2 := 149) at_146 (by decide) (by decide) rfl (fun (c_323 : (2 : Int) ≠ (1 : Int)) => ?_) (fun (c_323 : (2 : Int) = (1 : Int)) => ?_)
      rotate_left
      · exact absurd c_323 (by decide)
      refine Go.iload (pc' := 164) at_162 rfl rfl ?_
      refine Go.iconst (pc' := 165) (v := (2 : Int32)) at_164 rfl rfl ?_
      refine Go.icmp (pc1 := 186) (pc2 := 168) at_165 (by decide) (by decide) rfl (fun (c_324 : (2 : Int) ≠ (2 : Int)) => ?_) (fun (c_324 : (2 : Int) = (2 : Int)) => ?_)
      · exact absurd c_324 (by decide)
      refine Go.iconst (pc' := 169) (v := (2 : Int32)) at_168 rfl rfl ?_
      refine Go.newA (pc' := 171) (k := 2) (ty := .int) (cap := 2) (hw _ (List.mem_of_getElem? (i := 2) rfl)) rfl rfl (by decide) (by decide) at_169 (by decide) (by decide) rfl ?_
      intro h_325 a_326 q_327 E_328 A_329
      have n_331 : a_198 ≠ a_326 := Nat.ne_of_lt (q_327 ▸ t_219)
      have g_332 : n0 ≤ a_326 := q_327 ▸ z_220
      have f_333 : Ary Z h_325 a_198 .int [(.int t_184), (.int t_186), (.int t_188)] := A_218.sm (Sm.ext E_328)
      have t_334 : a_198 < h_325.size := Nat.lt_of_lt_of_le t_219 E_328.1
      have z_335 : n0 ≤ h_325.size := Nat.le_trans z_220 E_328.1
      have t_336 : a_326 < h_325.size := A_329.lt
      change Ary Z h_325 a_326 .int [(.int (0 : Int32)), (.int (0 : Int32))] at A_329
      refine Go.dup (pc' := 172) at_171 rfl rfl ?_
      refine Go.iconst (pc' := 173) (v := (0 : Int32)) at_172 rfl rfl ?_
      refine Go.iload (pc' := 175) at_173 rfl rfl ?_
      refine Go.stI (pc' := 176) (k := 0) A_329 rfl (by show 0 < 2; decide) at_175 g_332 rfl ?_
      intro h_337 W_338 A_339
      have f_340 : Ary Z h_337 a_198 .int [(.int t_184), (.int t_186), (.int t_188)] := f_333.sm (Sm.wr W_338 n_331)
      have t_341 : a_198 < h_337.size := Nat.lt_of_lt_of_le t_334 (Nat.le_of_eq W_338.size.symm)
      have t_342 : a_326 < h_337.size := Nat.lt_of_lt_of_le t_336 (Nat.le_of_eq W_338.size.symm)
      have z_343 : n0 ≤ h_337.size := Nat.le_trans z_335 (Nat.le_of_eq W_338.size.symm)
      change Ary Z h_337 a_326 .int [(.int t_190), (.int (0 : Int32))] at A_339
      refine Go.dup (pc' := 177) at_176 rfl rfl ?_
      refine Go.iconst (pc' := 178) (v := (1 : Int32)) at_177 rfl rfl ?_
      refine Go.iload (pc' := 180) at_178 rfl rfl ?_
      refine Go.stI (pc' := 181) (k := 1) A_339 rfl (by show 1 < 2; decide) at_180 g_332 rfl ?_
      intro h_344 W_345 A_346
      have f_347 : Ary Z h_344 a_198 .int [(.int t_184), (.int t_186), (.int t_188)] := f_340.sm (Sm.wr W_345 n_331)
      have t_348 : a_198 < h_344.size := Nat.lt_of_lt_of_le t_341 (Nat.le_of_eq W_345.size.symm)
      have t_349 : a_326 < h_344.size := Nat.lt_of_lt_of_le t_342 (Nat.le_of_eq W_345.size.symm)
      have z_350 : n0 ≤ h_344.size := Nat.le_trans z_343 (Nat.le_of_eq W_345.size.symm)
      change Ary Z h_344 a_326 .int [(.int t_190), (.int t_192)] at A_346
      refine Go.astore (pc' := 183) (Ls' := #[.val (.int x0), .val (.int x1), .val (.int x2), .val (.int x3), .val (.long y0), .second, .val (.int x4), .val (.int n_179), .val (.int (2 : Int32)), .val (.int (0 : Int32)), .val (.int t_184), .val (.int t_186), .val (.int t_188), .val (.int t_190), .val (.int t_192), .val (.int t_194), .val (.ref a_198), .val (.ref a_326), .unset, .unset, .unset, .unset, .unset, .unset]) at_181 rfl rfl rfl ?_
      refine Go.goto (pc' := 206) at_183 (by decide) (by decide) ?_
      refine Go.newO (pc' := 209) (hw _ (List.mem_of_getElem? (i := 3) rfl)) (hw _ (List.mem_of_getElem? (i := 4) rfl)) (hw _ (List.mem_of_getElem? (i := 5) rfl)) at_206 (by decide) (by decide) rfl ?_
      intro h_351 a_352 q_353 E_354 A_355 D_356
      have n_357 : a_198 ≠ a_352 := Nat.ne_of_lt (q_353 ▸ t_348)
      have n_358 : a_326 ≠ a_352 := Nat.ne_of_lt (q_353 ▸ t_349)
      have g_359 : n0 ≤ a_352 := q_353 ▸ z_350
      have f_360 : Ary Z h_351 a_198 .int [(.int t_184), (.int t_186), (.int t_188)] := f_347.sm (Sm.ext E_354)
      have f_361 : Ary Z h_351 a_326 .int [(.int t_190), (.int t_192)] := A_346.sm (Sm.ext E_354)
      have t_362 : a_198 < h_351.size := Nat.lt_of_lt_of_le t_348 E_354.1
      have t_363 : a_326 < h_351.size := Nat.lt_of_lt_of_le t_349 E_354.1
      have z_364 : n0 ≤ h_351.size := Nat.le_trans z_350 E_354.1
      have t_365 : a_352 < h_351.size := A_355.lt
      have f_366 : Fld Z h_351 a_352 "com/example/forward_planner/forwardplanner/model/State" "factCount" "I" (.int (0 : Int32)) := D_356 (Or.inr (hw _ (List.mem_of_getElem? (i := 13) rfl))) (ty := .int) (by decide)
      have f_367 : Fld Z h_351 a_352 "com/example/forward_planner/forwardplanner/model/State" "words" "[J" .null := D_356 (Or.inr (hw _ (List.mem_of_getElem? (i := 16) rfl))) (ty := (.array .long)) (by decide)
      refine Go.dup (pc' := 210) at_209 rfl rfl ?_
      refine Go.iload (pc' := 212) at_210 rfl rfl ?_
      refine Go.aload (pc' := 214) at_212 rfl rfl rfl ?_
      refine Go.callN (pc' := 217) (argsL := [(.int n_179), (.ref a_198)]) (rest := [(.ref a_352)]) (W := 1) rfl (hw _ (List.mem_of_getElem? (i := 6) rfl)) (hw _ (List.mem_of_getElem? (i := 7) rfl)) (hw _ (List.mem_of_getElem? (i := 5) rfl)) (hw _ (List.mem_of_getElem? (i := 8) rfl)) (by decide) (m_i3 l Z a0 hw a_352 a_198 n_179 t_184 t_186 t_188 h_351 n0 z_364 A_355 f_366 f_367 g_359 f_360 n_357.symm (by omega) (by omega) (by omega) (by omega)) at_214 rfl pd1 rfl rfl (Nat.le_of_eq rfl) (by decide) (by decide) (by decide) (by decide) rfl ?_
      rintro _ h_368 ⟨rfl, e, W, K_369, X_370, F_371, A_372, he, hlt, hlen, hbt⟩
      have f_373 : Ary Z h_368 a_198 .int [(.int t_184), (.int t_186), (.int t_188)] := f_360.sm (Sm.keep K_369 (ninS n_357 nin0))
      have f_374 : Ary Z h_368 a_326 .int [(.int t_190), (.int t_192)] := f_361.sm (Sm.keep K_369 (ninS n_358 nin0))
      have f_375 : Exa Z h_368 a_352 "com/example/forward_planner/forwardplanner/model/State" := A_355.keep K_369
      have t_378 : a_198 < h_368.size := Nat.lt_of_lt_of_le t_362 K_369.1
      have t_379 : a_326 < h_368.size := Nat.lt_of_lt_of_le t_363 K_369.1
      have t_380 : a_352 < h_368.size := Nat.lt_of_lt_of_le t_365 K_369.1
      have z_381 : n0 ≤ h_368.size := Nat.le_trans z_364 K_369.1
      show (Go false l room_1 Z x code maxLocals ret n0 16 128 (fun v h => v = some (.int 1))) h_368 (0 + 1 + 1 + 1 + 1) (0 + 3 + 2 + 2 + 4) 217 #[.val (.int x0), .val (.int x1), .val (.int x2), .val (.int x3), .val (.long y0), .second, .val (.int x4), .val (.int n_179), .val (.int (2 : Int32)), .val (.int (0 : Int32)), .val (.int t_184), .val (.int t_186), .val (.int t_188), .val (.int t_190), .val (.int t_192), .val (.int t_194), .val (.ref a_198), .val (.ref a_326), .unset, .unset, .unset, .unset, .unset, .unset] [(.ref a_352)]
      refine Go.astore (pc' := 219) (Ls' := #[.val (.int x0), .val (.int x1), .val (.int x2), .val (.int x3), .val (.long y0), .second, .val (.int x4), .val (.int n_179), .val (.int (2 : Int32)), .val (.int (0 : Int32)), .val (.int t_184), .val (.int t_186), .val (.int t_188), .val (.int t_190), .val (.int t_192), .val (.int t_194), .val (.ref a_198), .val (.ref a_326), .val (.ref a_352), .unset, .unset, .unset, .unset, .unset]) at_217 rfl rfl rfl ?_
      refine Go.aload (pc' := 221) at_219 rfl rfl rfl ?_
      refine Go.aload (pc' := 223) at_221 rfl rfl rfl ?_
      refine Go.callV (pc' := 226) (argsL := [(.ref a_326)]) (rest := []) (W := 0) (hw _ (List.mem_of_getElem? (i := 21) rfl)) (hw _ (List.mem_of_getElem? (i := 22) rfl)) (hw _ (List.mem_of_getElem? (i := 24) rfl)) (hw _ (List.mem_of_getElem? (i := 23) rfl)) (hw _ (List.mem_of_getElem? (i := 5) rfl)) (hw _ (List.mem_of_getElem? (i := 25) rfl)) (by decide) f_375 (m_h2 l Z a0 hw a_352 e a_326 W t_190 t_192 h_368 n0 z_381 f_375 F_371 A_372 f_374 (by omega) (by omega)) at_223 rfl pd2 rfl rfl (Nat.le_of_eq rfl) (by decide) (by decide) (by decide) (by decide) rfl ?_
      rintro _ _ ⟨r, rfl, rfl, hr, hr2⟩
      show (Go false l room_1 Z x code maxLocals ret n0 16 128 (fun v h => v = some (.int 1))) h_368 (0 + 1 + 1 + 1 + 1 + 0) (0 + 3 + 2 + 2 + 4 + 0) 226 #[.val (.int x0), .val (.int x1), .val (.int x2), .val (.int x3), .val (.long y0), .second, .val (.int x4), .val (.int n_179), .val (.int (2 : Int32)), .val (.int (0 : Int32)), .val (.int t_184), .val (.int t_186), .val (.int t_188), .val (.int t_190), .val (.int t_192), .val (.int t_194), .val (.ref a_198), .val (.ref a_326), .val (.ref a_352), .unset, .unset, .unset, .unset, .unset] [(.int r)]
      refine Go.istore (pc' := 228) (Ls' := #[.val (.int x0), .val (.int x1), .val (.int x2), .val (.int x3), .val (.long y0), .second, .val (.int x4), .val (.int n_179), .val (.int (2 : Int32)), .val (.int (0 : Int32)), .val (.int t_184), .val (.int t_186), .val (.int t_188), .val (.int t_190), .val (.int t_192), .val (.int t_194), .val (.ref a_198), .val (.ref a_326), .val (.ref a_352), .val (.int r), .unset, .unset, .unset, .unset]) at_226 rfl rfl ?_
      refine Go.iload (pc' := 230) at_228 rfl rfl ?_
      refine Go.iload (pc' := 232) at_230 rfl rfl ?_
      refine Go.iload (pc' := 234) at_232 rfl rfl ?_
      refine Go.iload (pc' := 236) at_234 rfl rfl ?_
      refine Go.iload (pc' := 238) at_236 rfl rfl ?_
      refine Go.callS (pc' := 241) (argsL := [(.int t_190), (.int (0 : Int32)), (.int t_184), (.int t_186), (.int t_188)]) (rest := []) (W := 0) (hw _ (List.mem_of_getElem? (i := 26) rfl)) (hw _ (List.mem_of_getElem? (i := 27) rfl)) (hw _ (List.mem_of_getElem? (i := 28) rfl)) (hw _ (List.mem_of_getElem? (i := 29) rfl)) (by decide) (m_n l Z a0 hw t_190 (0 : Int32) t_184 t_186 t_188 h_368 n0 z_381) at_238 rfl pd3 rfl rfl (Nat.le_of_eq rfl) (by decide) (by decide) (by decide) (by decide) rfl ?_
      rintro _ _ ⟨g0, rfl, rfl, hg0, hgg0⟩
      show (Go false l room_1 Z x code maxLocals ret n0 16 128 (fun v h => v = some (.int 1))) h_368 (0 + 1 + 1 + 1 + 1 + 0 + 0) (0 + 3 + 2 + 2 + 4 + 0 + 0) 241 #[.val (.int x0), .val (.int x1), .val (.int x2), .val (.int x3), .val (.long y0), .second, .val (.int x4), .val (.int n_179), .val (.int (2 : Int32)), .val (.int (0 : Int32)), .val (.int t_184), .val (.int t_186), .val (.int t_188), .val (.int t_190), .val (.int t_192), .val (.int t_194), .val (.ref a_198), .val (.ref a_326), .val (.ref a_352), .val (.int r), .unset, .unset, .unset, .unset] [(.int g0)]
      refine Go.istore (pc' := 243) (Ls' := #[.val (.int x0), .val (.int x1), .val (.int x2), .val (.int x3), .val (.long y0), .second, .val (.int x4), .val (.int n_179), .val (.int (2 : Int32)), .val (.int (0 : Int32)), .val (.int t_184), .val (.int t_186), .val (.int t_188), .val (.int t_190), .val (.int t_192), .val (.int t_194), .val (.ref a_198), .val (.ref a_326), .val (.ref a_352), .val (.int r), .val (.int g0), .unset, .unset, .unset]) at_241 rfl rfl ?_
      refine Go.iload (pc' := 245) at_243 rfl rfl ?_
      refine Go.iload (pc' := 247) at_245 rfl rfl ?_
      refine Go.iload (pc' := 249) at_247 rfl rfl ?_
      refine Go.iload (pc' := 251) at_249 rfl rfl ?_
      refine Go.iload (pc' := 253) at_251 rfl rfl ?_
      refine Go.callS (pc' := 256) (argsL := [(.int t_192), (.int (0 : Int32)), (.int t_184), (.int t_186), (.int t_188)]) (rest := []) (W := 0) (hw _ (List.mem_of_getElem? (i := 26) rfl)) (hw _ (List.mem_of_getElem? (i := 27) rfl)) (hw _ (List.mem_of_getElem? (i := 28) rfl)) (hw _ (List.mem_of_getElem? (i := 29) rfl)) (by decide) (m_n l Z a0 hw t_192 (0 : Int32) t_184 t_186 t_188 h_368 n0 z_381) at_253 rfl pd3 rfl rfl (Nat.le_of_eq rfl) (by decide) (by decide) (by decide) (by decide) rfl ?_
      rintro _ _ ⟨g1, rfl, rfl, hg1, hgg1⟩
      show (Go false l room_1 Z x code maxLocals ret n0 16 128 (fun v h => v = some (.int 1))) h_368 (0 + 1 + 1 + 1 + 1 + 0 + 0 + 0) (0 + 3 + 2 + 2 + 4 + 0 + 0 + 0) 256 #[.val (.int x0), .val (.int x1), .val (.int x2), .val (.int x3), .val (.long y0), .second, .val (.int x4), .val (.int n_179), .val (.int (2 : Int32)), .val (.int (0 : Int32)), .val (.int t_184), .val (.int t_186), .val (.int t_188), .val (.int t_190), .val (.int t_192), .val (.int t_194), .val (.ref a_198), .val (.ref a_326), .val (.ref a_352), .val (.int r), .val (.int g0), .unset, .unset, .unset] [(.int g1)]
      refine Go.istore (pc' := 258) (Ls' := #[.val (.int x0), .val (.int x1), .val (.int x2), .val (.int x3), .val (.long y0), .second, .val (.int x4), .val (.int n_179), .val (.int (2 : Int32)), .val (.int (0 : Int32)), .val (.int t_184), .val (.int t_186), .val (.int t_188), .val (.int t_190), .val (.int t_192), .val (.int t_194), .val (.ref a_198), .val (.ref a_326), .val (.ref a_352), .val (.int r), .val (.int g0), .val (.int g1), .unset, .unset]) at_256 rfl rfl ?_
      refine Go.iload (pc' := 260) at_258 rfl rfl ?_
      refine Go.iload (pc' := 262) at_260 rfl rfl ?_
      refine Go.iload (pc' := 264) at_262 rfl rfl ?_
      refine Go.iload (pc' := 266) at_264 rfl rfl ?_
      refine Go.iload (pc' := 268) at_266 rfl rfl ?_
      refine Go.callS (pc' := 271) (argsL := [(.int t_194), (.int (0 : Int32)), (.int t_184), (.int t_186), (.int t_188)]) (rest := []) (W := 0) (hw _ (List.mem_of_getElem? (i := 26) rfl)) (hw _ (List.mem_of_getElem? (i := 27) rfl)) (hw _ (List.mem_of_getElem? (i := 28) rfl)) (hw _ (List.mem_of_getElem? (i := 29) rfl)) (by decide) (m_n l Z a0 hw t_194 (0 : Int32) t_184 t_186 t_188 h_368 n0 z_381) at_268 rfl pd3 rfl rfl (Nat.le_of_eq rfl) (by decide) (by decide) (by decide) (by decide) rfl ?_
      rintro _ _ ⟨g2, rfl, rfl, hg2, hgg2⟩
      show (Go false l room_1 Z x code maxLocals ret n0 16 128 (fun v h => v = some (.int 1))) h_368 (0 + 1 + 1 + 1 + 1 + 0 + 0 + 0 + 0) (0 + 3 + 2 + 2 + 4 + 0 + 0 + 0 + 0) 271 #[.val (.int x0), .val (.int x1), .val (.int x2), .val (.int x3), .val (.long y0), .second, .val (.int x4), .val (.int n_179), .val (.int (2 : Int32)), .val (.int (0 : Int32)), .val (.int t_184), .val (.int t_186), .val (.int t_188), .val (.int t_190), .val (.int t_192), .val (.int t_194), .val (.ref a_198), .val (.ref a_326), .val (.ref a_352), .val (.int r), .val (.int g0), .val (.int g1), .unset, .unset] [(.int g2)]
      have p0 : (own_bt W t_190.toInt.toNat = true ↔ g0.toInt = 1) := by rw [hbt, hgg0, show ((t_190.toInt.toNat : Nat) : Int) = t_190.toInt from by omega]; exact ⟨fun z => ⟨rfl, z⟩, fun z => z.2⟩
      have p1 : (own_bt W t_192.toInt.toNat = true ↔ g1.toInt = 1) := by rw [hbt, hgg1, show ((t_192.toInt.toNat : Nat) : Int) = t_192.toInt from by omega]; exact ⟨fun z => ⟨rfl, z⟩, fun z => z.2⟩
      have p2 : (own_bt W t_194.toInt.toNat = true ↔ g2.toInt = 1) := by rw [hbt, hgg2, show ((t_194.toInt.toNat : Nat) : Int) = t_194.toInt from by omega]; exact ⟨fun z => ⟨rfl, z⟩, fun z => z.2⟩
      rw [p0, p1] at hr2
      clear p0 p1 p2 hgg0 hgg1 hgg2 hbt
      have z0 : (0 : Int32).toInt = 0 := rfl
      have z1 : (1 : Int32).toInt = 1 := rfl
      refine Go.istore (pc' := 273) (Ls' := #[.val (.int x0), .val (.int x1), .val (.int x2), .val (.int x3), .val (.long y0), .second, .val (.int x4), .val (.int n_179), .val (.int (2 : Int32)), .val (.int (0 : Int32)), .val (.int t_184), .val (.int t_186), .val (.int t_188), .val (.int t_190), .val (.int t_192), .val (.int t_194), .val (.ref a_198), .val (.ref a_326), .val (.ref a_352), .val (.int r), .val (.int g0), .val (.int g1), .val (.int g2), .unset]) at_271 rfl rfl ?_
      refine Go.iload (pc' := 275) at_273 rfl rfl ?_
      refine Go.ifc (pc1 := 284) (pc2 := 278) at_275 (by decide) (by decide) rfl (fun (c_382 : (2 : Int) ≠ 0) => ?_) (fun (c_382 : (2 : Int) = 0) => ?_)
      rotate_left
      · exact absurd c_382 (by decide)
      refine Go.iload (pc' := 286) at_284 rfl rfl ?_
      refine Go.iconst (pc' := 287) (v := (1 : Int32)) at_286 rfl rfl ?_
      refine Go.icmp (pc1 := 297) (pc2 := 290) at_287 (by decide) (by decide) rfl (fun (c_383 : (2 : Int) ≠ (1 : Int)) => ?_) (fun (c_383 : (2 : Int) = (1 : Int)) => ?_)
      rotate_left
      · exact absurd c_383 (by decide)
      refine Go.iload (pc' := 299) at_297 rfl rfl ?_
      refine Go.iconst (pc' := 300) (v := (2 : Int32)) at_299 rfl rfl ?_
      refine Go.icmp (pc1 := 323) (pc2 := 303) at_300 (by decide) (by decide) rfl (fun (c_384 : (2 : Int) ≠ (2 : Int)) => ?_) (fun (c_384 : (2 : Int) = (2 : Int)) => ?_)
      · exact absurd c_384 (by decide)
      refine Go.iload (pc' := 305) at_303 rfl rfl ?_
      refine Go.ifc (pc1 := 317) (pc2 := 308) at_305 (by decide) (by decide) rfl (fun (c_385 : g0.toInt = 0) => ?_) (fun (c_385 : g0.toInt ≠ 0) => ?_)
      · refine Go.iconst (pc' := 318) (v := (0 : Int32)) at_317 rfl rfl ?_
        refine Go.istore (pc' := 320) (Ls' := #[.val (.int x0), .val (.int x1), .val (.int x2), .val (.int x3), .val (.long y0), .second, .val (.int x4), .val (.int n_179), .val (.int (2 : Int32)), .val (.int (0 : Int32)), .val (.int t_184), .val (.int t_186), .val (.int t_188), .val (.int t_190), .val (.int t_192), .val (.int t_194), .val (.ref a_198), .val (.ref a_326), .val (.ref a_352), .val (.int r), .val (.int g0), .val (.int g1), .val (.int g2), .val (.int (0 : Int32))]) at_318 rfl rfl ?_
        refine Go.goto (pc' := 345) at_320 (by decide) (by decide) ?_
        refine Go.iload (pc' := 347) at_345 rfl rfl ?_
        refine Go.iload (pc' := 349) at_347 rfl rfl ?_
        refine Go.icmp (pc1 := 356) (pc2 := 352) at_349 (by decide) (by decide) rfl (fun (c_386 : r.toInt ≠ (0 : Int)) => ?_) (fun (c_386 : r.toInt = (0 : Int)) => ?_)
        · exact absurd (by omega) c_386
        refine Go.iconst (pc' := 353) (v := (1 : Int32)) at_352 rfl rfl ?_
        refine Go.goto (pc' := 357) at_353 (by decide) (by decide) ?_
        exact Go.retN (t := .boolean) at_357 rfl (by simp) rfl rfl (by decide) (by decide)
      · refine Go.iload (pc' := 310) at_308 rfl rfl ?_
        refine Go.ifc (pc1 := 317) (pc2 := 313) at_310 (by decide) (by decide) rfl (fun (c_387 : g1.toInt = 0) => ?_) (fun (c_387 : g1.toInt ≠ 0) => ?_)
        · refine Go.iconst (pc' := 318) (v := (0 : Int32)) at_317 rfl rfl ?_
          refine Go.istore (pc' := 320) (Ls' := #[.val (.int x0), .val (.int x1), .val (.int x2), .val (.int x3), .val (.long y0), .second, .val (.int x4), .val (.int n_179), .val (.int (2 : Int32)), .val (.int (0 : Int32)), .val (.int t_184), .val (.int t_186), .val (.int t_188), .val (.int t_190), .val (.int t_192), .val (.int t_194), .val (.ref a_198), .val (.ref a_326), .val (.ref a_352), .val (.int r), .val (.int g0), .val (.int g1), .val (.int g2), .val (.int (0 : Int32))]) at_318 rfl rfl ?_
          refine Go.goto (pc' := 345) at_320 (by decide) (by decide) ?_
          refine Go.iload (pc' := 347) at_345 rfl rfl ?_
          refine Go.iload (pc' := 349) at_347 rfl rfl ?_
          refine Go.icmp (pc1 := 356) (pc2 := 352) at_349 (by decide) (by decide) rfl (fun (c_388 : r.toInt ≠ (0 : Int)) => ?_) (fun (c_388 : r.toInt = (0 : Int)) => ?_)
          · exact absurd (by omega) c_388
          refine Go.iconst (pc' := 353) (v := (1 : Int32)) at_352 rfl rfl ?_
          refine Go.goto (pc' := 357) at_353 (by decide) (by decide) ?_
          exact Go.retN (t := .boolean) at_357 rfl (by simp) rfl rfl (by decide) (by decide)
        · refine Go.iconst (pc' := 314) (v := (1 : Int32)) at_313 rfl rfl ?_
          refine Go.goto (pc' := 318) at_314 (by decide) (by decide) ?_
          refine Go.istore (pc' := 320) (Ls' := #[.val (.int x0), .val (.int x1), .val (.int x2), .val (.int x3), .val (.long y0), .second, .val (.int x4), .val (.int n_179), .val (.int (2 : Int32)), .val (.int (0 : Int32)), .val (.int t_184), .val (.int t_186), .val (.int t_188), .val (.int t_190), .val (.int t_192), .val (.int t_194), .val (.ref a_198), .val (.ref a_326), .val (.ref a_352), .val (.int r), .val (.int g0), .val (.int g1), .val (.int g2), .val (.int (1 : Int32))]) at_318 rfl rfl ?_
          refine Go.goto (pc' := 345) at_320 (by decide) (by decide) ?_
          refine Go.iload (pc' := 347) at_345 rfl rfl ?_
          refine Go.iload (pc' := 349) at_347 rfl rfl ?_
          refine Go.icmp (pc1 := 356) (pc2 := 352) at_349 (by decide) (by decide) rfl (fun (c_389 : r.toInt ≠ (1 : Int)) => ?_) (fun (c_389 : r.toInt = (1 : Int)) => ?_)
          · exact absurd (by omega) c_389
          refine Go.iconst (pc' := 353) (v := (1 : Int32)) at_352 rfl rfl ?_
          refine Go.goto (pc' := 357) at_353 (by decide) (by decide) ?_
          exact Go.retN (t := .boolean) at_357 rfl (by simp) rfl rfl (by decide) (by decide)
    · obtain rfl : k_181 = (3 : Int32) := Int32.toInt_inj.mp k_182
      refine Go.ifc (pc1 := 143) (pc2 := 135) at_132 (by decide) (by decide) rfl (fun (c_390 : (3 : Int) ≠ 0) => ?_) (fun (c_390 : (3 : Int) = 0) => ?_)
      rotate_left
      · exact absurd c_390 (by decide)
      refine Go.iload (pc' := 145) at_143 rfl rfl ?_
      refine Go.iconst (pc' := 146) (v := (1 : Int32)) at_145 rfl rfl ?_
      refine Go.icmp (pc1 := 162) (pc2 := 149) at_146 (by decide) (by decide) rfl (fun (c_391 : (3 : Int) ≠ (1 : Int)) => ?_) (fun (c_391 : (3 : Int) = (1 : Int)) => ?_)
      rotate_left
      · exact absurd c_391 (by decide)
      refine Go.iload (pc' := 164) at_162 rfl rfl ?_
      refine Go.iconst (pc' := 165) (v := (2 : Int32)) at_164 rfl rfl ?_
      refine Go.icmp (pc1 := 186) (pc2 := 168) at_165 (by decide) (by decide) rfl (fun (c_392 : (3 : Int) ≠ (2 : Int)) => ?_) (fun (c_392 : (3 : Int) = (2 : Int)) => ?_)
      rotate_left
      · exact absurd c_392 (by decide)
      refine Go.iconst (pc' := 187) (v := (3 : Int32)) at_186 rfl rfl ?_
      refine Go.newA (pc' := 189) (k := 3) (ty := .int) (cap := 3) (hw _ (List.mem_of_getElem? (i := 2) rfl)) rfl rfl (by decide) (by decide) at_187 (by decide) (by decide) rfl ?_
      intro h_393 a_394 q_395 E_396 A_397
      have n_399 : a_198 ≠ a_394 := Nat.ne_of_lt (q_395 ▸ t_219)
      have g_400 : n0 ≤ a_394 := q_395 ▸ z_220
      have f_401 : Ary Z h_393 a_198 .int [(.int t_184), (.int t_186), (.int t_188)] := A_218.sm (Sm.ext E_396)
      have t_402 : a_198 < h_393.size := Nat.lt_of_lt_of_le t_219 E_396.1
      have z_403 : n0 ≤ h_393.size := Nat.le_trans z_220 E_396.1
      have t_404 : a_394 < h_393.size := A_397.lt
      change Ary Z h_393 a_394 .int [(.int (0 : Int32)), (.int (0 : Int32)), (.int (0 : Int32))] at A_397
      refine Go.dup (pc' := 190) at_189 rfl rfl ?_
      refine Go.iconst (pc' := 191) (v := (0 : Int32)) at_190 rfl rfl ?_
      refine Go.iload (pc' := 193) at_191 rfl rfl ?_
      refine Go.stI (pc' := 194) (k := 0) A_397 rfl (by show 0 < 3; decide) at_193 g_400 rfl ?_
      intro h_405 W_406 A_407
      have f_408 : Ary Z h_405 a_198 .int [(.int t_184), (.int t_186), (.int t_188)] := f_401.sm (Sm.wr W_406 n_399)
      have t_409 : a_198 < h_405.size := Nat.lt_of_lt_of_le t_402 (Nat.le_of_eq W_406.size.symm)
      have t_410 : a_394 < h_405.size := Nat.lt_of_lt_of_le t_404 (Nat.le_of_eq W_406.size.symm)
      have z_411 : n0 ≤ h_405.size := Nat.le_trans z_403 (Nat.le_of_eq W_406.size.symm)
      change Ary Z h_405 a_394 .int [(.int t_190), (.int (0 : Int32)), (.int (0 : Int32))] at A_407
      refine Go.dup (pc' := 195) at_194 rfl rfl ?_
      refine Go.iconst (pc' := 196) (v := (1 : Int32)) at_195 rfl rfl ?_
      refine Go.iload (pc' := 198) at_196 rfl rfl ?_
      refine Go.stI (pc' := 199) (k := 1) A_407 rfl (by show 1 < 3; decide) at_198 g_400 rfl ?_
      intro h_412 W_413 A_414
      have f_415 : Ary Z h_412 a_198 .int [(.int t_184), (.int t_186), (.int t_188)] := f_408.sm (Sm.wr W_413 n_399)
      have t_416 : a_198 < h_412.size := Nat.lt_of_lt_of_le t_409 (Nat.le_of_eq W_413.size.symm)
      have t_417 : a_394 < h_412.size := Nat.lt_of_lt_of_le t_410 (Nat.le_of_eq W_413.size.symm)
      have z_418 : n0 ≤ h_412.size := Nat.le_trans z_411 (Nat.le_of_eq W_413.size.symm)
      change Ary Z h_412 a_394 .int [(.int t_190), (.int t_192), (.int (0 : Int32))] at A_414
      refine Go.dup (pc' := 200) at_199 rfl rfl ?_
      refine Go.iconst (pc' := 201) (v := (2 : Int32)) at_200 rfl rfl ?_
      refine Go.iload (pc' := 203) at_201 rfl rfl ?_
      refine Go.stI (pc' := 204) (k := 2) A_414 rfl (by show 2 < 3; decide) at_203 g_400 rfl ?_
      intro h_419 W_420 A_421
      have f_422 : Ary Z h_419 a_198 .int [(.int t_184), (.int t_186), (.int t_188)] := f_415.sm (Sm.wr W_420 n_399)
      have t_423 : a_198 < h_419.size := Nat.lt_of_lt_of_le t_416 (Nat.le_of_eq W_420.size.symm)
      have t_424 : a_394 < h_419.size := Nat.lt_of_lt_of_le t_417 (Nat.le_of_eq W_420.size.symm)
      have z_425 : n0 ≤ h_419.size := Nat.le_trans z_418 (Nat.le_of_eq W_420.size.symm)
      change Ary Z h_419 a_394 .int [(.int t_190), (.int t_192), (.int t_194)] at A_421
      refine Go.astore (pc' := 206) (Ls' := #[.val (.int x0), .val (.int x1), .val (.int x2), .val (.int x3), .val (.long y0), .second, .val (.int x4), .val (.int n_179), .val (.int (3 : Int32)), .val (.int (0 : Int32)), .val (.int t_184), .val (.int t_186), .val (.int t_188), .val (.int t_190), .val (.int t_192), .val (.int t_194), .val (.ref a_198), .val (.ref a_394), .unset, .unset, .unset, .unset, .unset, .unset]) at_204 rfl rfl rfl ?_
      refine Go.newO (pc' := 209) (hw _ (List.mem_of_getElem? (i := 3) rfl)) (hw _ (List.mem_of_getElem? (i := 4) rfl)) (hw _ (List.mem_of_getElem? (i := 5) rfl)) at_206 (by decide) (by decide) rfl ?_
      intro h_426 a_427 q_428 E_429 A_430 D_431
      have n_432 : a_198 ≠ a_427 := Nat.ne_of_lt (q_428 ▸ t_423)
      have n_433 : a_394 ≠ a_427 := Nat.ne_of_lt (q_428 ▸ t_424)
      have g_434 : n0 ≤ a_427 := q_428 ▸ z_425
      have f_435 : Ary Z h_426 a_198 .int [(.int t_184), (.int t_186), (.int t_188)] := f_422.sm (Sm.ext E_429)
      have f_436 : Ary Z h_426 a_394 .int [(.int t_190), (.int t_192), (.int t_194)] := A_421.sm (Sm.ext E_429)
      have t_437 : a_198 < h_426.size := Nat.lt_of_lt_of_le t_423 E_429.1
      have t_438 : a_394 < h_426.size := Nat.lt_of_lt_of_le t_424 E_429.1
      have z_439 : n0 ≤ h_426.size := Nat.le_trans z_425 E_429.1
      have t_440 : a_427 < h_426.size := A_430.lt
      have f_441 : Fld Z h_426 a_427 "com/example/forward_planner/forwardplanner/model/State" "factCount" "I" (.int (0 : Int32)) := D_431 (Or.inr (hw _ (List.mem_of_getElem? (i := 13) rfl))) (ty := .int) (by decide)
      have f_442 : Fld Z h_426 a_427 "com/example/forward_planner/forwardplanner/model/State" "words" "[J" .null := D_431 (Or.inr (hw _ (List.mem_of_getElem? (i := 16) rfl))) (ty := (.array .long)) (by decide)
      refine Go.dup (pc' := 210) at_209 rfl rfl ?_
      refine Go.iload (pc' := 212) at_210 rfl rfl ?_
      refine Go.aload (pc' := 214) at_212 rfl rfl rfl ?_
      refine Go.callN (pc' := 217) (argsL := [(.int n_179), (.ref a_198)]) (rest := [(.ref a_427)]) (W := 1) rfl (hw _ (List.mem_of_getElem? (i := 6) rfl)) (hw _ (List.mem_of_getElem? (i := 7) rfl)) (hw _ (List.mem_of_getElem? (i := 5) rfl)) (hw _ (List.mem_of_getElem? (i := 8) rfl)) (by decide) (m_i3 l Z a0 hw a_427 a_198 n_179 t_184 t_186 t_188 h_426 n0 z_439 A_430 f_441 f_442 g_434 f_435 n_432.symm (by omega) (by omega) (by omega) (by omega)) at_214 rfl pd1 rfl rfl (Nat.le_of_eq rfl) (by decide) (by decide) (by decide) (by decide) rfl ?_
      rintro _ h_443 ⟨rfl, e, W, K_444, X_445, F_446, A_447, he, hlt, hlen, hbt⟩
      have f_448 : Ary Z h_443 a_198 .int [(.int t_184), (.int t_186), (.int t_188)] := f_435.sm (Sm.keep K_444 (ninS n_432 nin0))
      have f_449 : Ary Z h_443 a_394 .int [(.int t_190), (.int t_192), (.int t_194)] := f_436.sm (Sm.keep K_444 (ninS n_433 nin0))
      have f_450 : Exa Z h_443 a_427 "com/example/forward_planner/forwardplanner/model/State" := A_430.keep K_444
      have t_453 : a_198 < h_443.size := Nat.lt_of_lt_of_le t_437 K_444.1
      have t_454 : a_394 < h_443.size := Nat.lt_of_lt_of_le t_438 K_444.1
      have t_455 : a_427 < h_443.size := Nat.lt_of_lt_of_le t_440 K_444.1
      have z_456 : n0 ≤ h_443.size := Nat.le_trans z_439 K_444.1
      show (Go false l room_1 Z x code maxLocals ret n0 16 128 (fun v h => v = some (.int 1))) h_443 (0 + 1 + 1 + 1 + 1) (0 + 3 + 3 + 2 + 4) 217 #[.val (.int x0), .val (.int x1), .val (.int x2), .val (.int x3), .val (.long y0), .second, .val (.int x4), .val (.int n_179), .val (.int (3 : Int32)), .val (.int (0 : Int32)), .val (.int t_184), .val (.int t_186), .val (.int t_188), .val (.int t_190), .val (.int t_192), .val (.int t_194), .val (.ref a_198), .val (.ref a_394), .unset, .unset, .unset, .unset, .unset, .unset] [(.ref a_427)]
      refine Go.astore (pc' := 219) (Ls' := #[.val (.int x0), .val (.int x1), .val (.int x2), .val (.int x3), .val (.long y0), .second, .val (.int x4), .val (.int n_179), .val (.int (3 : Int32)), .val (.int (0 : Int32)), .val (.int t_184), .val (.int t_186), .val (.int t_188), .val (.int t_190), .val (.int t_192), .val (.int t_194), .val (.ref a_198), .val (.ref a_394), .val (.ref a_427), .unset, .unset, .unset, .unset, .unset]) at_217 rfl rfl rfl ?_
      refine Go.aload (pc' := 221) at_219 rfl rfl rfl ?_
      refine Go.aload (pc' := 223) at_221 rfl rfl rfl ?_
      refine Go.callV (pc' := 226) (argsL := [(.ref a_394)]) (rest := []) (W := 0) (hw _ (List.mem_of_getElem? (i := 21) rfl)) (hw _ (List.mem_of_getElem? (i := 22) rfl)) (hw _ (List.mem_of_getElem? (i := 24) rfl)) (hw _ (List.mem_of_getElem? (i := 23) rfl)) (hw _ (List.mem_of_getElem? (i := 5) rfl)) (hw _ (List.mem_of_getElem? (i := 25) rfl)) (by decide) f_450 (m_h3 l Z a0 hw a_427 e a_394 W t_190 t_192 t_194 h_443 n0 z_456 f_450 F_446 A_447 f_449 (by omega) (by omega) (by omega)) at_223 rfl pd2 rfl rfl (Nat.le_of_eq rfl) (by decide) (by decide) (by decide) (by decide) rfl ?_
      rintro _ _ ⟨r, rfl, rfl, hr, hr2⟩
      show (Go false l room_1 Z x code maxLocals ret n0 16 128 (fun v h => v = some (.int 1))) h_443 (0 + 1 + 1 + 1 + 1 + 0) (0 + 3 + 3 + 2 + 4 + 0) 226 #[.val (.int x0), .val (.int x1), .val (.int x2), .val (.int x3), .val (.long y0), .second, .val (.int x4), .val (.int n_179), .val (.int (3 : Int32)), .val (.int (0 : Int32)), .val (.int t_184), .val (.int t_186), .val (.int t_188), .val (.int t_190), .val (.int t_192), .val (.int t_194), .val (.ref a_198), .val (.ref a_394), .val (.ref a_427), .unset, .unset, .unset, .unset, .unset] [(.int r)]
      refine Go.istore (pc' := 228) (Ls' := #[.val (.int x0), .val (.int x1), .val (.int x2), .val (.int x3), .val (.long y0), .second, .val (.int x4), .val (.int n_179), .val (.int (3 : Int32)), .val (.int (0 : Int32)), .val (.int t_184), .val (.int t_186), .val (.int t_188), .val (.int t_190), .val (.int t_192), .val (.int t_194), .val (.ref a_198), .val (.ref a_394), .val (.ref a_427), .val (.int r), .unset, .unset, .unset, .unset]) at_226 rfl rfl ?_
      refine Go.iload (pc' := 230) at_228 rfl rfl ?_
      refine Go.iload (pc' := 232) at_230 rfl rfl ?_
      refine Go.iload (pc' := 234) at_232 rfl rfl ?_
      refine Go.iload (pc' := 236) at_234 rfl rfl ?_
      refine Go.iload (pc' := 238) at_236 rfl rfl ?_
      refine Go.callS (pc' := 241) (argsL := [(.int t_190), (.int (0 : Int32)), (.int t_184), (.int t_186), (.int t_188)]) (rest := []) (W := 0) (hw _ (List.mem_of_getElem? (i := 26) rfl)) (hw _ (List.mem_of_getElem? (i := 27) rfl)) (hw _ (List.mem_of_getElem? (i := 28) rfl)) (hw _ (List.mem_of_getElem? (i := 29) rfl)) (by decide) (m_n l Z a0 hw t_190 (0 : Int32) t_184 t_186 t_188 h_443 n0 z_456) at_238 rfl pd3 rfl rfl (Nat.le_of_eq rfl) (by decide) (by decide) (by decide) (by decide) rfl ?_
      rintro _ _ ⟨g0, rfl, rfl, hg0, hgg0⟩
      show (Go false l room_1 Z x code maxLocals ret n0 16 128 (fun v h => v = some (.int 1))) h_443 (0 + 1 + 1 + 1 + 1 + 0 + 0) (0 + 3 + 3 + 2 + 4 + 0 + 0) 241 #[.val (.int x0), .val (.int x1), .val (.int x2), .val (.int x3), .val (.long y0), .second, .val (.int x4), .val (.int n_179), .val (.int (3 : Int32)), .val (.int (0 : Int32)), .val (.int t_184), .val (.int t_186), .val (.int t_188), .val (.int t_190), .val (.int t_192), .val (.int t_194), .val (.ref a_198), .val (.ref a_394), .val (.ref a_427), .val (.int r), .unset, .unset, .unset, .unset] [(.int g0)]
      refine Go.istore (pc' := 243) (Ls' := #[.val (.int x0), .val (.int x1), .val (.int x2), .val (.int x3), .val (.long y0), .second, .val (.int x4), .val (.int n_179), .val (.int (3 : Int32)), .val (.int (0 : Int32)), .val (.int t_184), .val (.int t_186), .val (.int t_188), .val (.int t_190), .val (.int t_192), .val (.int t_194), .val (.ref a_198), .val (.ref a_394), .val (.ref a_427), .val (.int r), .val (.int g0), .unset, .unset, .unset]) at_241 rfl rfl ?_
      refine Go.iload (pc' := 245) at_243 rfl rfl ?_
      refine Go.iload (pc' := 247) at_245 rfl rfl ?_
      refine Go.iload (pc' := 249) at_247 rfl rfl ?_
      refine Go.iload (pc' := 251) at_249 rfl rfl ?_
      refine Go.iload (pc' := 253) at_251 rfl rfl ?_
      refine Go.callS (pc' := 256) (argsL := [(.int t_192), (.int (0 : Int32)), (.int t_184), (.int t_186), (.int t_188)]) (rest := []) (W := 0) (hw _ (List.mem_of_getElem? (i := 26) rfl)) (hw _ (List.mem_of_getElem? (i := 27) rfl)) (hw _ (List.mem_of_getElem? (i := 28) rfl)) (hw _ (List.mem_of_getElem? (i := 29) rfl)) (by decide) (m_n l Z a0 hw t_192 (0 : Int32) t_184 t_186 t_188 h_443 n0 z_456) at_253 rfl pd3 rfl rfl (Nat.le_of_eq rfl) (by decide) (by decide) (by decide) (by decide) rfl ?_
      rintro _ _ ⟨g1, rfl, rfl, hg1, hgg1⟩
      show (Go false l room_1 Z x code maxLocals ret n0 16 128 (fun v h => v = some (.int 1))) h_443 (0 + 1 + 1 + 1 + 1 + 0 + 0 + 0) (0 + 3 + 3 + 2 + 4 + 0 + 0 + 0) 256 #[.val (.int x0), .val (.int x1), .val (.int x2), .val (.int x3), .val (.long y0), .second, .val (.int x4), .val (.int n_179), .val (.int (3 : Int32)), .val (.int (0 : Int32)), .val (.int t_184), .val (.int t_186), .val (.int t_188), .val (.int t_190), .val (.int t_192), .val (.int t_194), .val (.ref a_198), .val (.ref a_394), .val (.ref a_427), .val (.int r), .val (.int g0), .unset, .unset, .unset] [(.int g1)]
      refine Go.istore (pc' := 258) (Ls' := #[.val (.int x0), .val (.int x1), .val (.int x2), .val (.int x3), .val (.long y0), .second, .val (.int x4), .val (.int n_179), .val (.int (3 : Int32)), .val (.int (0 : Int32)), .val (.int t_184), .val (.int t_186), .val (.int t_188), .val (.int t_190), .val (.int t_192), .val (.int t_194), .val (.ref a_198), .val (.ref a_394), .val (.ref a_427), .val (.int r), .val (.int g0), .val (.int g1), .unset, .unset]) at_256 rfl rfl ?_
      refine Go.iload (pc' := 260) at_258 rfl rfl ?_
      refine Go.iload (pc' := 262) at_260 rfl rfl ?_
      refine Go.iload (pc' := 264) at_262 rfl rfl ?_
      refine Go.iload (pc' := 266) at_264 rfl rfl ?_
      refine Go.iload (pc' := 268) at_266 rfl rfl ?_
      refine Go.callS (pc' := 271) (argsL := [(.int t_194), (.int (0 : Int32)), (.int t_184), (.int t_186), (.int t_188)]) (rest := []) (W := 0) (hw _ (List.mem_of_getElem? (i := 26) rfl)) (hw _ (List.mem_of_getElem? (i := 27) rfl)) (hw _ (List.mem_of_getElem? (i := 28) rfl)) (hw _ (List.mem_of_getElem? (i := 29) rfl)) (by decide) (m_n l Z a0 hw t_194 (0 : Int32) t_184 t_186 t_188 h_443 n0 z_456) at_268 rfl pd3 rfl rfl (Nat.le_of_eq rfl) (by decide) (by decide) (by decide) (by decide) rfl ?_
      rintro _ _ ⟨g2, rfl, rfl, hg2, hgg2⟩
      show (Go false l room_1 Z x code maxLocals ret n0 16 128 (fun v h => v = some (.int 1))) h_443 (0 + 1 + 1 + 1 + 1 + 0 + 0 + 0 + 0) (0 + 3 + 3 + 2 + 4 + 0 + 0 + 0 + 0) 271 #[.val (.int x0), .val (.int x1), .val (.int x2), .val (.int x3), .val (.long y0), .second, .val (.int x4), .val (.int n_179), .val (.int (3 : Int32)), .val (.int (0 : Int32)), .val (.int t_184), .val (.int t_186), .val (.int t_188), .val (.int t_190), .val (.int t_192), .val (.int t_194), .val (.ref a_198), .val (.ref a_394), .val (.ref a_427), .val (.int r), .val (.int g0), .val (.int g1), .unset, .unset] [(.int g2)]
      have p0 : (own_bt W t_190.toInt.toNat = true ↔ g0.toInt = 1) := by rw [hbt, hgg0, show ((t_190.toInt.toNat : Nat) : Int) = t_190.toInt from by omega]; exact ⟨fun z => ⟨rfl, z⟩, fun z => z.2⟩
      have p1 : (own_bt W t_192.toInt.toNat = true ↔ g1.toInt = 1) := by rw [hbt, hgg1, show ((t_192.toInt.toNat : Nat) : Int) = t_192.toInt from by omega]; exact ⟨fun z => ⟨rfl, z⟩, fun z => z.2⟩
      have p2 : (own_bt W t_194.toInt.toNat = true ↔ g2.toInt = 1) := by rw [hbt, hgg2, show ((t_194.toInt.toNat : Nat) : Int) = t_194.toInt from by omega]; exact ⟨fun z => ⟨rfl, z⟩, fun z => z.2⟩
      rw [p0, p1, p2] at hr2
      clear p0 p1 p2 hgg0 hgg1 hgg2 hbt
      have z0 : (0 : Int32).toInt = 0 := rfl
      have z1 : (1 : Int32).toInt = 1 := rfl
      refine Go.istore (pc' := 273) (Ls' := #[.val (.int x0), .val (.int x1), .val (.int x2), .val (.int x3), .val (.long y0), .second, .val (.int x4), .val (.int n_179), .val (.int (3 : Int32)), .val (.int (0 : Int32)), .val (.int t_184), .val (.int t_186), .val (.int t_188), .val (.int t_190), .val (.int t_192), .val (.int t_194), .val (.ref a_198), .val (.ref a_394), .val (.ref a_427), .val (.int r), .val (.int g0), .val (.int g1), .val (.int g2), .unset]) at_271 rfl rfl ?_
      refine Go.iload (pc' := 275) at_273 rfl rfl ?_
      refine Go.ifc (pc1 := 284) (pc2 := 278) at_275 (by decide) (by decide) rfl (fun (c_457 : (3 : Int) ≠ 0) => ?_) (fun (c_457 : (3 : Int) = 0) => ?_)
      rotate_left
      · exact absurd c_457 (by decide)
      refine Go.iload (pc' := 286) at_284 rfl rfl ?_
      refine Go.iconst (pc' := 287) (v := (1 : Int32)) at_286 rfl rfl ?_
      refine Go.icmp (pc1 := 297) (pc2 := 290) at_287 (by decide) (by decide) rfl (fun (c_458 : (3 : Int) ≠ (1 : Int)) => ?_) (fun (c_458 : (3 : Int) = (1 : Int)) => ?_)
      rotate_left
      · exact absurd c_458 (by decide)
      refine Go.iload (pc' := 299) at_297 rfl rfl ?_
      refine Go.iconst (pc' := 300) (v := (2 : Int32)) at_299 rfl rfl ?_
      refine Go.icmp (pc1 := 323) (pc2 := 303) at_300 (by decide) (by decide) rfl (fun (c_459 : (3 : Int) ≠ (2 : Int)) => ?_) (fun (c_459 : (3 : Int) = (2 : Int)) => ?_)
      rotate_left
      · exact absurd c_459 (by decide)
      refine Go.iload (pc' := 325) at_323 rfl rfl ?_
      refine Go.ifc (pc1 := 342) (pc2 := 328) at_325 (by decide) (by decide) rfl (fun (c_460 : g0.toInt = 0) => ?_) (fun (c_460 : g0.toInt ≠ 0) => ?_)
      · refine Go.iconst (pc' := 343) (v := (0 : Int32)) at_342 rfl rfl ?_
        refine Go.istore (pc' := 345) (Ls' := #[.val (.int x0), .val (.int x1), .val (.int x2), .val (.int x3), .val (.long y0), .second, .val (.int x4), .val (.int n_179), .val (.int (3 : Int32)), .val (.int (0 : Int32)), .val (.int t_184), .val (.int t_186), .val (.int t_188), .val (.int t_190), .val (.int t_192), .val (.int t_194), .val (.ref a_198), .val (.ref a_394), .val (.ref a_427), .val (.int r), .val (.int g0), .val (.int g1), .val (.int g2), .val (.int (0 : Int32))]) at_343 rfl rfl ?_
        refine Go.iload (pc' := 347) at_345 rfl rfl ?_
        refine Go.iload (pc' := 349) at_347 rfl rfl ?_
        refine Go.icmp (pc1 := 356) (pc2 := 352) at_349 (by decide) (by decide) rfl (fun (c_461 : r.toInt ≠ (0 : Int)) => ?_) (fun (c_461 : r.toInt = (0 : Int)) => ?_)
        · exact absurd (by omega) c_461
        refine Go.iconst (pc' := 353) (v := (1 : Int32)) at_352 rfl rfl ?_
        refine Go.goto (pc' := 357) at_353 (by decide) (by decide) ?_
        exact Go.retN (t := .boolean) at_357 rfl (by simp) rfl rfl (by decide) (by decide)
      · refine Go.iload (pc' := 330) at_328 rfl rfl ?_
        refine Go.ifc (pc1 := 342) (pc2 := 333) at_330 (by decide) (by decide) rfl (fun (c_462 : g1.toInt = 0) => ?_) (fun (c_462 : g1.toInt ≠ 0) => ?_)
        · refine Go.iconst (pc' := 343) (v := (0 : Int32)) at_342 rfl rfl ?_
          refine Go.istore (pc' := 345) (Ls' := #[.val (.int x0), .val (.int x1), .val (.int x2), .val (.int x3), .val (.long y0), .second, .val (.int x4), .val (.int n_179), .val (.int (3 : Int32)), .val (.int (0 : Int32)), .val (.int t_184), .val (.int t_186), .val (.int t_188), .val (.int t_190), .val (.int t_192), .val (.int t_194), .val (.ref a_198), .val (.ref a_394), .val (.ref a_427), .val (.int r), .val (.int g0), .val (.int g1), .val (.int g2), .val (.int (0 : Int32))]) at_343 rfl rfl ?_
          refine Go.iload (pc' := 347) at_345 rfl rfl ?_
          refine Go.iload (pc' := 349) at_347 rfl rfl ?_
          refine Go.icmp (pc1 := 356) (pc2 := 352) at_349 (by decide) (by decide) rfl (fun (c_463 : r.toInt ≠ (0 : Int)) => ?_) (fun (c_463 : r.toInt = (0 : Int)) => ?_)
          · exact absurd (by omega) c_463
          refine Go.iconst (pc' := 353) (v := (1 : Int32)) at_352 rfl rfl ?_
          refine Go.goto (pc' := 357) at_353 (by decide) (by decide) ?_
          exact Go.retN (t := .boolean) at_357 rfl (by simp) rfl rfl (by decide) (by decide)
        · refine Go.iload (pc' := 335) at_333 rfl rfl ?_
          refine Go.ifc (pc1 := 342) (pc2 := 338) at_335 (by decide) (by decide) rfl (fun (c_464 : g2.toInt = 0) => ?_) (fun (c_464 : g2.toInt ≠ 0) => ?_)
          · refine Go.iconst (pc' := 343) (v := (0 : Int32)) at_342 rfl rfl ?_
            refine Go.istore (pc' := 345) (Ls' := #[.val (.int x0), .val (.int x1), .val (.int x2), .val (.int x3), .val (.long y0), .second, .val (.int x4), .val (.int n_179), .val (.int (3 : Int32)), .val (.int (0 : Int32)), .val (.int t_184), .val (.int t_186), .val (.int t_188), .val (.int t_190), .val (.int t_192), .val (.int t_194), .val (.ref a_198), .val (.ref a_394), .val (.ref a_427), .val (.int r), .val (.int g0), .val (.int g1), .val (.int g2), .val (.int (0 : Int32))]) at_343 rfl rfl ?_
            refine Go.iload (pc' := 347) at_345 rfl rfl ?_
            refine Go.iload (pc' := 349) at_347 rfl rfl ?_
            refine Go.icmp (pc1 := 356) (pc2 := 352) at_349 (by decide) (by decide) rfl (fun (c_465 : r.toInt ≠ (0 : Int)) => ?_) (fun (c_465 : r.toInt = (0 : Int)) => ?_)
            · exact absurd (by omega) c_465
            refine Go.iconst (pc' := 353) (v := (1 : Int32)) at_352 rfl rfl ?_
            refine Go.goto (pc' := 357) at_353 (by decide) (by decide) ?_
            exact Go.retN (t := .boolean) at_357 rfl (by simp) rfl rfl (by decide) (by decide)
          · refine Go.iconst (pc' := 339) (v := (1 : Int32)) at_338 rfl rfl ?_
            refine Go.goto (pc' := 343) at_339 (by decide) (by decide) ?_
            refine Go.istore (pc' := 345) (Ls' := #[.val (.int x0), .val (.int x1), .val (.int x2), .val (.int x3), .val (.long y0), .second, .val (.int x4), .val (.int n_179), .val (.int (3 : Int32)), .val (.int (0 : Int32)), .val (.int t_184), .val (.int t_186), .val (.int t_188), .val (.int t_190), .val (.int t_192), .val (.int t_194), .val (.ref a_198), .val (.ref a_394), .val (.ref a_427), .val (.int r), .val (.int g0), .val (.int g1), .val (.int g2), .val (.int (1 : Int32))]) at_343 rfl rfl ?_
            refine Go.iload (pc' := 347) at_345 rfl rfl ?_
            refine Go.iload (pc' := 349) at_347 rfl rfl ?_
            refine Go.icmp (pc1 := 356) (pc2 := 352) at_349 (by decide) (by decide) rfl (fun (c_466 : r.toInt ≠ (1 : Int)) => ?_) (fun (c_466 : r.toInt = (1 : Int)) => ?_)
            · exact absurd (by omega) c_466
            refine Go.iconst (pc' := 353) (v := (1 : Int32)) at_352 rfl rfl ?_
            refine Go.goto (pc' := 357) at_353 (by decide) (by decide) ?_
            exact Go.retN (t := .boolean) at_357 rfl (by simp) rfl rfl (by decide) (by decide)
  · refine Go.iconst (pc' := 27) (v := (1 : Int32)) at_26 rfl rfl ?_
    refine Go.goto (pc' := 31) at_27 (by decide) (by decide) ?_
    refine Go.istore (pc' := 33) (Ls' := #[.val (.int x0), .val (.int x1), .val (.int x2), .val (.int x3), .val (.long y0), .second, .val (.int x4), .val (.int n_179), .val (.int k_181), .val (.int (1 : Int32)), .unset, .unset, .unset, .unset, .unset, .unset, .unset, .unset, .unset, .unset, .unset, .unset, .unset, .unset]) at_31 rfl rfl ?_
    refine Go.iloadN (pc' := 34) at_33 rfl rfl ?_
    refine Go.ldcI (pc' := 36) (hw _ (List.mem_of_getElem? (i := 0) rfl)) at_34 rfl ?_
    refine Go.iand (pc' := 37) at_36 rfl ?_
    refine Go.iload (pc' := 39) at_37 rfl rfl ?_
    refine Go.irem (pc' := 40) at_39 nz rfl ?_
    generalize et_467 : (x1 &&& (2147483647 : Int32)) % n_179 = t_467
    have k_468 : 0 ≤ t_467.toInt ∧ t_467.toInt < n_179.toInt := by
      rw [← et_467]
      have : (2147483647 : Int32).toInt = 2147483647 := by decide
      have := c_mask x1 (2147483647 : Int32) 31 (by decide) (by decide)
      have := rng32 (x1 &&& (2147483647 : Int32))
      have := rng32 x1
      have := c_iremV (x1 &&& (2147483647 : Int32)) n_179
      have := rng32 ((x1 &&& (2147483647 : Int32)) % n_179)
      have := rng32 n_179
      omega
    refine Go.istore (pc' := 42) (Ls' := #[.val (.int x0), .val (.int x1), .val (.int x2), .val (.int x3), .val (.long y0), .second, .val (.int x4), .val (.int n_179), .val (.int k_181), .val (.int (1 : Int32)), .val (.int t_467), .unset, .unset, .unset, .unset, .unset, .unset, .unset, .unset, .unset, .unset, .unset, .unset, .unset]) at_40 rfl rfl ?_
    refine Go.iloadN (pc' := 43) at_42 rfl rfl ?_
    refine Go.ldcI (pc' := 45) (hw _ (List.mem_of_getElem? (i := 0) rfl)) at_43 rfl ?_
    refine Go.iand (pc' := 46) at_45 rfl ?_
    refine Go.iload (pc' := 48) at_46 rfl rfl ?_
    refine Go.irem (pc' := 49) at_48 nz rfl ?_
    generalize et_469 : (x2 &&& (2147483647 : Int32)) % n_179 = t_469
    have k_470 : 0 ≤ t_469.toInt ∧ t_469.toInt < n_179.toInt := by
      rw [← et_469]
      have : (2147483647 : Int32).toInt = 2147483647 := by decide
      have := c_mask x2 (2147483647 : Int32) 31 (by decide) (by decide)
      have := rng32 (x2 &&& (2147483647 : Int32))
      have := rng32 x2
      have := c_iremV (x2 &&& (2147483647 : Int32)) n_179
      have := rng32 ((x2 &&& (2147483647 : Int32)) % n_179)
      have := rng32 n_179
      omega
    refine Go.istore (pc' := 51) (Ls' := #[.val (.int x0), .val (.int x1), .val (.int x2), .val (.int x3), .val (.long y0), .second, .val (.int x4), .val (.int n_179), .val (.int k_181), .val (.int (1 : Int32)), .val (.int t_467), .val (.int t_469), .unset, .unset, .unset, .unset, .unset, .unset, .unset, .unset, .unset, .unset, .unset, .unset]) at_49 rfl rfl ?_
    refine Go.iloadN (pc' := 52) at_51 rfl rfl ?_
    refine Go.ldcI (pc' := 54) (hw _ (List.mem_of_getElem? (i := 0) rfl)) at_52 rfl ?_
    refine Go.iand (pc' := 55) at_54 rfl ?_
    refine Go.iload (pc' := 57) at_55 rfl rfl ?_
    refine Go.irem (pc' := 58) at_57 nz rfl ?_
    generalize et_471 : (x3 &&& (2147483647 : Int32)) % n_179 = t_471
    have k_472 : 0 ≤ t_471.toInt ∧ t_471.toInt < n_179.toInt := by
      rw [← et_471]
      have : (2147483647 : Int32).toInt = 2147483647 := by decide
      have := c_mask x3 (2147483647 : Int32) 31 (by decide) (by decide)
      have := rng32 (x3 &&& (2147483647 : Int32))
      have := rng32 x3
      have := c_iremV (x3 &&& (2147483647 : Int32)) n_179
      have := rng32 ((x3 &&& (2147483647 : Int32)) % n_179)
      have := rng32 n_179
      omega
    refine Go.istore (pc' := 60) (Ls' := #[.val (.int x0), .val (.int x1), .val (.int x2), .val (.int x3), .val (.long y0), .second, .val (.int x4), .val (.int n_179), .val (.int k_181), .val (.int (1 : Int32)), .val (.int t_467), .val (.int t_469), .val (.int t_471), .unset, .unset, .unset, .unset, .unset, .unset, .unset, .unset, .unset, .unset, .unset]) at_58 rfl rfl ?_
    refine Go.lload (pc' := 62) at_60 rfl rfl ?_
    refine Go.ldcL (pc' := 65) (hw _ (List.mem_of_getElem? (i := 1) rfl)) at_62 rfl ?_
    refine Go.land (pc' := 66) at_65 rfl ?_
    refine Go.l2i (pc' := 67) at_66 rfl ?_
    refine Go.iload (pc' := 69) at_67 rfl rfl ?_
    refine Go.irem (pc' := 70) at_69 nz rfl ?_
    generalize et_473 : ((y0 &&& (2147483647 : Int64)).toInt32) % n_179 = t_473
    have k_474 : 0 ≤ t_473.toInt ∧ t_473.toInt < n_179.toInt := by
      rw [← et_473]
      have : (2147483647 : Int64).toInt = 2147483647 := by decide
      have := c_maskL y0 (2147483647 : Int64) 31 (by decide) (by decide)
      have := rng64 (y0 &&& (2147483647 : Int64))
      have := rng64 y0
      have := c_l2i (y0 &&& (2147483647 : Int64))
      have := rng32 ((y0 &&& (2147483647 : Int64)).toInt32)
      have := c_iremV ((y0 &&& (2147483647 : Int64)).toInt32) n_179
      have := rng32 (((y0 &&& (2147483647 : Int64)).toInt32) % n_179)
      have := rng32 n_179
      omega
    refine Go.istore (pc' := 72) (Ls' := #[.val (.int x0), .val (.int x1), .val (.int x2), .val (.int x3), .val (.long y0), .second, .val (.int x4), .val (.int n_179), .val (.int k_181), .val (.int (1 : Int32)), .val (.int t_467), .val (.int t_469), .val (.int t_471), .val (.int t_473), .unset, .unset, .unset, .unset, .unset, .unset, .unset, .unset, .unset, .unset]) at_70 rfl rfl ?_
    refine Go.lload (pc' := 74) at_72 rfl rfl ?_
    refine Go.bipush (pc' := 76) (v := (32 : Int32)) at_74 rfl rfl ?_
    refine Go.lushr (pc' := 77) at_76 rfl ?_
    refine Go.ldcL (pc' := 80) (hw _ (List.mem_of_getElem? (i := 1) rfl)) at_77 rfl ?_
    refine Go.land (pc' := 81) at_80 rfl ?_
    refine Go.l2i (pc' := 82) at_81 rfl ?_
    refine Go.iload (pc' := 84) at_82 rfl rfl ?_
    refine Go.irem (pc' := 85) at_84 nz rfl ?_
    generalize et_475 : ((((y0.toUInt64 >>> ((32 : Int32) &&& 0x3f).toInt64.toUInt64).toInt64) &&& (2147483647 : Int64)).toInt32) % n_179 = t_475
    have k_476 : 0 ≤ t_475.toInt ∧ t_475.toInt < n_179.toInt := by
      rw [← et_475]
      have : (32 : Int32).toInt = 32 := by decide
      have := c_lushr y0 (32 : Int32) 32 (by decide) (by decide)
      have := rng64 ((y0.toUInt64 >>> ((32 : Int32) &&& 0x3f).toInt64.toUInt64).toInt64)
      have := rng64 y0
      have : (2147483647 : Int64).toInt = 2147483647 := by decide
      have := c_maskL ((y0.toUInt64 >>> ((32 : Int32) &&& 0x3f).toInt64.toUInt64).toInt64) (2147483647 : Int64) 31 (by decide) (by decide)
      have := rng64 (((y0.toUInt64 >>> ((32 : Int32) &&& 0x3f).toInt64.toUInt64).toInt64) &&& (2147483647 : Int64))
      have := c_l2i (((y0.toUInt64 >>> ((32 : Int32) &&& 0x3f).toInt64.toUInt64).toInt64) &&& (2147483647 : Int64))
      have := rng32 ((((y0.toUInt64 >>> ((32 : Int32) &&& 0x3f).toInt64.toUInt64).toInt64) &&& (2147483647 : Int64)).toInt32)
      have := c_iremV ((((y0.toUInt64 >>> ((32 : Int32) &&& 0x3f).toInt64.toUInt64).toInt64) &&& (2147483647 : Int64)).toInt32) n_179
      have := rng32 (((((y0.toUInt64 >>> ((32 : Int32) &&& 0x3f).toInt64.toUInt64).toInt64) &&& (2147483647 : Int64)).toInt32) % n_179)
      have := rng32 n_179
      omega
    refine Go.istore (pc' := 87) (Ls' := #[.val (.int x0), .val (.int x1), .val (.int x2), .val (.int x3), .val (.long y0), .second, .val (.int x4), .val (.int n_179), .val (.int k_181), .val (.int (1 : Int32)), .val (.int t_467), .val (.int t_469), .val (.int t_471), .val (.int t_473), .val (.int t_475), .unset, .unset, .unset, .unset, .unset, .unset, .unset, .unset, .unset]) at_85 rfl rfl ?_
    refine Go.iload (pc' := 89) at_87 rfl rfl ?_
    refine Go.ldcI (pc' := 91) (hw _ (List.mem_of_getElem? (i := 0) rfl)) at_89 rfl ?_
    refine Go.iand (pc' := 92) at_91 rfl ?_
    refine Go.iload (pc' := 94) at_92 rfl rfl ?_
    refine Go.irem (pc' := 95) at_94 nz rfl ?_
    generalize et_477 : (x4 &&& (2147483647 : Int32)) % n_179 = t_477
    have k_478 : 0 ≤ t_477.toInt ∧ t_477.toInt < n_179.toInt := by
      rw [← et_477]
      have : (2147483647 : Int32).toInt = 2147483647 := by decide
      have := c_mask x4 (2147483647 : Int32) 31 (by decide) (by decide)
      have := rng32 (x4 &&& (2147483647 : Int32))
      have := rng32 x4
      have := c_iremV (x4 &&& (2147483647 : Int32)) n_179
      have := rng32 ((x4 &&& (2147483647 : Int32)) % n_179)
      have := rng32 n_179
      omega
    refine Go.istore (pc' := 97) (Ls' := #[.val (.int x0), .val (.int x1), .val (.int x2), .val (.int x3), .val (.long y0), .second, .val (.int x4), .val (.int n_179), .val (.int k_181), .val (.int (1 : Int32)), .val (.int t_467), .val (.int t_469), .val (.int t_471), .val (.int t_473), .val (.int t_475), .val (.int t_477), .unset, .unset, .unset, .unset, .unset, .unset, .unset, .unset]) at_95 rfl rfl ?_
    refine Go.iload (pc' := 99) at_97 rfl rfl ?_
    refine Go.ifc (pc1 := 110) (pc2 := 102) at_99 (by decide) (by decide) rfl (fun (c_479 : (1 : Int) = 0) => ?_) (fun (c_479 : (1 : Int) ≠ 0) => ?_)
    · exact absurd c_479 (by decide)
    refine Go.iconst (pc' := 103) (v := (0 : Int32)) at_102 rfl rfl ?_
    refine Go.newA (pc' := 105) (k := 0) (ty := .int) (cap := 0) (hw _ (List.mem_of_getElem? (i := 2) rfl)) rfl rfl (by decide) (by decide) at_103 (by decide) (by decide) rfl ?_
    intro h_480 a_481 q_482 E_483 A_484
    have g_486 : n0 ≤ a_481 := q_482 ▸ z0
    have z_487 : n0 ≤ h_480.size := Nat.le_trans z0 E_483.1
    have t_488 : a_481 < h_480.size := A_484.lt
    change Ary Z h_480 a_481 .int [] at A_484
    refine Go.astore (pc' := 107) (Ls' := #[.val (.int x0), .val (.int x1), .val (.int x2), .val (.int x3), .val (.long y0), .second, .val (.int x4), .val (.int n_179), .val (.int k_181), .val (.int (1 : Int32)), .val (.int t_467), .val (.int t_469), .val (.int t_471), .val (.int t_473), .val (.int t_475), .val (.int t_477), .val (.ref a_481), .unset, .unset, .unset, .unset, .unset, .unset, .unset]) at_105 rfl rfl rfl ?_
    refine Go.goto (pc' := 130) at_107 (by decide) (by decide) ?_
    refine Go.iload (pc' := 132) at_130 rfl rfl ?_
    clear ek_181
    rcases k_182 with k_182 | k_182 | k_182 | k_182
    · obtain rfl : k_181 = (0 : Int32) := Int32.toInt_inj.mp k_182
      refine Go.ifc (pc1 := 143) (pc2 := 135) at_132 (by decide) (by decide) rfl (fun (c_489 : (0 : Int) ≠ 0) => ?_) (fun (c_489 : (0 : Int) = 0) => ?_)
      · exact absurd c_489 (by decide)
      refine Go.iconst (pc' := 136) (v := (0 : Int32)) at_135 rfl rfl ?_
      refine Go.newA (pc' := 138) (k := 0) (ty := .int) (cap := 0) (hw _ (List.mem_of_getElem? (i := 2) rfl)) rfl rfl (by decide) (by decide) at_136 (by decide) (by decide) rfl ?_
      intro h_490 a_491 q_492 E_493 A_494
      have n_496 : a_481 ≠ a_491 := Nat.ne_of_lt (q_492 ▸ t_488)
      have g_497 : n0 ≤ a_491 := q_492 ▸ z_487
      have f_498 : Ary Z h_490 a_481 .int [] := A_484.sm (Sm.ext E_493)
      have t_499 : a_481 < h_490.size := Nat.lt_of_lt_of_le t_488 E_493.1
      have z_500 : n0 ≤ h_490.size := Nat.le_trans z_487 E_493.1
      have t_501 : a_491 < h_490.size := A_494.lt
      change Ary Z h_490 a_491 .int [] at A_494
      refine Go.astore (pc' := 140) (Ls' := #[.val (.int x0), .val (.int x1), .val (.int x2), .val (.int x3), .val (.long y0), .second, .val (.int x4), .val (.int n_179), .val (.int (0 : Int32)), .val (.int (1 : Int32)), .val (.int t_467), .val (.int t_469), .val (.int t_471), .val (.int t_473), .val (.int t_475), .val (.int t_477), .val (.ref a_481), .val (.ref a_491), .unset, .unset, .unset, .unset, .unset, .unset]) at_138 rfl rfl rfl ?_
      refine Go.goto (pc' := 206) at_140 (by decide) (by decide) ?_
      refine Go.newO (pc' := 209) (hw _ (List.mem_of_getElem? (i := 3) rfl)) (hw _ (List.mem_of_getElem? (i := 4) rfl)) (hw _ (List.mem_of_getElem? (i := 5) rfl)) at_206 (by decide) (by decide) rfl ?_
      intro h_502 a_503 q_504 E_505 A_506 D_507
      have n_508 : a_481 ≠ a_503 := Nat.ne_of_lt (q_504 ▸ t_499)
      have n_509 : a_491 ≠ a_503 := Nat.ne_of_lt (q_504 ▸ t_501)
      have g_510 : n0 ≤ a_503 := q_504 ▸ z_500
      have f_511 : Ary Z h_502 a_481 .int [] := f_498.sm (Sm.ext E_505)
      have f_512 : Ary Z h_502 a_491 .int [] := A_494.sm (Sm.ext E_505)
      have t_513 : a_481 < h_502.size := Nat.lt_of_lt_of_le t_499 E_505.1
      have t_514 : a_491 < h_502.size := Nat.lt_of_lt_of_le t_501 E_505.1
      have z_515 : n0 ≤ h_502.size := Nat.le_trans z_500 E_505.1
      have t_516 : a_503 < h_502.size := A_506.lt
      have f_517 : Fld Z h_502 a_503 "com/example/forward_planner/forwardplanner/model/State" "factCount" "I" (.int (0 : Int32)) := D_507 (Or.inr (hw _ (List.mem_of_getElem? (i := 13) rfl))) (ty := .int) (by decide)
      have f_518 : Fld Z h_502 a_503 "com/example/forward_planner/forwardplanner/model/State" "words" "[J" .null := D_507 (Or.inr (hw _ (List.mem_of_getElem? (i := 16) rfl))) (ty := (.array .long)) (by decide)
      refine Go.dup (pc' := 210) at_209 rfl rfl ?_
      refine Go.iload (pc' := 212) at_210 rfl rfl ?_
      refine Go.aload (pc' := 214) at_212 rfl rfl rfl ?_
      refine Go.callN (pc' := 217) (argsL := [(.int n_179), (.ref a_481)]) (rest := [(.ref a_503)]) (W := 1) rfl (hw _ (List.mem_of_getElem? (i := 6) rfl)) (hw _ (List.mem_of_getElem? (i := 7) rfl)) (hw _ (List.mem_of_getElem? (i := 5) rfl)) (hw _ (List.mem_of_getElem? (i := 8) rfl)) (by decide) (m_i0 l Z a0 hw a_503 a_481 n_179  h_502 n0 z_515 A_506 f_517 f_518 g_510 f_511 n_508.symm (by omega) ) at_214 rfl pd1 rfl rfl (Nat.le_of_eq rfl) (by decide) (by decide) (by decide) (by decide) rfl ?_
      rintro _ h_519 ⟨rfl, e, W, K_520, X_521, F_522, A_523, he, hlt, hlen, hbt⟩
      have f_524 : Ary Z h_519 a_481 .int [] := f_511.sm (Sm.keep K_520 (ninS n_508 nin0))
      have f_525 : Ary Z h_519 a_491 .int [] := f_512.sm (Sm.keep K_520 (ninS n_509 nin0))
      have f_526 : Exa Z h_519 a_503 "com/example/forward_planner/forwardplanner/model/State" := A_506.keep K_520
      have t_529 : a_481 < h_519.size := Nat.lt_of_lt_of_le t_513 K_520.1
      have t_530 : a_491 < h_519.size := Nat.lt_of_lt_of_le t_514 K_520.1
      have t_531 : a_503 < h_519.size := Nat.lt_of_lt_of_le t_516 K_520.1
      have z_532 : n0 ≤ h_519.size := Nat.le_trans z_515 K_520.1
      show (Go false l room_1 Z x code maxLocals ret n0 16 128 (fun v h => v = some (.int 1))) h_519 (0 + 1 + 1 + 1 + 1) (0 + 0 + 0 + 2 + 4) 217 #[.val (.int x0), .val (.int x1), .val (.int x2), .val (.int x3), .val (.long y0), .second, .val (.int x4), .val (.int n_179), .val (.int (0 : Int32)), .val (.int (1 : Int32)), .val (.int t_467), .val (.int t_469), .val (.int t_471), .val (.int t_473), .val (.int t_475), .val (.int t_477), .val (.ref a_481), .val (.ref a_491), .unset, .unset, .unset, .unset, .unset, .unset] [(.ref a_503)]
      refine Go.astore (pc' := 219) (Ls' := #[.val (.int x0), .val (.int x1), .val (.int x2), .val (.int x3), .val (.long y0), .second, .val (.int x4), .val (.int n_179), .val (.int (0 : Int32)), .val (.int (1 : Int32)), .val (.int t_467), .val (.int t_469), .val (.int t_471), .val (.int t_473), .val (.int t_475), .val (.int t_477), .val (.ref a_481), .val (.ref a_491), .val (.ref a_503), .unset, .unset, .unset, .unset, .unset]) at_217 rfl rfl rfl ?_
      refine Go.aload (pc' := 221) at_219 rfl rfl rfl ?_
      refine Go.aload (pc' := 223) at_221 rfl rfl rfl ?_
      refine Go.callV (pc' := 226) (argsL := [(.ref a_491)]) (rest := []) (W := 0) (hw _ (List.mem_of_getElem? (i := 21) rfl)) (hw _ (List.mem_of_getElem? (i := 22) rfl)) (hw _ (List.mem_of_getElem? (i := 24) rfl)) (hw _ (List.mem_of_getElem? (i := 23) rfl)) (hw _ (List.mem_of_getElem? (i := 5) rfl)) (hw _ (List.mem_of_getElem? (i := 25) rfl)) (by decide) f_526 (m_h0 l Z a0 hw a_503 e a_491 W  h_519 n0 z_532 f_526 F_522 A_523 f_525 ) at_223 rfl pd2 rfl rfl (Nat.le_of_eq rfl) (by decide) (by decide) (by decide) (by decide) rfl ?_
      rintro _ _ ⟨r, rfl, rfl, hr, hr2⟩
      show (Go false l room_1 Z x code maxLocals ret n0 16 128 (fun v h => v = some (.int 1))) h_519 (0 + 1 + 1 + 1 + 1 + 0) (0 + 0 + 0 + 2 + 4 + 0) 226 #[.val (.int x0), .val (.int x1), .val (.int x2), .val (.int x3), .val (.long y0), .second, .val (.int x4), .val (.int n_179), .val (.int (0 : Int32)), .val (.int (1 : Int32)), .val (.int t_467), .val (.int t_469), .val (.int t_471), .val (.int t_473), .val (.int t_475), .val (.int t_477), .val (.ref a_481), .val (.ref a_491), .val (.ref a_503), .unset, .unset, .unset, .unset, .unset] [(.int r)]
      refine Go.istore (pc' := 228) (Ls' := #[.val (.int x0), .val (.int x1), .val (.int x2), .val (.int x3), .val (.long y0), .second, .val (.int x4), .val (.int n_179), .val (.int (0 : Int32)), .val (.int (1 : Int32)), .val (.int t_467), .val (.int t_469), .val (.int t_471), .val (.int t_473), .val (.int t_475), .val (.int t_477), .val (.ref a_481), .val (.ref a_491), .val (.ref a_503), .val (.int r), .unset, .unset, .unset, .unset]) at_226 rfl rfl ?_
      refine Go.iload (pc' := 230) at_228 rfl rfl ?_
      refine Go.iload (pc' := 232) at_230 rfl rfl ?_
      refine Go.iload (pc' := 234) at_232 rfl rfl ?_
      refine Go.iload (pc' := 236) at_234 rfl rfl ?_
      refine Go.iload (pc' := 238) at_236 rfl rfl ?_
      refine Go.callS (pc' := 241) (argsL := [(.int t_473), (.int (1 : Int32)), (.int t_467), (.int t_469), (.int t_471)]) (rest := []) (W := 0) (hw _ (List.mem_of_getElem? (i := 26) rfl)) (hw _ (List.mem_of_getElem? (i := 27) rfl)) (hw _ (List.mem_of_getElem? (i := 28) rfl)) (hw _ (List.mem_of_getElem? (i := 29) rfl)) (by decide) (m_n l Z a0 hw t_473 (1 : Int32) t_467 t_469 t_471 h_519 n0 z_532) at_238 rfl pd3 rfl rfl (Nat.le_of_eq rfl) (by decide) (by decide) (by decide) (by decide) rfl ?_
      rintro _ _ ⟨g0, rfl, rfl, hg0, hgg0⟩
      show (Go false l room_1 Z x code maxLocals ret n0 16 128 (fun v h => v = some (.int 1))) h_519 (0 + 1 + 1 + 1 + 1 + 0 + 0) (0 + 0 + 0 + 2 + 4 + 0 + 0) 241 #[.val (.int x0), .val (.int x1), .val (.int x2), .val (.int x3), .val (.long y0), .second, .val (.int x4), .val (.int n_179), .val (.int (0 : Int32)), .val (.int (1 : Int32)), .val (.int t_467), .val (.int t_469), .val (.int t_471), .val (.int t_473), .val (.int t_475), .val (.int t_477), .val (.ref a_481), .val (.ref a_491), .val (.ref a_503), .val (.int r), .unset, .unset, .unset, .unset] [(.int g0)]
      refine Go.istore (pc' := 243) (Ls' := #[.val (.int x0), .val (.int x1), .val (.int x2), .val (.int x3), .val (.long y0), .second, .val (.int x4), .val (.int n_179), .val (.int (0 : Int32)), .val (.int (1 : Int32)), .val (.int t_467), .val (.int t_469), .val (.int t_471), .val (.int t_473), .val (.int t_475), .val (.int t_477), .val (.ref a_481), .val (.ref a_491), .val (.ref a_503), .val (.int r), .val (.int g0), .unset, .unset, .unset]) at_241 rfl rfl ?_
      refine Go.iload (pc' := 245) at_243 rfl rfl ?_
      refine Go.iload (pc' := 247) at_245 rfl rfl ?_
      refine Go.iload (pc' := 249) at_247 rfl rfl ?_
      refine Go.iload (pc' := 251) at_249 rfl rfl ?_
      refine Go.iload (pc' := 253) at_251 rfl rfl ?_
      refine Go.callS (pc' := 256) (argsL := [(.int t_475), (.int (1 : Int32)), (.int t_467), (.int t_469), (.int t_471)]) (rest := []) (W := 0) (hw _ (List.mem_of_getElem? (i := 26) rfl)) (hw _ (List.mem_of_getElem? (i := 27) rfl)) (hw _ (List.mem_of_getElem? (i := 28) rfl)) (hw _ (List.mem_of_getElem? (i := 29) rfl)) (by decide) (m_n l Z a0 hw t_475 (1 : Int32) t_467 t_469 t_471 h_519 n0 z_532) at_253 rfl pd3 rfl rfl (Nat.le_of_eq rfl) (by decide) (by decide) (by decide) (by decide) rfl ?_
      rintro _ _ ⟨g1, rfl, rfl, hg1, hgg1⟩
      show (Go false l room_1 Z x code maxLocals ret n0 16 128 (fun v h => v = some (.int 1))) h_519 (0 + 1 + 1 + 1 + 1 + 0 + 0 + 0) (0 + 0 + 0 + 2 + 4 + 0 + 0 + 0) 256 #[.val (.int x0), .val (.int x1), .val (.int x2), .val (.int x3), .val (.long y0), .second, .val (.int x4), .val (.int n_179), .val (.int (0 : Int32)), .val (.int (1 : Int32)), .val (.int t_467), .val (.int t_469), .val (.int t_471), .val (.int t_473), .val (.int t_475), .val (.int t_477), .val (.ref a_481), .val (.ref a_491), .val (.ref a_503), .val (.int r), .val (.int g0), .unset, .unset, .unset] [(.int g1)]
      refine Go.istore (pc' := 258) (Ls' := #[.val (.int x0), .val (.int x1), .val (.int x2), .val (.int x3), .val (.long y0), .second, .val (.int x4), .val (.int n_179), .val (.int (0 : Int32)), .val (.int (1 : Int32)), .val (.int t_467), .val (.int t_469), .val (.int t_471), .val (.int t_473), .val (.int t_475), .val (.int t_477), .val (.ref a_481), .val (.ref a_491), .val (.ref a_503), .val (.int r), .val (.int g0), .val (.int g1), .unset, .unset]) at_256 rfl rfl ?_
      refine Go.iload (pc' := 260) at_258 rfl rfl ?_
      refine Go.iload (pc' := 262) at_260 rfl rfl ?_
      refine Go.iload (pc' := 264) at_262 rfl rfl ?_
      refine Go.iload (pc' := 266) at_264 rfl rfl ?_
      refine Go.iload (pc' := 268) at_266 rfl rfl ?_
      refine Go.callS (pc' := 271) (argsL := [(.int t_477), (.int (1 : Int32)), (.int t_467), (.int t_469), (.int t_471)]) (rest := []) (W := 0) (hw _ (List.mem_of_getElem? (i := 26) rfl)) (hw _ (List.mem_of_getElem? (i := 27) rfl)) (hw _ (List.mem_of_getElem? (i := 28) rfl)) (hw _ (List.mem_of_getElem? (i := 29) rfl)) (by decide) (m_n l Z a0 hw t_477 (1 : Int32) t_467 t_469 t_471 h_519 n0 z_532) at_268 rfl pd3 rfl rfl (Nat.le_of_eq rfl) (by decide) (by decide) (by decide) (by decide) rfl ?_
      rintro _ _ ⟨g2, rfl, rfl, hg2, hgg2⟩
      show (Go false l room_1 Z x code maxLocals ret n0 16 128 (fun v h => v = some (.int 1))) h_519 (0 + 1 + 1 + 1 + 1 + 0 + 0 + 0 + 0) (0 + 0 + 0 + 2 + 4 + 0 + 0 + 0 + 0) 271 #[.val (.int x0), .val (.int x1), .val (.int x2), .val (.int x3), .val (.long y0), .second, .val (.int x4), .val (.int n_179), .val (.int (0 : Int32)), .val (.int (1 : Int32)), .val (.int t_467), .val (.int t_469), .val (.int t_471), .val (.int t_473), .val (.int t_475), .val (.int t_477), .val (.ref a_481), .val (.ref a_491), .val (.ref a_503), .val (.int r), .val (.int g0), .val (.int g1), .unset, .unset] [(.int g2)]
      have p0 : (own_bt W t_473.toInt.toNat = true ↔ g0.toInt = 1) := ⟨fun z => absurd ((hbt _).mp z) (by decide), fun z => absurd (hgg0.mp z).1 (by decide)⟩
      have p1 : (own_bt W t_475.toInt.toNat = true ↔ g1.toInt = 1) := ⟨fun z => absurd ((hbt _).mp z) (by decide), fun z => absurd (hgg1.mp z).1 (by decide)⟩
      have p2 : (own_bt W t_477.toInt.toNat = true ↔ g2.toInt = 1) := ⟨fun z => absurd ((hbt _).mp z) (by decide), fun z => absurd (hgg2.mp z).1 (by decide)⟩
      clear p0 p1 p2 hgg0 hgg1 hgg2 hbt
      have z0 : (0 : Int32).toInt = 0 := rfl
      have z1 : (1 : Int32).toInt = 1 := rfl
      refine Go.istore (pc' := 273) (Ls' := #[.val (.int x0), .val (.int x1), .val (.int x2), .val (.int x3), .val (.long y0), .second, .val (.int x4), .val (.int n_179), .val (.int (0 : Int32)), .val (.int (1 : Int32)), .val (.int t_467), .val (.int t_469), .val (.int t_471), .val (.int t_473), .val (.int t_475), .val (.int t_477), .val (.ref a_481), .val (.ref a_491), .val (.ref a_503), .val (.int r), .val (.int g0), .val (.int g1), .val (.int g2), .unset]) at_271 rfl rfl ?_
      refine Go.iload (pc' := 275) at_273 rfl rfl ?_
      refine Go.ifc (pc1 := 284) (pc2 := 278) at_275 (by decide) (by decide) rfl (fun (c_533 : (0 : Int) ≠ 0) => ?_) (fun (c_533 : (0 : Int) = 0) => ?_)
      · exact absurd c_533 (by decide)
      refine Go.iconst (pc' := 279) (v := (1 : Int32)) at_278 rfl rfl ?_
      refine Go.istore (pc' := 281) (Ls' := #[.val (.int x0), .val (.int x1), .val (.int x2), .val (.int x3), .val (.long y0), .second, .val (.int x4), .val (.int n_179), .val (.int (0 : Int32)), .val (.int (1 : Int32)), .val (.int t_467), .val (.int t_469), .val (.int t_471), .val (.int t_473), .val (.int t_475), .val (.int t_477), .val (.ref a_481), .val (.ref a_491), .val (.ref a_503), .val (.int r), .val (.int g0), .val (.int g1), .val (.int g2), .val (.int (1 : Int32))]) at_279 rfl rfl ?_
      refine Go.goto (pc' := 345) at_281 (by decide) (by decide) ?_
      refine Go.iload (pc' := 347) at_345 rfl rfl ?_
      refine Go.iload (pc' := 349) at_347 rfl rfl ?_
      refine Go.icmp (pc1 := 356) (pc2 := 352) at_349 (by decide) (by decide) rfl (fun (c_534 : r.toInt ≠ (1 : Int)) => ?_) (fun (c_534 : r.toInt = (1 : Int)) => ?_)
      · exact absurd (by omega) c_534
      refine Go.iconst (pc' := 353) (v := (1 : Int32)) at_352 rfl rfl ?_
      refine Go.goto (pc' := 357) at_353 (by decide) (by decide) ?_
      exact Go.retN (t := .boolean) at_357 rfl (by simp) rfl rfl (by decide) (by decide)
    · obtain rfl : k_181 = (1 : Int32) := Int32.toInt_inj.mp k_182
      refine Go.ifc (pc1 := 143) (pc2 := 135) at_132 (by decide) (by decide) rfl (fun (c_535 : (1 : Int) ≠ 0) => ?_) (fun (c_535 : (1 : Int) = 0) => ?_)
      rotate_left
      · exact absurd c_535 (by decide)
      refine Go.iload (pc' := 145) at_143 rfl rfl ?_
      refine Go.iconst (pc' := 146) (v := (1 : Int32)) at_145 rfl rfl ?_
      refine Go.icmp (pc1 := 162) (pc2 := 149) at_146 (by decide) (by decide) rfl (fun (c_536 : (1 : Int) ≠ (1 : Int)) => ?_) (fun (c_536 : (1 : Int) = (1 : Int)) => ?_)
      · exact absurd c_536 (by decide)
      refine Go.iconst (pc' := 150) (v := (1 : Int32)) at_149 rfl rfl ?_
      refine Go.newA (pc' := 152) (k := 1) (ty := .int) (cap := 1) (hw _ (List.mem_of_getElem? (i := 2) rfl)) rfl rfl (by decide) (by decide) at_150 (by decide) (by decide) rfl ?_
      intro h_537 a_538 q_539 E_540 A_541
      have n_543 : a_481 ≠ a_538 := Nat.ne_of_lt (q_539 ▸ t_488)
      have g_544 : n0 ≤ a_538 := q_539 ▸ z_487
      have f_545 : Ary Z h_537 a_481 .int [] := A_484.sm (Sm.ext E_540)
      have t_546 : a_481 < h_537.size := Nat.lt_of_lt_of_le t_488 E_540.1
      have z_547 : n0 ≤ h_537.size := Nat.le_trans z_487 E_540.1
      have t_548 : a_538 < h_537.size := A_541.lt
      change Ary Z h_537 a_538 .int [(.int (0 : Int32))] at A_541
      refine Go.dup (pc' := 153) at_152 rfl rfl ?_
      refine Go.iconst (pc' := 154) (v := (0 : Int32)) at_153 rfl rfl ?_
      refine Go.iload (pc' := 156) at_154 rfl rfl ?_
      refine Go.stI (pc' := 157) (k := 0) A_541 rfl (by show 0 < 1; decide) at_156 g_544 rfl ?_
      intro h_549 W_550 A_551
      have f_552 : Ary Z h_549 a_481 .int [] := f_545.sm (Sm.wr W_550 n_543)
      have t_553 : a_481 < h_549.size := Nat.lt_of_lt_of_le t_546 (Nat.le_of_eq W_550.size.symm)
      have t_554 : a_538 < h_549.size := Nat.lt_of_lt_of_le t_548 (Nat.le_of_eq W_550.size.symm)
      have z_555 : n0 ≤ h_549.size := Nat.le_trans z_547 (Nat.le_of_eq W_550.size.symm)
      change Ary Z h_549 a_538 .int [(.int t_473)] at A_551
      refine Go.astore (pc' := 159) (Ls' := #[.val (.int x0), .val (.int x1), .val (.int x2), .val (.int x3), .val (.long y0), .second, .val (.int x4), .val (.int n_179), .val (.int (1 : Int32)), .val (.int (1 : Int32)), .val (.int t_467), .val (.int t_469), .val (.int t_471), .val (.int t_473), .val (.int t_475), .val (.int t_477), .val (.ref a_481), .val (.ref a_538), .unset, .unset, .unset, .unset, .unset, .unset]) at_157 rfl rfl rfl ?_
      refine Go.goto (pc' := 206) at_159 (by decide) (by decide) ?_
      refine Go.newO (pc' := 209) (hw _ (List.mem_of_getElem? (i := 3) rfl)) (hw _ (List.mem_of_getElem? (i := 4) rfl)) (hw _ (List.mem_of_getElem? (i := 5) rfl)) at_206 (by decide) (by decide) rfl ?_
      intro h_556 a_557 q_558 E_559 A_560 D_561
      have n_562 : a_481 ≠ a_557 := Nat.ne_of_lt (q_558 ▸ t_553)
      have n_563 : a_538 ≠ a_557 := Nat.ne_of_lt (q_558 ▸ t_554)
      have g_564 : n0 ≤ a_557 := q_558 ▸ z_555
      have f_565 : Ary Z h_556 a_481 .int [] := f_552.sm (Sm.ext E_559)
      have f_566 : Ary Z h_556 a_538 .int [(.int t_473)] := A_551.sm (Sm.ext E_559)
      have t_567 : a_481 < h_556.size := Nat.lt_of_lt_of_le t_553 E_559.1
      have t_568 : a_538 < h_556.size := Nat.lt_of_lt_of_le t_554 E_559.1
      have z_569 : n0 ≤ h_556.size := Nat.le_trans z_555 E_559.1
      have t_570 : a_557 < h_556.size := A_560.lt
      have f_571 : Fld Z h_556 a_557 "com/example/forward_planner/forwardplanner/model/State" "factCount" "I" (.int (0 : Int32)) := D_561 (Or.inr (hw _ (List.mem_of_getElem? (i := 13) rfl))) (ty := .int) (by decide)
      have f_572 : Fld Z h_556 a_557 "com/example/forward_planner/forwardplanner/model/State" "words" "[J" .null := D_561 (Or.inr (hw _ (List.mem_of_getElem? (i := 16) rfl))) (ty := (.array .long)) (by decide)
      refine Go.dup (pc' := 210) at_209 rfl rfl ?_
      refine Go.iload (pc' := 212) at_210 rfl rfl ?_
      refine Go.aload (pc' := 214) at_212 rfl rfl rfl ?_
      refine Go.callN (pc' := 217) (argsL := [(.int n_179), (.ref a_481)]) (rest := [(.ref a_557)]) (W := 1) rfl (hw _ (List.mem_of_getElem? (i := 6) rfl)) (hw _ (List.mem_of_getElem? (i := 7) rfl)) (hw _ (List.mem_of_getElem? (i := 5) rfl)) (hw _ (List.mem_of_getElem? (i := 8) rfl)) (by decide) (m_i0 l Z a0 hw a_557 a_481 n_179  h_556 n0 z_569 A_560 f_571 f_572 g_564 f_565 n_562.symm (by omega) ) at_214 rfl pd1 rfl rfl (Nat.le_of_eq rfl) (by decide) (by decide) (by decide) (by decide) rfl ?_
      rintro _ h_573 ⟨rfl, e, W, K_574, X_575, F_576, A_577, he, hlt, hlen, hbt⟩
      have f_578 : Ary Z h_573 a_481 .int [] := f_565.sm (Sm.keep K_574 (ninS n_562 nin0))
      have f_579 : Ary Z h_573 a_538 .int [(.int t_473)] := f_566.sm (Sm.keep K_574 (ninS n_563 nin0))
      have f_580 : Exa Z h_573 a_557 "com/example/forward_planner/forwardplanner/model/State" := A_560.keep K_574
      have t_583 : a_481 < h_573.size := Nat.lt_of_lt_of_le t_567 K_574.1
      have t_584 : a_538 < h_573.size := Nat.lt_of_lt_of_le t_568 K_574.1
      have t_585 : a_557 < h_573.size := Nat.lt_of_lt_of_le t_570 K_574.1
      have z_586 : n0 ≤ h_573.size := Nat.le_trans z_569 K_574.1
      show (Go false l room_1 Z x code maxLocals ret n0 16 128 (fun v h => v = some (.int 1))) h_573 (0 + 1 + 1 + 1 + 1) (0 + 0 + 1 + 2 + 4) 217 #[.val (.int x0), .val (.int x1), .val (.int x2), .val (.int x3), .val (.long y0), .second, .val (.int x4), .val (.int n_179), .val (.int (1 : Int32)), .val (.int (1 : Int32)), .val (.int t_467), .val (.int t_469), .val (.int t_471), .val (.int t_473), .val (.int t_475), .val (.int t_477), .val (.ref a_481), .val (.ref a_538), .unset, .unset, .unset, .unset, .unset, .unset] [(.ref a_557)]
      refine Go.astore (pc' := 219) (Ls' := #[.val (.int x0), .val (.int x1), .val (.int x2), .val (.int x3), .val (.long y0), .second, .val (.int x4), .val (.int n_179), .val (.int (1 : Int32)), .val (.int (1 : Int32)), .val (.int t_467), .val (.int t_469), .val (.int t_471), .val (.int t_473), .val (.int t_475), .val (.int t_477), .val (.ref a_481), .val (.ref a_538), .val (.ref a_557), .unset, .unset, .unset, .unset, .unset]) at_217 rfl rfl rfl ?_
      refine Go.aload (pc' := 221) at_219 rfl rfl rfl ?_
      refine Go.aload (pc' := 223) at_221 rfl rfl rfl ?_
      refine Go.callV (pc' := 226) (argsL := [(.ref a_538)]) (rest := []) (W := 0) (hw _ (List.mem_of_getElem? (i := 21) rfl)) (hw _ (List.mem_of_getElem? (i := 22) rfl)) (hw _ (List.mem_of_getElem? (i := 24) rfl)) (hw _ (List.mem_of_getElem? (i := 23) rfl)) (hw _ (List.mem_of_getElem? (i := 5) rfl)) (hw _ (List.mem_of_getElem? (i := 25) rfl)) (by decide) f_580 (m_h1 l Z a0 hw a_557 e a_538 W t_473 h_573 n0 z_586 f_580 F_576 A_577 f_579 (by omega)) at_223 rfl pd2 rfl rfl (Nat.le_of_eq rfl) (by decide) (by decide) (by decide) (by decide) rfl ?_
      rintro _ _ ⟨r, rfl, rfl, hr, hr2⟩
      show (Go false l room_1 Z x code maxLocals ret n0 16 128 (fun v h => v = some (.int 1))) h_573 (0 + 1 + 1 + 1 + 1 + 0) (0 + 0 + 1 + 2 + 4 + 0) 226 #[.val (.int x0), .val (.int x1), .val (.int x2), .val (.int x3), .val (.long y0), .second, .val (.int x4), .val (.int n_179), .val (.int (1 : Int32)), .val (.int (1 : Int32)), .val (.int t_467), .val (.int t_469), .val (.int t_471), .val (.int t_473), .val (.int t_475), .val (.int t_477), .val (.ref a_481), .val (.ref a_538), .val (.ref a_557), .unset, .unset, .unset, .unset, .unset] [(.int r)]
      refine Go.istore (pc' := 228) (Ls' := #[.val (.int x0), .val (.int x1), .val (.int x2), .val (.int x3), .val (.long y0), .second, .val (.int x4), .val (.int n_179), .val (.int (1 : Int32)), .val (.int (1 : Int32)), .val (.int t_467), .val (.int t_469), .val (.int t_471), .val (.int t_473), .val (.int t_475), .val (.int t_477), .val (.ref a_481), .val (.ref a_538), .val (.ref a_557), .val (.int r), .unset, .unset, .unset, .unset]) at_226 rfl rfl ?_
      refine Go.iload (pc' := 230) at_228 rfl rfl ?_
      refine Go.iload (pc' := 232) at_230 rfl rfl ?_
      refine Go.iload (pc' := 234) at_232 rfl rfl ?_
      refine Go.iload (pc' := 236) at_234 rfl rfl ?_
      refine Go.iload (pc' := 238) at_236 rfl rfl ?_
      refine Go.callS (pc' := 241) (argsL := [(.int t_473), (.int (1 : Int32)), (.int t_467), (.int t_469), (.int t_471)]) (rest := []) (W := 0) (hw _ (List.mem_of_getElem? (i := 26) rfl)) (hw _ (List.mem_of_getElem? (i := 27) rfl)) (hw _ (List.mem_of_getElem? (i := 28) rfl)) (hw _ (List.mem_of_getElem? (i := 29) rfl)) (by decide) (m_n l Z a0 hw t_473 (1 : Int32) t_467 t_469 t_471 h_573 n0 z_586) at_238 rfl pd3 rfl rfl (Nat.le_of_eq rfl) (by decide) (by decide) (by decide) (by decide) rfl ?_
      rintro _ _ ⟨g0, rfl, rfl, hg0, hgg0⟩
      show (Go false l room_1 Z x code maxLocals ret n0 16 128 (fun v h => v = some (.int 1))) h_573 (0 + 1 + 1 + 1 + 1 + 0 + 0) (0 + 0 + 1 + 2 + 4 + 0 + 0) 241 #[.val (.int x0), .val (.int x1), .val (.int x2), .val (.int x3), .val (.long y0), .second, .val (.int x4), .val (.int n_179), .val (.int (1 : Int32)), .val (.int (1 : Int32)), .val (.int t_467), .val (.int t_469), .val (.int t_471), .val (.int t_473), .val (.int t_475), .val (.int t_477), .val (.ref a_481), .val (.ref a_538), .val (.ref a_557), .val (.int r), .unset, .unset, .unset, .unset] [(.int g0)]
      refine Go.istore (pc' := 243) (Ls' := #[.val (.int x0), .val (.int x1), .val (.int x2), .val (.int x3), .val (.long y0), .second, .val (.int x4), .val (.int n_179), .val (.int (1 : Int32)), .val (.int (1 : Int32)), .val (.int t_467), .val (.int t_469), .val (.int t_471), .val (.int t_473), .val (.int t_475), .val (.int t_477), .val (.ref a_481), .val (.ref a_538), .val (.ref a_557), .val (.int r), .val (.int g0), .unset, .unset, .unset]) at_241 rfl rfl ?_
      refine Go.iload (pc' := 245) at_243 rfl rfl ?_
      refine Go.iload (pc' := 247) at_245 rfl rfl ?_
      refine Go.iload (pc' := 249) at_247 rfl rfl ?_
      refine Go.iload (pc' := 251) at_249 rfl rfl ?_
      refine Go.iload (pc' := 253) at_251 rfl rfl ?_
      refine Go.callS (pc' := 256) (argsL := [(.int t_475), (.int (1 : Int32)), (.int t_467), (.int t_469), (.int t_471)]) (rest := []) (W := 0) (hw _ (List.mem_of_getElem? (i := 26) rfl)) (hw _ (List.mem_of_getElem? (i := 27) rfl)) (hw _ (List.mem_of_getElem? (i := 28) rfl)) (hw _ (List.mem_of_getElem? (i := 29) rfl)) (by decide) (m_n l Z a0 hw t_475 (1 : Int32) t_467 t_469 t_471 h_573 n0 z_586) at_253 rfl pd3 rfl rfl (Nat.le_of_eq rfl) (by decide) (by decide) (by decide) (by decide) rfl ?_
      rintro _ _ ⟨g1, rfl, rfl, hg1, hgg1⟩
      show (Go false l room_1 Z x code maxLocals ret n0 16 128 (fun v h => v = some (.int 1))) h_573 (0 + 1 + 1 + 1 + 1 + 0 + 0 + 0) (0 + 0 + 1 + 2 + 4 + 0 + 0 + 0) 256 #[.val (.int x0), .val (.int x1), .val (.int x2), .val (.int x3), .val (.long y0), .second, .val (.int x4), .val (.int n_179), .val (.int (1 : Int32)), .val (.int (1 : Int32)), .val (.int t_467), .val (.int t_469), .val (.int t_471), .val (.int t_473), .val (.int t_475), .val (.int t_477), .val (.ref a_481), .val (.ref a_538), .val (.ref a_557), .val (.int r), .val (.int g0), .unset, .unset, .unset] [(.int g1)]
      refine Go.istore (pc' := 258) (Ls' := #[.val (.int x0), .val (.int x1), .val (.int x2), .val (.int x3), .val (.long y0), .second, .val (.int x4), .val (.int n_179), .val (.int (1 : Int32)), .val (.int (1 : Int32)), .val (.int t_467), .val (.int t_469), .val (.int t_471), .val (.int t_473), .val (.int t_475), .val (.int t_477), .val (.ref a_481), .val (.ref a_538), .val (.ref a_557), .val (.int r), .val (.int g0), .val (.int g1), .unset, .unset]) at_256 rfl rfl ?_
      refine Go.iload (pc' := 260) at_258 rfl rfl ?_
      refine Go.iload (pc' := 262) at_260 rfl rfl ?_
      refine Go.iload (pc' := 264) at_262 rfl rfl ?_
      refine Go.iload (pc' := 266) at_264 rfl rfl ?_
      refine Go.iload (pc' := 268) at_266 rfl rfl ?_
      refine Go.callS (pc' := 271) (argsL := [(.int t_477), (.int (1 : Int32)), (.int t_467), (.int t_469), (.int t_471)]) (rest := []) (W := 0) (hw _ (List.mem_of_getElem? (i := 26) rfl)) (hw _ (List.mem_of_getElem? (i := 27) rfl)) (hw _ (List.mem_of_getElem? (i := 28) rfl)) (hw _ (List.mem_of_getElem? (i := 29) rfl)) (by decide) (m_n l Z a0 hw t_477 (1 : Int32) t_467 t_469 t_471 h_573 n0 z_586) at_268 rfl pd3 rfl rfl (Nat.le_of_eq rfl) (by decide) (by decide) (by decide) (by decide) rfl ?_
      rintro _ _ ⟨g2, rfl, rfl, hg2, hgg2⟩
      show (Go false l room_1 Z x code maxLocals ret n0 16 128 (fun v h => v = some (.int 1))) h_573 (0 + 1 + 1 + 1 + 1 + 0 + 0 + 0 + 0) (0 + 0 + 1 + 2 + 4 + 0 + 0 + 0 + 0) 271 #[.val (.int x0), .val (.int x1), .val (.int x2), .val (.int x3), .val (.long y0), .second, .val (.int x4), .val (.int n_179), .val (.int (1 : Int32)), .val (.int (1 : Int32)), .val (.int t_467), .val (.int t_469), .val (.int t_471), .val (.int t_473), .val (.int t_475), .val (.int t_477), .val (.ref a_481), .val (.ref a_538), .val (.ref a_557), .val (.int r), .val (.int g0), .val (.int g1), .unset, .unset] [(.int g2)]
      have p0 : (own_bt W t_473.toInt.toNat = true ↔ g0.toInt = 1) := ⟨fun z => absurd ((hbt _).mp z) (by decide), fun z => absurd (hgg0.mp z).1 (by decide)⟩
      have p1 : (own_bt W t_475.toInt.toNat = true ↔ g1.toInt = 1) := ⟨fun z => absurd ((hbt _).mp z) (by decide), fun z => absurd (hgg1.mp z).1 (by decide)⟩
      have p2 : (own_bt W t_477.toInt.toNat = true ↔ g2.toInt = 1) := ⟨fun z => absurd ((hbt _).mp z) (by decide), fun z => absurd (hgg2.mp z).1 (by decide)⟩
      rw [p0] at hr2
      clear p0 p1 p2 hgg0 hgg1 hgg2 hbt
      have z0 : (0 : Int32).toInt = 0 := rfl
      have z1 : (1 : Int32).toInt = 1 := rfl
      refine Go.istore (pc' := 273) (Ls' := #[.val (.int x0), .val (.int x1), .val (.int x2), .val (.int x3), .val (.long y0), .second, .val (.int x4), .val (.int n_179), .val (.int (1 : Int32)), .val (.int (1 : Int32)), .val (.int t_467), .val (.int t_469), .val (.int t_471), .val (.int t_473), .val (.int t_475), .val (.int t_477), .val (.ref a_481), .val (.ref a_538), .val (.ref a_557), .val (.int r), .val (.int g0), .val (.int g1), .val (.int g2), .unset]) at_271 rfl rfl ?_
      refine Go.iload (pc' := 275) at_273 rfl rfl ?_
      refine Go.ifc (pc1 := 284) (pc2 := 278) at_275 (by decide) (by decide) rfl (fun (c_587 : (1 : Int) ≠ 0) => ?_) (fun (c_587 : (1 : Int) = 0) => ?_)
      rotate_left
      · exact absurd c_587 (by decide)
      refine Go.iload (pc' := 286) at_284 rfl rfl ?_
      refine Go.iconst (pc' := 287) (v := (1 : Int32)) at_286 rfl rfl ?_
      refine Go.icmp (pc1 := 297) (pc2 := 290) at_287 (by decide) (by decide) rfl (fun (c_588 : (1 : Int) ≠ (1 : Int)) => ?_) (fun (c_588 : (1 : Int) = (1 : Int)) => ?_)
      · exact absurd c_588 (by decide)
      refine Go.iload (pc' := 292) at_290 rfl rfl ?_
      refine Go.istore (pc' := 294) (Ls' := #[.val (.int x0), .val (.int x1), .val (.int x2), .val (.int x3), .val (.long y0), .second, .val (.int x4), .val (.int n_179), .val (.int (1 : Int32)), .val (.int (1 : Int32)), .val (.int t_467), .val (.int t_469), .val (.int t_471), .val (.int t_473), .val (.int t_475), .val (.int t_477), .val (.ref a_481), .val (.ref a_538), .val (.ref a_557), .val (.int r), .val (.int g0), .val (.int g1), .val (.int g2), .val (.int g0)]) at_292 rfl rfl ?_
      refine Go.goto (pc' := 345) at_294 (by decide) (by decide) ?_
      refine Go.iload (pc' := 347) at_345 rfl rfl ?_
      refine Go.iload (pc' := 349) at_347 rfl rfl ?_
      refine Go.icmp (pc1 := 356) (pc2 := 352) at_349 (by decide) (by decide) rfl (fun (c_589 : r.toInt ≠ g0.toInt) => ?_) (fun (c_589 : r.toInt = g0.toInt) => ?_)
      · exact absurd (by omega) c_589
      refine Go.iconst (pc' := 353) (v := (1 : Int32)) at_352 rfl rfl ?_
      refine Go.goto (pc' := 357) at_353 (by decide) (by decide) ?_
      exact Go.retN (t := .boolean) at_357 rfl (by simp) rfl rfl (by decide) (by decide)
    · obtain rfl : k_181 = (2 : Int32) := Int32.toInt_inj.mp k_182
      refine Go.ifc (pc1 := 143) (pc2 := 135) at_132 (by decide) (by decide) rfl (fun (c_590 : (2 : Int) ≠ 0) => ?_) (fun (c_590 : (2 : Int) = 0) => ?_)
      rotate_left
      · exact absurd c_590 (by decide)
      refine Go.iload (pc' := 145) at_143 rfl rfl ?_
      refine Go.iconst (pc' := 146) (v := (1 : Int32)) at_145 rfl rfl ?_
      refine Go.icmp (pc1 := 162) (pc2 := 149) at_146 (by decide) (by decide) rfl (fun (c_591 : (2 : Int) ≠ (1 : Int)) => ?_) (fun (c_591 : (2 : Int) = (1 : Int)) => ?_)
      rotate_left
      · exact absurd c_591 (by decide)
      refine Go.iload (pc' := 164) at_162 rfl rfl ?_
      refine Go.iconst (pc' := 165) (v := (2 : Int32)) at_164 rfl rfl ?_
      refine Go.icmp (pc1 := 186) (pc2 := 168) at_165 (by decide) (by decide) rfl (fun (c_592 : (2 : Int) ≠ (2 : Int)) => ?_) (fun (c_592 : (2 : Int) = (2 : Int)) => ?_)
      · exact absurd c_592 (by decide)
      refine Go.iconst (pc' := 169) (v := (2 : Int32)) at_168 rfl rfl ?_
      refine Go.newA (pc' := 171) (k := 2) (ty := .int) (cap := 2) (hw _ (List.mem_of_getElem? (i := 2) rfl)) rfl rfl (by decide) (by decide) at_169 (by decide) (by decide) rfl ?_
      intro h_593 a_594 q_595 E_596 A_597
      have n_599 : a_481 ≠ a_594 := Nat.ne_of_lt (q_595 ▸ t_488)
      have g_600 : n0 ≤ a_594 := q_595 ▸ z_487
      have f_601 : Ary Z h_593 a_481 .int [] := A_484.sm (Sm.ext E_596)
      have t_602 : a_481 < h_593.size := Nat.lt_of_lt_of_le t_488 E_596.1
      have z_603 : n0 ≤ h_593.size := Nat.le_trans z_487 E_596.1
      have t_604 : a_594 < h_593.size := A_597.lt
      change Ary Z h_593 a_594 .int [(.int (0 : Int32)), (.int (0 : Int32))] at A_597
      refine Go.dup (pc' := 172) at_171 rfl rfl ?_
      refine Go.iconst (pc' := 173) (v := (0 : Int32)) at_172 rfl rfl ?_
      refine Go.iload (pc' := 175) at_173 rfl rfl ?_
      refine Go.stI (pc' := 176) (k := 0) A_597 rfl (by show 0 < 2; decide) at_175 g_600 rfl ?_
      intro h_605 W_606 A_607
      have f_608 : Ary Z h_605 a_481 .int [] := f_601.sm (Sm.wr W_606 n_599)
      have t_609 : a_481 < h_605.size := Nat.lt_of_lt_of_le t_602 (Nat.le_of_eq W_606.size.symm)
      have t_610 : a_594 < h_605.size := Nat.lt_of_lt_of_le t_604 (Nat.le_of_eq W_606.size.symm)
      have z_611 : n0 ≤ h_605.size := Nat.le_trans z_603 (Nat.le_of_eq W_606.size.symm)
      change Ary Z h_605 a_594 .int [(.int t_473), (.int (0 : Int32))] at A_607
      refine Go.dup (pc' := 177) at_176 rfl rfl ?_
      refine Go.iconst (pc' := 178) (v := (1 : Int32)) at_177 rfl rfl ?_
      refine Go.iload (pc' := 180) at_178 rfl rfl ?_
      refine Go.stI (pc' := 181) (k := 1) A_607 rfl (by show 1 < 2; decide) at_180 g_600 rfl ?_
      intro h_612 W_613 A_614
      have f_615 : Ary Z h_612 a_481 .int [] := f_608.sm (Sm.wr W_613 n_599)
      have t_616 : a_481 < h_612.size := Nat.lt_of_lt_of_le t_609 (Nat.le_of_eq W_613.size.symm)
      have t_617 : a_594 < h_612.size := Nat.lt_of_lt_of_le t_610 (Nat.le_of_eq W_613.size.symm)
      have z_618 : n0 ≤ h_612.size := Nat.le_trans z_611 (Nat.le_of_eq W_613.size.symm)
      change Ary Z h_612 a_594 .int [(.int t_473), (.int t_475)] at A_614
      refine Go.astore (pc' := 183) (Ls' := #[.val (.int x0), .val (.int x1), .val (.int x2), .val (.int x3), .val (.long y0), .second, .val (.int x4), .val (.int n_179), .val (.int (2 : Int32)), .val (.int (1 : Int32)), .val (.int t_467), .val (.int t_469), .val (.int t_471), .val (.int t_473), .val (.int t_475), .val (.int t_477), .val (.ref a_481), .val (.ref a_594), .unset, .unset, .unset, .unset, .unset, .unset]) at_181 rfl rfl rfl ?_
      refine Go.goto (pc' := 206) at_183 (by decide) (by decide) ?_
      refine Go.newO (pc' := 209) (hw _ (List.mem_of_getElem? (i := 3) rfl)) (hw _ (List.mem_of_getElem? (i := 4) rfl)) (hw _ (List.mem_of_getElem? (i := 5) rfl)) at_206 (by decide) (by decide) rfl ?_
      intro h_619 a_620 q_621 E_622 A_623 D_624
      have n_625 : a_481 ≠ a_620 := Nat.ne_of_lt (q_621 ▸ t_616)
      have n_626 : a_594 ≠ a_620 := Nat.ne_of_lt (q_621 ▸ t_617)
      have g_627 : n0 ≤ a_620 := q_621 ▸ z_618
      have f_628 : Ary Z h_619 a_481 .int [] := f_615.sm (Sm.ext E_622)
      have f_629 : Ary Z h_619 a_594 .int [(.int t_473), (.int t_475)] := A_614.sm (Sm.ext E_622)
      have t_630 : a_481 < h_619.size := Nat.lt_of_lt_of_le t_616 E_622.1
      have t_631 : a_594 < h_619.size := Nat.lt_of_lt_of_le t_617 E_622.1
      have z_632 : n0 ≤ h_619.size := Nat.le_trans z_618 E_622.1
      have t_633 : a_620 < h_619.size := A_623.lt
      have f_634 : Fld Z h_619 a_620 "com/example/forward_planner/forwardplanner/model/State" "factCount" "I" (.int (0 : Int32)) := D_624 (Or.inr (hw _ (List.mem_of_getElem? (i := 13) rfl))) (ty := .int) (by decide)
      have f_635 : Fld Z h_619 a_620 "com/example/forward_planner/forwardplanner/model/State" "words" "[J" .null := D_624 (Or.inr (hw _ (List.mem_of_getElem? (i := 16) rfl))) (ty := (.array .long)) (by decide)
      refine Go.dup (pc' := 210) at_209 rfl rfl ?_
      refine Go.iload (pc' := 212) at_210 rfl rfl ?_
      refine Go.aload (pc' := 214) at_212 rfl rfl rfl ?_
      refine Go.callN (pc' := 217) (argsL := [(.int n_179), (.ref a_481)]) (rest := [(.ref a_620)]) (W := 1) rfl (hw _ (List.mem_of_getElem? (i := 6) rfl)) (hw _ (List.mem_of_getElem? (i := 7) rfl)) (hw _ (List.mem_of_getElem? (i := 5) rfl)) (hw _ (List.mem_of_getElem? (i := 8) rfl)) (by decide) (m_i0 l Z a0 hw a_620 a_481 n_179  h_619 n0 z_632 A_623 f_634 f_635 g_627 f_628 n_625.symm (by omega) ) at_214 rfl pd1 rfl rfl (Nat.le_of_eq rfl) (by decide) (by decide) (by decide) (by decide) rfl ?_
      rintro _ h_636 ⟨rfl, e, W, K_637, X_638, F_639, A_640, he, hlt, hlen, hbt⟩
      have f_641 : Ary Z h_636 a_481 .int [] := f_628.sm (Sm.keep K_637 (ninS n_625 nin0))
      have f_642 : Ary Z h_636 a_594 .int [(.int t_473), (.int t_475)] := f_629.sm (Sm.keep K_637 (ninS n_626 nin0))
      have f_643 : Exa Z h_636 a_620 "com/example/forward_planner/forwardplanner/model/State" := A_623.keep K_637
      have t_646 : a_481 < h_636.size := Nat.lt_of_lt_of_le t_630 K_637.1
      have t_647 : a_594 < h_636.size := Nat.lt_of_lt_of_le t_631 K_637.1
      have t_648 : a_620 < h_636.size := Nat.lt_of_lt_of_le t_633 K_637.1
      have z_649 : n0 ≤ h_636.size := Nat.le_trans z_632 K_637.1
      show (Go false l room_1 Z x code maxLocals ret n0 16 128 (fun v h => v = some (.int 1))) h_636 (0 + 1 + 1 + 1 + 1) (0 + 0 + 2 + 2 + 4) 217 #[.val (.int x0), .val (.int x1), .val (.int x2), .val (.int x3), .val (.long y0), .second, .val (.int x4), .val (.int n_179), .val (.int (2 : Int32)), .val (.int (1 : Int32)), .val (.int t_467), .val (.int t_469), .val (.int t_471), .val (.int t_473), .val (.int t_475), .val (.int t_477), .val (.ref a_481), .val (.ref a_594), .unset, .unset, .unset, .unset, .unset, .unset] [(.ref a_620)]
      refine Go.astore (pc' := 219) (Ls' := #[.val (.int x0), .val (.int x1), .val (.int x2), .val (.int x3), .val (.long y0), .second, .val (.int x4), .val (.int n_179), .val (.int (2 : Int32)), .val (.int (1 : Int32)), .val (.int t_467), .val (.int t_469), .val (.int t_471), .val (.int t_473), .val (.int t_475), .val (.int t_477), .val (.ref a_481), .val (.ref a_594), .val (.ref a_620), .unset, .unset, .unset, .unset, .unset]) at_217 rfl rfl rfl ?_
      refine Go.aload (pc' := 221) at_219 rfl rfl rfl ?_
      refine Go.aload (pc' := 223) at_221 rfl rfl rfl ?_
      refine Go.callV (pc' := 226) (argsL := [(.ref a_594)]) (rest := []) (W := 0) (hw _ (List.mem_of_getElem? (i := 21) rfl)) (hw _ (List.mem_of_getElem? (i := 22) rfl)) (hw _ (List.mem_of_getElem? (i := 24) rfl)) (hw _ (List.mem_of_getElem? (i := 23) rfl)) (hw _ (List.mem_of_getElem? (i := 5) rfl)) (hw _ (List.mem_of_getElem? (i := 25) rfl)) (by decide) f_643 (m_h2 l Z a0 hw a_620 e a_594 W t_473 t_475 h_636 n0 z_649 f_643 F_639 A_640 f_642 (by omega) (by omega)) at_223 rfl pd2 rfl rfl (Nat.le_of_eq rfl) (by decide) (by decide) (by decide) (by decide) rfl ?_
      rintro _ _ ⟨r, rfl, rfl, hr, hr2⟩
      show (Go false l room_1 Z x code maxLocals ret n0 16 128 (fun v h => v = some (.int 1))) h_636 (0 + 1 + 1 + 1 + 1 + 0) (0 + 0 + 2 + 2 + 4 + 0) 226 #[.val (.int x0), .val (.int x1), .val (.int x2), .val (.int x3), .val (.long y0), .second, .val (.int x4), .val (.int n_179), .val (.int (2 : Int32)), .val (.int (1 : Int32)), .val (.int t_467), .val (.int t_469), .val (.int t_471), .val (.int t_473), .val (.int t_475), .val (.int t_477), .val (.ref a_481), .val (.ref a_594), .val (.ref a_620), .unset, .unset, .unset, .unset, .unset] [(.int r)]
      refine Go.istore (pc' := 228) (Ls' := #[.val (.int x0), .val (.int x1), .val (.int x2), .val (.int x3), .val (.long y0), .second, .val (.int x4), .val (.int n_179), .val (.int (2 : Int32)), .val (.int (1 : Int32)), .val (.int t_467), .val (.int t_469), .val (.int t_471), .val (.int t_473), .val (.int t_475), .val (.int t_477), .val (.ref a_481), .val (.ref a_594), .val (.ref a_620), .val (.int r), .unset, .unset, .unset, .unset]) at_226 rfl rfl ?_
      refine Go.iload (pc' := 230) at_228 rfl rfl ?_
      refine Go.iload (pc' := 232) at_230 rfl rfl ?_
      refine Go.iload (pc' := 234) at_232 rfl rfl ?_
      refine Go.iload (pc' := 236) at_234 rfl rfl ?_
      refine Go.iload (pc' := 238) at_236 rfl rfl ?_
      refine Go.callS (pc' := 241) (argsL := [(.int t_473), (.int (1 : Int32)), (.int t_467), (.int t_469), (.int t_471)]) (rest := []) (W := 0) (hw _ (List.mem_of_getElem? (i := 26) rfl)) (hw _ (List.mem_of_getElem? (i := 27) rfl)) (hw _ (List.mem_of_getElem? (i := 28) rfl)) (hw _ (List.mem_of_getElem? (i := 29) rfl)) (by decide) (m_n l Z a0 hw t_473 (1 : Int32) t_467 t_469 t_471 h_636 n0 z_649) at_238 rfl pd3 rfl rfl (Nat.le_of_eq rfl) (by decide) (by decide) (by decide) (by decide) rfl ?_
      rintro _ _ ⟨g0, rfl, rfl, hg0, hgg0⟩
      show (Go false l room_1 Z x code maxLocals ret n0 16 128 (fun v h => v = some (.int 1))) h_636 (0 + 1 + 1 + 1 + 1 + 0 + 0) (0 + 0 + 2 + 2 + 4 + 0 + 0) 241 #[.val (.int x0), .val (.int x1), .val (.int x2), .val (.int x3), .val (.long y0), .second, .val (.int x4), .val (.int n_179), .val (.int (2 : Int32)), .val (.int (1 : Int32)), .val (.int t_467), .val (.int t_469), .val (.int t_471), .val (.int t_473), .val (.int t_475), .val (.int t_477), .val (.ref a_481), .val (.ref a_594), .val (.ref a_620), .val (.int r), .unset, .unset, .unset, .unset] [(.int g0)]
      refine Go.istore (pc' := 243) (Ls' := #[.val (.int x0), .val (.int x1), .val (.int x2), .val (.int x3), .val (.long y0), .second, .val (.int x4), .val (.int n_179), .val (.int (2 : Int32)), .val (.int (1 : Int32)), .val (.int t_467), .val (.int t_469), .val (.int t_471), .val (.int t_473), .val (.int t_475), .val (.int t_477), .val (.ref a_481), .val (.ref a_594), .val (.ref a_620), .val (.int r), .val (.int g0), .unset, .unset, .unset]) at_241 rfl rfl ?_
      refine Go.iload (pc' := 245) at_243 rfl rfl ?_
      refine Go.iload (pc' := 247) at_245 rfl rfl ?_
      refine Go.iload (pc' := 249) at_247 rfl rfl ?_
      refine Go.iload (pc' := 251) at_249 rfl rfl ?_
      refine Go.iload (pc' := 253) at_251 rfl rfl ?_
      refine Go.callS (pc' := 256) (argsL := [(.int t_475), (.int (1 : Int32)), (.int t_467), (.int t_469), (.int t_471)]) (rest := []) (W := 0) (hw _ (List.mem_of_getElem? (i := 26) rfl)) (hw _ (List.mem_of_getElem? (i := 27) rfl)) (hw _ (List.mem_of_getElem? (i := 28) rfl)) (hw _ (List.mem_of_getElem? (i := 29) rfl)) (by decide) (m_n l Z a0 hw t_475 (1 : Int32) t_467 t_469 t_471 h_636 n0 z_649) at_253 rfl pd3 rfl rfl (Nat.le_of_eq rfl) (by decide) (by decide) (by decide) (by decide) rfl ?_
      rintro _ _ ⟨g1, rfl, rfl, hg1, hgg1⟩
      show (Go false l room_1 Z x code maxLocals ret n0 16 128 (fun v h => v = some (.int 1))) h_636 (0 + 1 + 1 + 1 + 1 + 0 + 0 + 0) (0 + 0 + 2 + 2 + 4 + 0 + 0 + 0) 256 #[.val (.int x0), .val (.int x1), .val (.int x2), .val (.int x3), .val (.long y0), .second, .val (.int x4), .val (.int n_179), .val (.int (2 : Int32)), .val (.int (1 : Int32)), .val (.int t_467), .val (.int t_469), .val (.int t_471), .val (.int t_473), .val (.int t_475), .val (.int t_477), .val (.ref a_481), .val (.ref a_594), .val (.ref a_620), .val (.int r), .val (.int g0), .unset, .unset, .unset] [(.int g1)]
      refine Go.istore (pc' := 258) (Ls' := #[.val (.int x0), .val (.int x1), .val (.int x2), .val (.int x3), .val (.long y0), .second, .val (.int x4), .val (.int n_179), .val (.int (2 : Int32)), .val (.int (1 : Int32)), .val (.int t_467), .val (.int t_469), .val (.int t_471), .val (.int t_473), .val (.int t_475), .val (.int t_477), .val (.ref a_481), .val (.ref a_594), .val (.ref a_620), .val (.int r), .val (.int g0), .val (.int g1), .unset, .unset]) at_256 rfl rfl ?_
      refine Go.iload (pc' := 260) at_258 rfl rfl ?_
      refine Go.iload (pc' := 262) at_260 rfl rfl ?_
      refine Go.iload (pc' := 264) at_262 rfl rfl ?_
      refine Go.iload (pc' := 266) at_264 rfl rfl ?_
      refine Go.iload (pc' := 268) at_266 rfl rfl ?_
      refine Go.callS (pc' := 271) (argsL := [(.int t_477), (.int (1 : Int32)), (.int t_467), (.int t_469), (.int t_471)]) (rest := []) (W := 0) (hw _ (List.mem_of_getElem? (i := 26) rfl)) (hw _ (List.mem_of_getElem? (i := 27) rfl)) (hw _ (List.mem_of_getElem? (i := 28) rfl)) (hw _ (List.mem_of_getElem? (i := 29) rfl)) (by decide) (m_n l Z a0 hw t_477 (1 : Int32) t_467 t_469 t_471 h_636 n0 z_649) at_268 rfl pd3 rfl rfl (Nat.le_of_eq rfl) (by decide) (by decide) (by decide) (by decide) rfl ?_
      rintro _ _ ⟨g2, rfl, rfl, hg2, hgg2⟩
      show (Go false l room_1 Z x code maxLocals ret n0 16 128 (fun v h => v = some (.int 1))) h_636 (0 + 1 + 1 + 1 + 1 + 0 + 0 + 0 + 0) (0 + 0 + 2 + 2 + 4 + 0 + 0 + 0 + 0) 271 #[.val (.int x0), .val (.int x1), .val (.int x2), .val (.int x3), .val (.long y0), .second, .val (.int x4), .val (.int n_179), .val (.int (2 : Int32)), .val (.int (1 : Int32)), .val (.int t_467), .val (.int t_469), .val (.int t_471), .val (.int t_473), .val (.int t_475), .val (.int t_477), .val (.ref a_481), .val (.ref a_594), .val (.ref a_620), .val (.int r), .val (.int g0), .val (.int g1), .unset, .unset] [(.int g2)]
      have p0 : (own_bt W t_473.toInt.toNat = true ↔ g0.toInt = 1) := ⟨fun z => absurd ((hbt _).mp z) (by decide), fun z => absurd (hgg0.mp z).1 (by decide)⟩
      have p1 : (own_bt W t_475.toInt.toNat = true ↔ g1.toInt = 1) := ⟨fun z => absurd ((hbt _).mp z) (by decide), fun z => absurd (hgg1.mp z).1 (by decide)⟩
      have p2 : (own_bt W t_477.toInt.toNat = true ↔ g2.toInt = 1) := ⟨fun z => absurd ((hbt _).mp z) (by decide), fun z => absurd (hgg2.mp z).1 (by decide)⟩
      rw [p0, p1] at hr2
      clear p0 p1 p2 hgg0 hgg1 hgg2 hbt
      have z0 : (0 : Int32).toInt = 0 := rfl
      have z1 : (1 : Int32).toInt = 1 := rfl
      refine Go.istore (pc' := 273) (Ls' := #[.val (.int x0), .val (.int x1), .val (.int x2), .val (.int x3), .val (.long y0), .second, .val (.int x4), .val (.int n_179), .val (.int (2 : Int32)), .val (.int (1 : Int32)), .val (.int t_467), .val (.int t_469), .val (.int t_471), .val (.int t_473), .val (.int t_475), .val (.int t_477), .val (.ref a_481), .val (.ref a_594), .val (.ref a_620), .val (.int r), .val (.int g0), .val (.int g1), .val (.int g2), .unset]) at_271 rfl rfl ?_
      refine Go.iload (pc' := 275) at_273 rfl rfl ?_
      refine Go.ifc (pc1 := 284) (pc2 := 278) at_275 (by decide) (by decide) rfl (fun (c_650 : (2 : Int) ≠ 0) => ?_) (fun (c_650 : (2 : Int) = 0) => ?_)
      rotate_left
      · exact absurd c_650 (by decide)
      refine Go.iload (pc' := 286) at_284 rfl rfl ?_
      refine Go.iconst (pc' := 287) (v := (1 : Int32)) at_286 rfl rfl ?_
      refine Go.icmp (pc1 := 297) (pc2 := 290) at_287 (by decide) (by decide) rfl (fun (c_651 : (2 : Int) ≠ (1 : Int)) => ?_) (fun (c_651 : (2 : Int) = (1 : Int)) => ?_)
      rotate_left
      · exact absurd c_651 (by decide)
      refine Go.iload (pc' := 299) at_297 rfl rfl ?_
      refine Go.iconst (pc' := 300) (v := (2 : Int32)) at_299 rfl rfl ?_
      refine Go.icmp (pc1 := 323) (pc2 := 303) at_300 (by decide) (by decide) rfl (fun (c_652 : (2 : Int) ≠ (2 : Int)) => ?_) (fun (c_652 : (2 : Int) = (2 : Int)) => ?_)
      · exact absurd c_652 (by decide)
      refine Go.iload (pc' := 305) at_303 rfl rfl ?_
      refine Go.ifc (pc1 := 317) (pc2 := 308) at_305 (by decide) (by decide) rfl (fun (c_653 : g0.toInt = 0) => ?_) (fun (c_653 : g0.toInt ≠ 0) => ?_)
      · refine Go.iconst (pc' := 318) (v := (0 : Int32)) at_317 rfl rfl ?_
        refine Go.istore (pc' := 320) (Ls' := #[.val (.int x0), .val (.int x1), .val (.int x2), .val (.int x3), .val (.long y0), .second, .val (.int x4), .val (.int n_179), .val (.int (2 : Int32)), .val (.int (1 : Int32)), .val (.int t_467), .val (.int t_469), .val (.int t_471), .val (.int t_473), .val (.int t_475), .val (.int t_477), .val (.ref a_481), .val (.ref a_594), .val (.ref a_620), .val (.int r), .val (.int g0), .val (.int g1), .val (.int g2), .val (.int (0 : Int32))]) at_318 rfl rfl ?_
        refine Go.goto (pc' := 345) at_320 (by decide) (by decide) ?_
        refine Go.iload (pc' := 347) at_345 rfl rfl ?_
        refine Go.iload (pc' := 349) at_347 rfl rfl ?_
        refine Go.icmp (pc1 := 356) (pc2 := 352) at_349 (by decide) (by decide) rfl (fun (c_654 : r.toInt ≠ (0 : Int)) => ?_) (fun (c_654 : r.toInt = (0 : Int)) => ?_)
        · exact absurd (by omega) c_654
        refine Go.iconst (pc' := 353) (v := (1 : Int32)) at_352 rfl rfl ?_
        refine Go.goto (pc' := 357) at_353 (by decide) (by decide) ?_
        exact Go.retN (t := .boolean) at_357 rfl (by simp) rfl rfl (by decide) (by decide)
      · refine Go.iload (pc' := 310) at_308 rfl rfl ?_
        refine Go.ifc (pc1 := 317) (pc2 := 313) at_310 (by decide) (by decide) rfl (fun (c_655 : g1.toInt = 0) => ?_) (fun (c_655 : g1.toInt ≠ 0) => ?_)
        · refine Go.iconst (pc' := 318) (v := (0 : Int32)) at_317 rfl rfl ?_
          refine Go.istore (pc' := 320) (Ls' := #[.val (.int x0), .val (.int x1), .val (.int x2), .val (.int x3), .val (.long y0), .second, .val (.int x4), .val (.int n_179), .val (.int (2 : Int32)), .val (.int (1 : Int32)), .val (.int t_467), .val (.int t_469), .val (.int t_471), .val (.int t_473), .val (.int t_475), .val (.int t_477), .val (.ref a_481), .val (.ref a_594), .val (.ref a_620), .val (.int r), .val (.int g0), .val (.int g1), .val (.int g2), .val (.int (0 : Int32))]) at_318 rfl rfl ?_
          refine Go.goto (pc' := 345) at_320 (by decide) (by decide) ?_
          refine Go.iload (pc' := 347) at_345 rfl rfl ?_
          refine Go.iload (pc' := 349) at_347 rfl rfl ?_
          refine Go.icmp (pc1 := 356) (pc2 := 352) at_349 (by decide) (by decide) rfl (fun (c_656 : r.toInt ≠ (0 : Int)) => ?_) (fun (c_656 : r.toInt = (0 : Int)) => ?_)
          · exact absurd (by omega) c_656
          refine Go.iconst (pc' := 353) (v := (1 : Int32)) at_352 rfl rfl ?_
          refine Go.goto (pc' := 357) at_353 (by decide) (by decide) ?_
          exact Go.retN (t := .boolean) at_357 rfl (by simp) rfl rfl (by decide) (by decide)
        · refine Go.iconst (pc' := 314) (v := (1 : Int32)) at_313 rfl rfl ?_
          refine Go.goto (pc' := 318) at_314 (by decide) (by decide) ?_
          refine Go.istore (pc' := 320) (Ls' := #[.val (.int x0), .val (.int x1), .val (.int x2), .val (.int x3), .val (.long y0), .second, .val (.int x4), .val (.int n_179), .val (.int (2 : Int32)), .val (.int (1 : Int32)), .val (.int t_467), .val (.int t_469), .val (.int t_471), .val (.int t_473), .val (.int t_475), .val (.int t_477), .val (.ref a_481), .val (.ref a_594), .val (.ref a_620), .val (.int r), .val (.int g0), .val (.int g1), .val (.int g2), .val (.int (1 : Int32))]) at_318 rfl rfl ?_
          refine Go.goto (pc' := 345) at_320 (by decide) (by decide) ?_
          refine Go.iload (pc' := 347) at_345 rfl rfl ?_
          refine Go.iload (pc' := 349) at_347 rfl rfl ?_
          refine Go.icmp (pc1 := 356) (pc2 := 352) at_349 (by decide) (by decide) rfl (fun (c_657 : r.toInt ≠ (1 : Int)) => ?_) (fun (c_657 : r.toInt = (1 : Int)) => ?_)
          · exact absurd (by omega) c_657
          refine Go.iconst (pc' := 353) (v := (1 : Int32)) at_352 rfl rfl ?_
          refine Go.goto (pc' := 357) at_353 (by decide) (by decide) ?_
          exact Go.retN (t := .boolean) at_357 rfl (by simp) rfl rfl (by decide) (by decide)
    · obtain rfl : k_181 = (3 : Int32) := Int32.toInt_inj.mp k_182
      refine Go.ifc (pc1 := 143) (pc2 := 135) at_132 (by decide) (by decide) rfl (fun (c_658 : (3 : Int) ≠ 0) => ?_) (fun (c_658 : (3 : Int) = 0) => ?_)
      rotate_left
      · exact absurd c_658 (by decide)
      refine Go.iload (pc' := 145) at_143 rfl rfl ?_
      refine Go.iconst (pc' := 146) (v := (1 : Int32)) at_145 rfl rfl ?_
      refine Go.icmp (pc1 := 162) (pc2 := 149) at_146 (by decide) (by decide) rfl (fun (c_659 : (3 : Int) ≠ (1 : Int)) => ?_) (fun (c_659 : (3 : Int) = (1 : Int)) => ?_)
      rotate_left
      · exact absurd c_659 (by decide)
      refine Go.iload (pc' := 164) at_162 rfl rfl ?_
      refine Go.iconst (pc' := 165) (v := (2 : Int32)) at_164 rfl rfl ?_
      refine Go.icmp (pc1 := 186) (pc2 := 168) at_165 (by decide) (by decide) rfl (fun (c_660 : (3 : Int) ≠ (2 : Int)) => ?_) (fun (c_660 : (3 : Int) = (2 : Int)) => ?_)
      rotate_left
      · exact absurd c_660 (by decide)
      refine Go.iconst (pc' := 187) (v := (3 : Int32)) at_186 rfl rfl ?_
      refine Go.newA (pc' := 189) (k := 3) (ty := .int) (cap := 3) (hw _ (List.mem_of_getElem? (i := 2) rfl)) rfl rfl (by decide) (by decide) at_187 (by decide) (by decide) rfl ?_
      intro h_661 a_662 q_663 E_664 A_665
      have n_667 : a_481 ≠ a_662 := Nat.ne_of_lt (q_663 ▸ t_488)
      have g_668 : n0 ≤ a_662 := q_663 ▸ z_487
      have f_669 : Ary Z h_661 a_481 .int [] := A_484.sm (Sm.ext E_664)
      have t_670 : a_481 < h_661.size := Nat.lt_of_lt_of_le t_488 E_664.1
      have z_671 : n0 ≤ h_661.size := Nat.le_trans z_487 E_664.1
      have t_672 : a_662 < h_661.size := A_665.lt
      change Ary Z h_661 a_662 .int [(.int (0 : Int32)), (.int (0 : Int32)), (.int (0 : Int32))] at A_665
      refine Go.dup (pc' := 190) at_189 rfl rfl ?_
      refine Go.iconst (pc' := 191) (v := (0 : Int32)) at_190 rfl rfl ?_
      refine Go.iload (pc' := 193) at_191 rfl rfl ?_
      refine Go.stI (pc' := 194) (k := 0) A_665 rfl (by show 0 < 3; decide) at_193 g_668 rfl ?_
      intro h_673 W_674 A_675
      have f_676 : Ary Z h_673 a_481 .int [] := f_669.sm (Sm.wr W_674 n_667)
      have t_677 : a_481 < h_673.size := Nat.lt_of_lt_of_le t_670 (Nat.le_of_eq W_674.size.symm)
      have t_678 : a_662 < h_673.size := Nat.lt_of_lt_of_le t_672 (Nat.le_of_eq W_674.size.symm)
      have z_679 : n0 ≤ h_673.size := Nat.le_trans z_671 (Nat.le_of_eq W_674.size.symm)
      change Ary Z h_673 a_662 .int [(.int t_473), (.int (0 : Int32)), (.int (0 : Int32))] at A_675
      refine Go.dup (pc' := 195) at_194 rfl rfl ?_
      refine Go.iconst (pc' := 196) (v := (1 : Int32)) at_195 rfl rfl ?_
      refine Go.iload (pc' := 198) at_196 rfl rfl ?_
      refine Go.stI (pc' := 199) (k := 1) A_675 rfl (by show 1 < 3; decide) at_198 g_668 rfl ?_
      intro h_680 W_681 A_682
      have f_683 : Ary Z h_680 a_481 .int [] := f_676.sm (Sm.wr W_681 n_667)
      have t_684 : a_481 < h_680.size := Nat.lt_of_lt_of_le t_677 (Nat.le_of_eq W_681.size.symm)
      have t_685 : a_662 < h_680.size := Nat.lt_of_lt_of_le t_678 (Nat.le_of_eq W_681.size.symm)
      have z_686 : n0 ≤ h_680.size := Nat.le_trans z_679 (Nat.le_of_eq W_681.size.symm)
      change Ary Z h_680 a_662 .int [(.int t_473), (.int t_475), (.int (0 : Int32))] at A_682
      refine Go.dup (pc' := 200) at_199 rfl rfl ?_
      refine Go.iconst (pc' := 201) (v := (2 : Int32)) at_200 rfl rfl ?_
      refine Go.iload (pc' := 203) at_201 rfl rfl ?_
      refine Go.stI (pc' := 204) (k := 2) A_682 rfl (by show 2 < 3; decide) at_203 g_668 rfl ?_
      intro h_687 W_688 A_689
      have f_690 : Ary Z h_687 a_481 .int [] := f_683.sm (Sm.wr W_688 n_667)
      have t_691 : a_481 < h_687.size := Nat.lt_of_lt_of_le t_684 (Nat.le_of_eq W_688.size.symm)
      have t_692 : a_662 < h_687.size := Nat.lt_of_lt_of_le t_685 (Nat.le_of_eq W_688.size.symm)
      have z_693 : n0 ≤ h_687.size := Nat.le_trans z_686 (Nat.le_of_eq W_688.size.symm)
      change Ary Z h_687 a_662 .int [(.int t_473), (.int t_475), (.int t_477)] at A_689
      refine Go.astore (pc' := 206) (Ls' := #[.val (.int x0), .val (.int x1), .val (.int x2), .val (.int x3), .val (.long y0), .second, .val (.int x4), .val (.int n_179), .val (.int (3 : Int32)), .val (.int (1 : Int32)), .val (.int t_467), .val (.int t_469), .val (.int t_471), .val (.int t_473), .val (.int t_475), .val (.int t_477), .val (.ref a_481), .val (.ref a_662), .unset, .unset, .unset, .unset, .unset, .unset]) at_204 rfl rfl rfl ?_
      refine Go.newO (pc' := 209) (hw _ (List.mem_of_getElem? (i := 3) rfl)) (hw _ (List.mem_of_getElem? (i := 4) rfl)) (hw _ (List.mem_of_getElem? (i := 5) rfl)) at_206 (by decide) (by decide) rfl ?_
      intro h_694 a_695 q_696 E_697 A_698 D_699
      have n_700 : a_481 ≠ a_695 := Nat.ne_of_lt (q_696 ▸ t_691)
      have n_701 : a_662 ≠ a_695 := Nat.ne_of_lt (q_696 ▸ t_692)
      have g_702 : n0 ≤ a_695 := q_696 ▸ z_693
      have f_703 : Ary Z h_694 a_481 .int [] := f_690.sm (Sm.ext E_697)
      have f_704 : Ary Z h_694 a_662 .int [(.int t_473), (.int t_475), (.int t_477)] := A_689.sm (Sm.ext E_697)
      have t_705 : a_481 < h_694.size := Nat.lt_of_lt_of_le t_691 E_697.1
      have t_706 : a_662 < h_694.size := Nat.lt_of_lt_of_le t_692 E_697.1
      have z_707 : n0 ≤ h_694.size := Nat.le_trans z_693 E_697.1
      have t_708 : a_695 < h_694.size := A_698.lt
      have f_709 : Fld Z h_694 a_695 "com/example/forward_planner/forwardplanner/model/State" "factCount" "I" (.int (0 : Int32)) := D_699 (Or.inr (hw _ (List.mem_of_getElem? (i := 13) rfl))) (ty := .int) (by decide)
      have f_710 : Fld Z h_694 a_695 "com/example/forward_planner/forwardplanner/model/State" "words" "[J" .null := D_699 (Or.inr (hw _ (List.mem_of_getElem? (i := 16) rfl))) (ty := (.array .long)) (by decide)
      refine Go.dup (pc' := 210) at_209 rfl rfl ?_
      refine Go.iload (pc' := 212) at_210 rfl rfl ?_
      refine Go.aload (pc' := 214) at_212 rfl rfl rfl ?_
      refine Go.callN (pc' := 217) (argsL := [(.int n_179), (.ref a_481)]) (rest := [(.ref a_695)]) (W := 1) rfl (hw _ (List.mem_of_getElem? (i := 6) rfl)) (hw _ (List.mem_of_getElem? (i := 7) rfl)) (hw _ (List.mem_of_getElem? (i := 5) rfl)) (hw _ (List.mem_of_getElem? (i := 8) rfl)) (by decide) (m_i0 l Z a0 hw a_695 a_481 n_179  h_694 n0 z_707 A_698 f_709 f_710 g_702 f_703 n_700.symm (by omega) ) at_214 rfl pd1 rfl rfl (Nat.le_of_eq rfl) (by decide) (by decide) (by decide) (by decide) rfl ?_
      rintro _ h_711 ⟨rfl, e, W, K_712, X_713, F_714, A_715, he, hlt, hlen, hbt⟩
      have f_716 : Ary Z h_711 a_481 .int [] := f_703.sm (Sm.keep K_712 (ninS n_700 nin0))
      have f_717 : Ary Z h_711 a_662 .int [(.int t_473), (.int t_475), (.int t_477)] := f_704.sm (Sm.keep K_712 (ninS n_701 nin0))
      have f_718 : Exa Z h_711 a_695 "com/example/forward_planner/forwardplanner/model/State" := A_698.keep K_712
      have t_721 : a_481 < h_711.size := Nat.lt_of_lt_of_le t_705 K_712.1
      have t_722 : a_662 < h_711.size := Nat.lt_of_lt_of_le t_706 K_712.1
      have t_723 : a_695 < h_711.size := Nat.lt_of_lt_of_le t_708 K_712.1
      have z_724 : n0 ≤ h_711.size := Nat.le_trans z_707 K_712.1
      show (Go false l room_1 Z x code maxLocals ret n0 16 128 (fun v h => v = some (.int 1))) h_711 (0 + 1 + 1 + 1 + 1) (0 + 0 + 3 + 2 + 4) 217 #[.val (.int x0), .val (.int x1), .val (.int x2), .val (.int x3), .val (.long y0), .second, .val (.int x4), .val (.int n_179), .val (.int (3 : Int32)), .val (.int (1 : Int32)), .val (.int t_467), .val (.int t_469), .val (.int t_471), .val (.int t_473), .val (.int t_475), .val (.int t_477), .val (.ref a_481), .val (.ref a_662), .unset, .unset, .unset, .unset, .unset, .unset] [(.ref a_695)]
      refine Go.astore (pc' := 219) (Ls' := #[.val (.int x0), .val (.int x1), .val (.int x2), .val (.int x3), .val (.long y0), .second, .val (.int x4), .val (.int n_179), .val (.int (3 : Int32)), .val (.int (1 : Int32)), .val (.int t_467), .val (.int t_469), .val (.int t_471), .val (.int t_473), .val (.int t_475), .val (.int t_477), .val (.ref a_481), .val (.ref a_662), .val (.ref a_695), .unset, .unset, .unset, .unset, .unset]) at_217 rfl rfl rfl ?_
      refine Go.aload (pc' := 221) at_219 rfl rfl rfl ?_
      refine Go.aload (pc' := 223) at_221 rfl rfl rfl ?_
      refine Go.callV (pc' := 226) (argsL := [(.ref a_662)]) (rest := []) (W := 0) (hw _ (List.mem_of_getElem? (i := 21) rfl)) (hw _ (List.mem_of_getElem? (i := 22) rfl)) (hw _ (List.mem_of_getElem? (i := 24) rfl)) (hw _ (List.mem_of_getElem? (i := 23) rfl)) (hw _ (List.mem_of_getElem? (i := 5) rfl)) (hw _ (List.mem_of_getElem? (i := 25) rfl)) (by decide) f_718 (m_h3 l Z a0 hw a_695 e a_662 W t_473 t_475 t_477 h_711 n0 z_724 f_718 F_714 A_715 f_717 (by omega) (by omega) (by omega)) at_223 rfl pd2 rfl rfl (Nat.le_of_eq rfl) (by decide) (by decide) (by decide) (by decide) rfl ?_
      rintro _ _ ⟨r, rfl, rfl, hr, hr2⟩
      show (Go false l room_1 Z x code maxLocals ret n0 16 128 (fun v h => v = some (.int 1))) h_711 (0 + 1 + 1 + 1 + 1 + 0) (0 + 0 + 3 + 2 + 4 + 0) 226 #[.val (.int x0), .val (.int x1), .val (.int x2), .val (.int x3), .val (.long y0), .second, .val (.int x4), .val (.int n_179), .val (.int (3 : Int32)), .val (.int (1 : Int32)), .val (.int t_467), .val (.int t_469), .val (.int t_471), .val (.int t_473), .val (.int t_475), .val (.int t_477), .val (.ref a_481), .val (.ref a_662), .val (.ref a_695), .unset, .unset, .unset, .unset, .unset] [(.int r)]
      refine Go.istore (pc' := 228) (Ls' := #[.val (.int x0), .val (.int x1), .val (.int x2), .val (.int x3), .val (.long y0), .second, .val (.int x4), .val (.int n_179), .val (.int (3 : Int32)), .val (.int (1 : Int32)), .val (.int t_467), .val (.int t_469), .val (.int t_471), .val (.int t_473), .val (.int t_475), .val (.int t_477), .val (.ref a_481), .val (.ref a_662), .val (.ref a_695), .val (.int r), .unset, .unset, .unset, .unset]) at_226 rfl rfl ?_
      refine Go.iload (pc' := 230) at_228 rfl rfl ?_
      refine Go.iload (pc' := 232) at_230 rfl rfl ?_
      refine Go.iload (pc' := 234) at_232 rfl rfl ?_
      refine Go.iload (pc' := 236) at_234 rfl rfl ?_
      refine Go.iload (pc' := 238) at_236 rfl rfl ?_
      refine Go.callS (pc' := 241) (argsL := [(.int t_473), (.int (1 : Int32)), (.int t_467), (.int t_469), (.int t_471)]) (rest := []) (W := 0) (hw _ (List.mem_of_getElem? (i := 26) rfl)) (hw _ (List.mem_of_getElem? (i := 27) rfl)) (hw _ (List.mem_of_getElem? (i := 28) rfl)) (hw _ (List.mem_of_getElem? (i := 29) rfl)) (by decide) (m_n l Z a0 hw t_473 (1 : Int32) t_467 t_469 t_471 h_711 n0 z_724) at_238 rfl pd3 rfl rfl (Nat.le_of_eq rfl) (by decide) (by decide) (by decide) (by decide) rfl ?_
      rintro _ _ ⟨g0, rfl, rfl, hg0, hgg0⟩
      show (Go false l room_1 Z x code maxLocals ret n0 16 128 (fun v h => v = some (.int 1))) h_711 (0 + 1 + 1 + 1 + 1 + 0 + 0) (0 + 0 + 3 + 2 + 4 + 0 + 0) 241 #[.val (.int x0), .val (.int x1), .val (.int x2), .val (.int x3), .val (.long y0), .second, .val (.int x4), .val (.int n_179), .val (.int (3 : Int32)), .val (.int (1 : Int32)), .val (.int t_467), .val (.int t_469), .val (.int t_471), .val (.int t_473), .val (.int t_475), .val (.int t_477), .val (.ref a_481), .val (.ref a_662), .val (.ref a_695), .val (.int r), .unset, .unset, .unset, .unset] [(.int g0)]
      refine Go.istore (pc' := 243) (Ls' := #[.val (.int x0), .val (.int x1), .val (.int x2), .val (.int x3), .val (.long y0), .second, .val (.int x4), .val (.int n_179), .val (.int (3 : Int32)), .val (.int (1 : Int32)), .val (.int t_467), .val (.int t_469), .val (.int t_471), .val (.int t_473), .val (.int t_475), .val (.int t_477), .val (.ref a_481), .val (.ref a_662), .val (.ref a_695), .val (.int r), .val (.int g0), .unset, .unset, .unset]) at_241 rfl rfl ?_
      refine Go.iload (pc' := 245) at_243 rfl rfl ?_
      refine Go.iload (pc' := 247) at_245 rfl rfl ?_
      refine Go.iload (pc' := 249) at_247 rfl rfl ?_
      refine Go.iload (pc' := 251) at_249 rfl rfl ?_
      refine Go.iload (pc' := 253) at_251 rfl rfl ?_
      refine Go.callS (pc' := 256) (argsL := [(.int t_475), (.int (1 : Int32)), (.int t_467), (.int t_469), (.int t_471)]) (rest := []) (W := 0) (hw _ (List.mem_of_getElem? (i := 26) rfl)) (hw _ (List.mem_of_getElem? (i := 27) rfl)) (hw _ (List.mem_of_getElem? (i := 28) rfl)) (hw _ (List.mem_of_getElem? (i := 29) rfl)) (by decide) (m_n l Z a0 hw t_475 (1 : Int32) t_467 t_469 t_471 h_711 n0 z_724) at_253 rfl pd3 rfl rfl (Nat.le_of_eq rfl) (by decide) (by decide) (by decide) (by decide) rfl ?_
      rintro _ _ ⟨g1, rfl, rfl, hg1, hgg1⟩
      show (Go false l room_1 Z x code maxLocals ret n0 16 128 (fun v h => v = some (.int 1))) h_711 (0 + 1 + 1 + 1 + 1 + 0 + 0 + 0) (0 + 0 + 3 + 2 + 4 + 0 + 0 + 0) 256 #[.val (.int x0), .val (.int x1), .val (.int x2), .val (.int x3), .val (.long y0), .second, .val (.int x4), .val (.int n_179), .val (.int (3 : Int32)), .val (.int (1 : Int32)), .val (.int t_467), .val (.int t_469), .val (.int t_471), .val (.int t_473), .val (.int t_475), .val (.int t_477), .val (.ref a_481), .val (.ref a_662), .val (.ref a_695), .val (.int r), .val (.int g0), .unset, .unset, .unset] [(.int g1)]
      refine Go.istore (pc' := 258) (Ls' := #[.val (.int x0), .val (.int x1), .val (.int x2), .val (.int x3), .val (.long y0), .second, .val (.int x4), .val (.int n_179), .val (.int (3 : Int32)), .val (.int (1 : Int32)), .val (.int t_467), .val (.int t_469), .val (.int t_471), .val (.int t_473), .val (.int t_475), .val (.int t_477), .val (.ref a_481), .val (.ref a_662), .val (.ref a_695), .val (.int r), .val (.int g0), .val (.int g1), .unset, .unset]) at_256 rfl rfl ?_
      refine Go.iload (pc' := 260) at_258 rfl rfl ?_
      refine Go.iload (pc' := 262) at_260 rfl rfl ?_
      refine Go.iload (pc' := 264) at_262 rfl rfl ?_
      refine Go.iload (pc' := 266) at_264 rfl rfl ?_
      refine Go.iload (pc' := 268) at_266 rfl rfl ?_
      refine Go.callS (pc' := 271) (argsL := [(.int t_477), (.int (1 : Int32)), (.int t_467), (.int t_469), (.int t_471)]) (rest := []) (W := 0) (hw _ (List.mem_of_getElem? (i := 26) rfl)) (hw _ (List.mem_of_getElem? (i := 27) rfl)) (hw _ (List.mem_of_getElem? (i := 28) rfl)) (hw _ (List.mem_of_getElem? (i := 29) rfl)) (by decide) (m_n l Z a0 hw t_477 (1 : Int32) t_467 t_469 t_471 h_711 n0 z_724) at_268 rfl pd3 rfl rfl (Nat.le_of_eq rfl) (by decide) (by decide) (by decide) (by decide) rfl ?_
      rintro _ _ ⟨g2, rfl, rfl, hg2, hgg2⟩
      show (Go false l room_1 Z x code maxLocals ret n0 16 128 (fun v h => v = some (.int 1))) h_711 (0 + 1 + 1 + 1 + 1 + 0 + 0 + 0 + 0) (0 + 0 + 3 + 2 + 4 + 0 + 0 + 0 + 0) 271 #[.val (.int x0), .val (.int x1), .val (.int x2), .val (.int x3), .val (.long y0), .second, .val (.int x4), .val (.int n_179), .val (.int (3 : Int32)), .val (.int (1 : Int32)), .val (.int t_467), .val (.int t_469), .val (.int t_471), .val (.int t_473), .val (.int t_475), .val (.int t_477), .val (.ref a_481), .val (.ref a_662), .val (.ref a_695), .val (.int r), .val (.int g0), .val (.int g1), .unset, .unset] [(.int g2)]
      have p0 : (own_bt W t_473.toInt.toNat = true ↔ g0.toInt = 1) := ⟨fun z => absurd ((hbt _).mp z) (by decide), fun z => absurd (hgg0.mp z).1 (by decide)⟩
      have p1 : (own_bt W t_475.toInt.toNat = true ↔ g1.toInt = 1) := ⟨fun z => absurd ((hbt _).mp z) (by decide), fun z => absurd (hgg1.mp z).1 (by decide)⟩
      have p2 : (own_bt W t_477.toInt.toNat = true ↔ g2.toInt = 1) := ⟨fun z => absurd ((hbt _).mp z) (by decide), fun z => absurd (hgg2.mp z).1 (by decide)⟩
      rw [p0, p1, p2] at hr2
      clear p0 p1 p2 hgg0 hgg1 hgg2 hbt
      have z0 : (0 : Int32).toInt = 0 := rfl
      have z1 : (1 : Int32).toInt = 1 := rfl
      refine Go.istore (pc' := 273) (Ls' := #[.val (.int x0), .val (.int x1), .val (.int x2), .val (.int x3), .val (.long y0), .second, .val (.int x4), .val (.int n_179), .val (.int (3 : Int32)), .val (.int (1 : Int32)), .val (.int t_467), .val (.int t_469), .val (.int t_471), .val (.int t_473), .val (.int t_475), .val (.int t_477), .val (.ref a_481), .val (.ref a_662), .val (.ref a_695), .val (.int r), .val (.int g0), .val (.int g1), .val (.int g2), .unset]) at_271 rfl rfl ?_
      refine Go.iload (pc' := 275) at_273 rfl rfl ?_
      refine Go.ifc (pc1 := 284) (pc2 := 278) at_275 (by decide) (by decide) rfl (fun (c_725 : (3 : Int) ≠ 0) => ?_) (fun (c_725 : (3 : Int) = 0) => ?_)
      rotate_left
      · exact absurd c_725 (by decide)
      refine Go.iload (pc' := 286) at_284 rfl rfl ?_
      refine Go.iconst (pc' := 287) (v := (1 : Int32)) at_286 rfl rfl ?_
      refine Go.icmp (pc1 := 297) (pc2 := 290) at_287 (by decide) (by decide) rfl (fun (c_726 : (3 : Int) ≠ (1 : Int)) => ?_) (fun (c_726 : (3 : Int) = (1 : Int)) => ?_)
      rotate_left
      · exact absurd c_726 (by decide)
      refine Go.iload (pc' := 299) at_297 rfl rfl ?_
      refine Go.iconst (pc' := 300) (v := (2 : Int32)) at_299 rfl rfl ?_
      refine Go.icmp (pc1 := 323) (pc2 := 303) at_300 (by decide) (by decide) rfl (fun (c_727 : (3 : Int) ≠ (2 : Int)) => ?_) (fun (c_727 : (3 : Int) = (2 : Int)) => ?_)
      rotate_left
      · exact absurd c_727 (by decide)
      refine Go.iload (pc' := 325) at_323 rfl rfl ?_
      refine Go.ifc (pc1 := 342) (pc2 := 328) at_325 (by decide) (by decide) rfl (fun (c_728 : g0.toInt = 0) => ?_) (fun (c_728 : g0.toInt ≠ 0) => ?_)
      · refine Go.iconst (pc' := 343) (v := (0 : Int32)) at_342 rfl rfl ?_
        refine Go.istore (pc' := 345) (Ls' := #[.val (.int x0), .val (.int x1), .val (.int x2), .val (.int x3), .val (.long y0), .second, .val (.int x4), .val (.int n_179), .val (.int (3 : Int32)), .val (.int (1 : Int32)), .val (.int t_467), .val (.int t_469), .val (.int t_471), .val (.int t_473), .val (.int t_475), .val (.int t_477), .val (.ref a_481), .val (.ref a_662), .val (.ref a_695), .val (.int r), .val (.int g0), .val (.int g1), .val (.int g2), .val (.int (0 : Int32))]) at_343 rfl rfl ?_
        refine Go.iload (pc' := 347) at_345 rfl rfl ?_
        refine Go.iload (pc' := 349) at_347 rfl rfl ?_
        refine Go.icmp (pc1 := 356) (pc2 := 352) at_349 (by decide) (by decide) rfl (fun (c_729 : r.toInt ≠ (0 : Int)) => ?_) (fun (c_729 : r.toInt = (0 : Int)) => ?_)
        · exact absurd (by omega) c_729
        refine Go.iconst (pc' := 353) (v := (1 : Int32)) at_352 rfl rfl ?_
        refine Go.goto (pc' := 357) at_353 (by decide) (by decide) ?_
        exact Go.retN (t := .boolean) at_357 rfl (by simp) rfl rfl (by decide) (by decide)
      · refine Go.iload (pc' := 330) at_328 rfl rfl ?_
        refine Go.ifc (pc1 := 342) (pc2 := 333) at_330 (by decide) (by decide) rfl (fun (c_730 : g1.toInt = 0) => ?_) (fun (c_730 : g1.toInt ≠ 0) => ?_)
        · refine Go.iconst (pc' := 343) (v := (0 : Int32)) at_342 rfl rfl ?_
          refine Go.istore (pc' := 345) (Ls' := #[.val (.int x0), .val (.int x1), .val (.int x2), .val (.int x3), .val (.long y0), .second, .val (.int x4), .val (.int n_179), .val (.int (3 : Int32)), .val (.int (1 : Int32)), .val (.int t_467), .val (.int t_469), .val (.int t_471), .val (.int t_473), .val (.int t_475), .val (.int t_477), .val (.ref a_481), .val (.ref a_662), .val (.ref a_695), .val (.int r), .val (.int g0), .val (.int g1), .val (.int g2), .val (.int (0 : Int32))]) at_343 rfl rfl ?_
          refine Go.iload (pc' := 347) at_345 rfl rfl ?_
          refine Go.iload (pc' := 349) at_347 rfl rfl ?_
          refine Go.icmp (pc1 := 356) (pc2 := 352) at_349 (by decide) (by decide) rfl (fun (c_731 : r.toInt ≠ (0 : Int)) => ?_) (fun (c_731 : r.toInt = (0 : Int)) => ?_)
          · exact absurd (by omega) c_731
          refine Go.iconst (pc' := 353) (v := (1 : Int32)) at_352 rfl rfl ?_
          refine Go.goto (pc' := 357) at_353 (by decide) (by decide) ?_
          exact Go.retN (t := .boolean) at_357 rfl (by simp) rfl rfl (by decide) (by decide)
        · refine Go.iload (pc' := 335) at_333 rfl rfl ?_
          refine Go.ifc (pc1 := 342) (pc2 := 338) at_335 (by decide) (by decide) rfl (fun (c_732 : g2.toInt = 0) => ?_) (fun (c_732 : g2.toInt ≠ 0) => ?_)
          · refine Go.iconst (pc' := 343) (v := (0 : Int32)) at_342 rfl rfl ?_
            refine Go.istore (pc' := 345) (Ls' := #[.val (.int x0), .val (.int x1), .val (.int x2), .val (.int x3), .val (.long y0), .second, .val (.int x4), .val (.int n_179), .val (.int (3 : Int32)), .val (.int (1 : Int32)), .val (.int t_467), .val (.int t_469), .val (.int t_471), .val (.int t_473), .val (.int t_475), .val (.int t_477), .val (.ref a_481), .val (.ref a_662), .val (.ref a_695), .val (.int r), .val (.int g0), .val (.int g1), .val (.int g2), .val (.int (0 : Int32))]) at_343 rfl rfl ?_
            refine Go.iload (pc' := 347) at_345 rfl rfl ?_
            refine Go.iload (pc' := 349) at_347 rfl rfl ?_
            refine Go.icmp (pc1 := 356) (pc2 := 352) at_349 (by decide) (by decide) rfl (fun (c_733 : r.toInt ≠ (0 : Int)) => ?_) (fun (c_733 : r.toInt = (0 : Int)) => ?_)
            · exact absurd (by omega) c_733
            refine Go.iconst (pc' := 353) (v := (1 : Int32)) at_352 rfl rfl ?_
            refine Go.goto (pc' := 357) at_353 (by decide) (by decide) ?_
            exact Go.retN (t := .boolean) at_357 rfl (by simp) rfl rfl (by decide) (by decide)
          · refine Go.iconst (pc' := 339) (v := (1 : Int32)) at_338 rfl rfl ?_
            refine Go.goto (pc' := 343) at_339 (by decide) (by decide) ?_
            refine Go.istore (pc' := 345) (Ls' := #[.val (.int x0), .val (.int x1), .val (.int x2), .val (.int x3), .val (.long y0), .second, .val (.int x4), .val (.int n_179), .val (.int (3 : Int32)), .val (.int (1 : Int32)), .val (.int t_467), .val (.int t_469), .val (.int t_471), .val (.int t_473), .val (.int t_475), .val (.int t_477), .val (.ref a_481), .val (.ref a_662), .val (.ref a_695), .val (.int r), .val (.int g0), .val (.int g1), .val (.int g2), .val (.int (1 : Int32))]) at_343 rfl rfl ?_
            refine Go.iload (pc' := 347) at_345 rfl rfl ?_
            refine Go.iload (pc' := 349) at_347 rfl rfl ?_
            refine Go.icmp (pc1 := 356) (pc2 := 352) at_349 (by decide) (by decide) rfl (fun (c_734 : r.toInt ≠ (1 : Int)) => ?_) (fun (c_734 : r.toInt = (1 : Int)) => ?_)
            · exact absurd (by omega) c_734
            refine Go.iconst (pc' := 353) (v := (1 : Int32)) at_352 rfl rfl ?_
            refine Go.goto (pc' := 357) at_353 (by decide) (by decide) ?_
            exact Go.retN (t := .boolean) at_357 rfl (by simp) rfl rfl (by decide) (by decide)
set_option maxRecDepth 65536 in
set_option maxHeartbeats 40000000 in
theorem comes_1 {Post : Tables → Env → Array Value → State → Outcome → State → Prop} (hpost : ∀ tb e args s v u, (limb_1_1.after args s (.returned v) u = true ∧ limb_1_2.after args s (.returned v) u = true ∧ True) → FrameEnd s (.returned v) u (Jvm.fieldLocs frame_1_writes args s ++ Jvm.arrayLocs frame_1_arrays args s ++ Jvm.staticLocs frame_1_statics s) 16 128 → Post tb e args s (.returned v) u) :
    ArmFor flags0 classFile x code maxLocals ret World_1 tables_1 room_1 Calls_1 rest_1 Pre_1 Post := by
  intro l hfl _ _ p e ha hc hk s m args below hf hA hF happ hP
  obtain ⟨hcalls, hrest, hpre⟩ := hP
  obtain ⟨-, -, -, hnamed, -, -, -, hat⟩ := (Spec.applies_iff hf).mp happ
  obtain ⟨hg, hn⟩ := and_e (Cond.before_iff.mp (show (Jvm.Cond.and given_1 narrow_1).before args s = true from hpre))
  obtain ⟨h1, hg1⟩ := and_e hg
  obtain ⟨w0, w1, w2, w3, w4, w5, rfl⟩ : ∃ w0 w1 w2 w3 w4 w5 : Value, args = #[w0, w1, w2, w3, w4, w5] := by
    have hs : args.size = 6 := by simpa [Cond.value, given_1] using h1
    obtain ⟨L⟩ := args
    match L, hs with
    | [w0, w1, w2, w3, w4, w5], _ => exact ⟨w0, w1, w2, w3, w4, w5, rfl⟩
  have hw := fun d (hd : d ∈ tables_1) => atoms_spec (ws := Jvm.Cond.code x code maxLocals ret :: tables_1) hat d (List.mem_cons_of_mem _ hd)
  have hfit : Fit s := fun {y c} hc i hi => by
    obtain ⟨ha, rfl⟩ := Array.getElem?_eq_some_iff.mp hc
    have q := List.all_eq_true.mp ((Array.all_eq_true_iff_forall_mem.mp hF) _ (Array.getElem_mem ha)) i (List.mem_range.mpr hi)
    simpa [Array.getElem?_eq_getElem hi] using q
  obtain ⟨b0, hg2⟩ := and_e hg1
  obtain ⟨i0, e0⟩ := is_v b0
  obtain rfl : w0 = (.int i0) := Option.some.inj e0
  obtain ⟨b1, hg3⟩ := and_e hg2
  obtain ⟨i1, e1⟩ := is_v b1
  obtain rfl : w1 = (.int i1) := Option.some.inj e1
  obtain ⟨b2, hg4⟩ := and_e hg3
  obtain ⟨i2, e2⟩ := is_v b2
  obtain rfl : w2 = (.int i2) := Option.some.inj e2
  obtain ⟨b3, hg5⟩ := and_e hg4
  obtain ⟨i3, e3⟩ := is_v b3
  obtain rfl : w3 = (.int i3) := Option.some.inj e3
  obtain ⟨b4, hg6⟩ := and_e hg5
  obtain ⟨i4, e4⟩ := isL_v b4
  obtain rfl : w4 = (.long i4) := Option.some.inj e4
  obtain ⟨i5, e5⟩ := is_v hg6
  obtain rfl : w5 = (.int i5) := Option.some.inj e5
  obtain ⟨n, o, h1, h2, h3, _, L, rfl, ⟨⟨rfl, -⟩, N⟩, hq⟩ := rm1 l s _ hw tables_1 i0 i1 i2 i3 i4 i5 s.heap s.heap.size (Nat.le_refl _)  p e ha hc hk s m _ below hf ((Spec.applies_iff_loose hf).mp happ).1 ⟨rfl, State.Warmed39.refl s, rfl⟩ trivial
  refine ⟨n, _, h1, h2, h3, hpost _ _ _ _ _ _ ⟨Cond.after_iff.mpr rfl, Cond.after_iff.mpr (eq_i res_at (Term.int_eval (1)) rfl), trivial⟩ ⟨hq.1, hq.2.1, (hq.2.2.sift fun y hy => Or.inr (N y hy)).mono (by decide) (by decide)⟩⟩
theorem main_1_1 : Claimed_1_1 := comes_1 fun _ _ _ _ _ _ h hF => ⟨h.1, hF⟩
theorem main_1_2 : Claimed_1_2 := comes_1 fun _ _ _ _ _ _ h hF => ⟨h.2.1, hF⟩
end Jvm.Pilot.@@N@@
namespace Jvm.Pilot.@@N@@
open Jvm Jvm.ClassFile Sem Op Lib Jvm.Free Jvm.Stand Jvm.Pilot.@@N@@.Jvm.D
/-! MADE BY PROGRAM (witnessworld.py) out of the Statement's table words and the real class files: 11 classes; the members and pool entries that the words name. The judged class is class 1, her method 2. -/
namespace start1
open Jvm.ClassFile
def u (s : String) : CpInfo := .utf8 (stringToUtf16 s)
/-- a pool by its gaps: so many unusable entries, then the entry; so many at the end -/
def gap : Nat → List CpInfo → List CpInfo
  | 0, r => r
  | n + 1, r => .unusable :: gap n r
def poolList (es : List (Nat × CpInfo)) (last : Nat) : List CpInfo := es.foldr (fun e r => gap e.1 (e.2 :: r)) (gap last [])
def pool (es : List (Nat × CpInfo)) (last : Nat) : Array CpInfo := ⟨poolList es last⟩
def fileOf (pool : Array CpInfo) (this : Nat) (attrs : Array Attribute := #[]) (ms : Array MethodInfo := #[]) (fl : Nat := 33) (sup : Nat := 0) (ifs : Array Nat := #[]) (fds : Array FieldInfo := #[]) : ClassFile where
  minorVersion := 0
  majorVersion := 65
  constantPool := pool
  accessFlags := fl
  thisClass := this
  superClass := sup
  interfaces := ifs
  fields := fds
  methods := ms
  attributes := attrs
def plain (name : String) (sup : Option ClassId) : Class where
  name := name
  kind := .ordinary
  loader := none
  accessFlags := 33
  super := sup
  interfaces := #[]
  cf := none
  fields := #[]
  methods := #[]
  instanceTypes := #[]
  staticTypes := #[]
  resolved := #[]
  callSites := []
  init := .initialized
  statics := none
  mirror := none

def pool0 : Array CpInfo := pool [(5, u "<init>"), (0, u "()V"), (1, .class_ 10), (1, u "java/lang/Object")] 113

def k0c0 : Code := { maxStack := 0, maxLocals := 1, code := object_method_1_code, exceptionTable := #[], attributes := #[] }
def k0m0 : Method := { name := "<init>", desc := "()V", sig := { parameters := [], returnType := none }, accessFlags := 1, code := some k0c0 }
/-- java/lang/Object -/
def k0 : Class := { plain "java/lang/Object" none with
  accessFlags := 33
  interfaces := #[]
  cf := some (fileOf pool0 8 #[] #[{ accessFlags := 1, nameIndex := 5, descriptorIndex := 6, attributes := #[] }] 33 0 #[] #[])
  fields := #[]
  methods := #[k0m0]
  instanceTypes := #[]
  staticTypes := #[]
  resolved := Array.replicate 124 none
  statics := none }

def pool1 : Array CpInfo := pool [(2, .class_ 4), (1, u "java/lang/Object"), (0, u "<init>"), (0, u "()V"), (0, .integer 2147483647), (0, .long 2147483647), (1, .class_ 11), (0, u "com/example/forward_planner/forwardplanner/model/State"), (0, .methodref 10 13), (0, .nameAndType 5 14), (0, u "(I[I)V"), (0, .methodref 10 16), (0, .nameAndType 17 18), (0, u "holdsAll"), (0, u "([I)Z"), (0, .methodref 20 21), (0, .class_ 22), (0, .nameAndType 23 24), (0, u "com/example/forward_planner/forwardplanner/model/StateHoldsAllPinLaw"), (0, u "in"), (0, u "(IZIII)Z"), (3, u "law"), (0, u "(IIIIJI)Z")] 4

def k1m0 : Method := { name := "<init>", desc := "()V", sig := { parameters := [], returnType := none }, accessFlags := 1, code := none }
def k1c1 : Code := { maxStack := 2, maxLocals := 5, code := method_2_code, exceptionTable := #[], attributes := #[] }
def k1m1 : Method := { name := "in", desc := "(IZIII)Z", sig := { parameters := [.int, .boolean, .int, .int, .int], returnType := some .boolean }, accessFlags := 10, code := some k1c1 }
def k1c2 : Code := { maxStack := 5, maxLocals := 24, code := code, exceptionTable := #[], attributes := #[] }
def k1m2 : Method := { name := "law", desc := "(IIIIJI)Z", sig := { parameters := [.int, .int, .int, .int, .long, .int], returnType := some .boolean }, accessFlags := 9, code := some k1c2 }
/-- com/example/forward_planner/forwardplanner/model/StateHoldsAllPinLaw -/
def k1 : Class := { plain "com/example/forward_planner/forwardplanner/model/StateHoldsAllPinLaw" (some 0) with
  accessFlags := 49
  interfaces := #[]
  cf := some (fileOf pool1 20 #[] #[{ accessFlags := 1, nameIndex := 5, descriptorIndex := 6, attributes := #[] }, { accessFlags := 10, nameIndex := 23, descriptorIndex := 24, attributes := #[] }, { accessFlags := 9, nameIndex := 28, descriptorIndex := 29, attributes := #[] }] 49 2 #[] #[])
  fields := #[]
  methods := #[k1m0, k1m1, k1m2]
  instanceTypes := #[]
  staticTypes := #[]
  resolved := Array.replicate 34 none
  statics := none }

def pool2 : Array CpInfo := pool [(1, .methodref 2 3), (0, .class_ 4), (0, .nameAndType 5 6), (0, u "java/lang/Object"), (0, u "<init>"), (0, u "()V"), (7, .fieldref 15 16), (0, .class_ 17), (0, .nameAndType 18 19), (0, u "com/example/forward_planner/forwardplanner/model/State"), (0, u "factCount"), (0, u "I"), (0, .fieldref 15 21), (0, .nameAndType 22 23), (0, u "words"), (0, u "[J"), (0, .methodref 15 25), (0, .nameAndType 26 27), (0, u "checkFact"), (0, u "(I)V"), (8, u "holdsAll"), (0, u "([I)Z"), (28, u "(I[I)V")] 14

def k2c0 : Code := { maxStack := 7, maxLocals := 7, code := prog_35_method_1_code, exceptionTable := #[], attributes := #[] }
def k2m0 : Method := { name := "<init>", desc := "(I[I)V", sig := { parameters := [.int, (.array .int)], returnType := none }, accessFlags := 1, code := some k2c0 }
def k2c1 : Code := { maxStack := 5, maxLocals := 6, code := prog_35_method_6_code, exceptionTable := #[], attributes := #[] }
def k2m1 : Method := { name := "holdsAll", desc := "([I)Z", sig := { parameters := [(.array .int)], returnType := some .boolean }, accessFlags := 0, code := some k2c1 }
def k2c2 : Code := { maxStack := 3, maxLocals := 2, code := prog_35_method_7_code, exceptionTable := #[], attributes := #[] }
def k2m2 : Method := { name := "checkFact", desc := "(I)V", sig := { parameters := [.int], returnType := none }, accessFlags := 2, code := some k2c2 }
/-- com/example/forward_planner/forwardplanner/model/State -/
def k2 : Class := { plain "com/example/forward_planner/forwardplanner/model/State" (some 0) with
  accessFlags := 49
  interfaces := #[]
  cf := some (fileOf pool2 15 #[] #[{ accessFlags := 1, nameIndex := 5, descriptorIndex := 66, attributes := #[] }, { accessFlags := 0, nameIndex := 36, descriptorIndex := 37, attributes := #[] }, { accessFlags := 2, nameIndex := 26, descriptorIndex := 27, attributes := #[] }] 49 2 #[] #[{ accessFlags := 18, nameIndex := 18, descriptorIndex := 19, attributes := #[] }, { accessFlags := 18, nameIndex := 22, descriptorIndex := 23, attributes := #[] }])
  fields := #[{ name := "factCount", type := .int, accessFlags := 18, slot := 0, constantValue := 0 }, { name := "words", type := (.array .long), accessFlags := 18, slot := 1, constantValue := 0 }]
  methods := #[k2m0, k2m1, k2m2]
  instanceTypes := #[.int, (.array .long)]
  staticTypes := #[]
  resolved := Array.replicate 81 none
  statics := none }

def pool3 : Array CpInfo := pool [(1, u "java/lang/Cloneable"), (0, .class_ 1), (0, u "java/lang/Object"), (0, .class_ 3)] 3

/-- java/lang/Cloneable -/
def k3 : Class := { plain "java/lang/Cloneable" (some 0) with
  accessFlags := 1537
  interfaces := #[]
  cf := some (fileOf pool3 2 #[] #[] 1537 4 #[] #[])
  fields := #[]
  methods := #[]
  instanceTypes := #[]
  staticTypes := #[]
  resolved := Array.replicate 8 none
  statics := none }

def pool4 : Array CpInfo := pool [(1, u "java/io/Serializable"), (0, .class_ 1), (0, u "java/lang/Object"), (0, .class_ 3)] 3

/-- java/io/Serializable -/
def k4 : Class := { plain "java/io/Serializable" (some 0) with
  accessFlags := 1537
  interfaces := #[]
  cf := some (fileOf pool4 2 #[] #[] 1537 4 #[] #[])
  fields := #[]
  methods := #[]
  instanceTypes := #[]
  staticTypes := #[]
  resolved := Array.replicate 8 none
  statics := none }

/-- the primitive byte -/
def k5 : Class := { plain "byte" none with kind := .primitive 'B', accessFlags := 0x411 }
/-- [B -/
def k6 : Class := { plain "[B" (some 0) with kind := .array 5 .byte, interfaces := #[3, 4], accessFlags := 1041 }

/-- the primitive int -/
def k7 : Class := { plain "int" none with kind := .primitive 'I', accessFlags := 0x411 }
/-- [I -/
def k8 : Class := { plain "[I" (some 0) with kind := .array 7 .int, interfaces := #[3, 4], accessFlags := 1041 }

/-- the primitive long -/
def k9 : Class := { plain "long" none with kind := .primitive 'J', accessFlags := 0x411 }
/-- [J -/
def k10 : Class := { plain "[J" (some 0) with kind := .array 9 .long, interfaces := #[3, 4], accessFlags := 1041 }

def heap : Heap := #[]
def classes : Array Class := #[k0, k1, k2, k3, k4, k5, k6, k7, k8, k9, k10]
def interned : List (Array UInt16 × Addr) := []
def slotsUsed : Nat := 0
def theMethod : MethodId := ⟨1, 2⟩
def args0 : Array Value := #[.int 5, .int 6, .int 7, .int 8, .long 9, .int 10]
def aboutOver (below : List Frame) : State where
  vm := { classes := classes, interned := interned.toArray }
  heap := heap
  slotsUsed := slotsUsed
  threads := #[{ frames := .invoking theMethod args0 :: below }]
def below0 : List Frame := [.native { method := ⟨0, 0⟩, args := #[] }]
def about1 : State := aboutOver below0
def p0 : Program := .bare "" "" ""
def e0 : Env := launch0.env 0 0 0
theorem w_frames : about1.frames = Frame.invoking theMethod args0 :: below0 := rfl
set_option maxRecDepth 65536 in
theorem w_args : argsFit about1.vm theMethod args0 = true := by decide +kernel
set_option maxRecDepth 65536 in
theorem w_heap : heapFits about1 = true := by decide +kernel
set_option maxRecDepth 65536 in
theorem w_runnable : about1.curStatus? = some .runnable := by decide +kernel
set_option maxRecDepth 65536 in
theorem w_alone : about1.alone = true := by decide +kernel
set_option maxRecDepth 65536 in
theorem w_named : about1.methodNamed? x = some theMethod := by decide +kernel
set_option maxRecDepth 65536 in
theorem w_hears : about1.hears theMethod below0 = true := by decide +kernel
set_option maxRecDepth 65536 in
theorem w_ripe : about1.ripe theMethod args0 below0 = true := by decide +kernel
theorem w_running : about1.status = .running := rfl
set_option maxRecDepth 65536 in
theorem w_room : about1.hasRoom e0.platform room_1 = true :=
  launch0.hasRoom_least _ room_1 (by decide +kernel) (by decide +kernel) (by decide +kernel) (by decide +kernel) (by decide +kernel) (by decide +kernel)
theorem allAtoms_all (ts : List Jvm.Cond) (a : Array Jvm.Value) (st : Jvm.State) : (allAtoms ts).before a st = ts.all (fun c => c.before a st) := by
  induction ts with
  | nil => rfl
  | cons c t ih =>
    show (Jvm.Cond.and c (allAtoms t)).before a st = _
    rw [Jvm.Cond.before_and, ih, List.all_cons]
def words1 : List Jvm.Cond := Jvm.Cond.code x code maxLocals ret :: tables_1
/-- a 'code' word, met by the world's own term for the bytes: nothing is compared byte by byte -/
theorem code_word {y : MethodName} {bytes : ByteArray} {mx : Nat} {rt : Option FieldType} {a : Array Value} {s : State} {m : MethodId} {meth : Method} {c : Code} (h1 : s.methodNamed? y = some m) (h2 : s.vm.method? m = some meth) (h3 : meth.code = some c) (h4 : c.code = bytes)
    (h5 : (c.maxLocals == mx && c.exceptionTable.isEmpty && decide (c.maxStack ≤ mostOperands) && decide (meth.sig.returnType = rt) && !meth.locks && decide (parseMethodDescriptor y.desc = some meth.sig)) = true) : (Jvm.Cond.code y bytes mx rt).before a s = true := by
  simp only [Bool.and_eq_true, beq_iff_eq, Bool.not_eq_true', decide_eq_true_eq] at h5
  obtain ⟨⟨⟨⟨⟨g1, g2⟩, g3⟩, g4⟩, g5⟩, g6⟩ := h5
  simp [Cond.before, Cond.holds, Cond.value, h1, h2, h3, h4, g1, g2, g3, g4, g5, g6]
def isCode : Jvm.Cond → Bool
  | .code _ _ _ _ => true
  | _ => false
theorem all_split {L : List Jvm.Cond} {P : Jvm.Cond → Bool} (h1 : L.all (fun c => isCode c || P c) = true) (h2 : ∀ c ∈ L.filter isCode, P c = true) : L.all P = true := by
  refine List.all_eq_true.mpr fun c hc => ?_
  have h := List.all_eq_true.mp h1 c hc
  rcases Bool.eq_false_or_eq_true (isCode c) with hi | hi
  · exact h2 c (List.mem_filter.mpr ⟨hc, hi⟩)
  · simpa [hi] using h
set_option maxRecDepth 65536 in
theorem w_c0 : (Jvm.Cond.code x code maxLocals ret).before args0 about1 = true := code_word (m := ⟨1, 2⟩) (meth := k1m2) (c := k1c2) (by decide +kernel) rfl rfl rfl (by decide +kernel)
set_option maxRecDepth 65536 in
theorem w_c1 : (Jvm.Cond.code ({ cls := "com/example/forward_planner/forwardplanner/model/State", name := "<init>", desc := "(I[I)V" } : Jvm.MethodName) prog_35_method_1_code (7 : Nat) (Option.none : Option Jvm.ClassFile.FieldType)).before args0 about1 = true := code_word (m := ⟨2, 0⟩) (meth := k2m0) (c := k2c0) (by decide +kernel) rfl rfl rfl (by decide +kernel)
set_option maxRecDepth 65536 in
theorem w_c2 : (Jvm.Cond.code ({ cls := "java/lang/Object", name := "<init>", desc := "()V" } : Jvm.MethodName) object_method_1_code (1 : Nat) (Option.none : Option Jvm.ClassFile.FieldType)).before args0 about1 = true := code_word (m := ⟨0, 0⟩) (meth := k0m0) (c := k0c0) (by decide +kernel) rfl rfl rfl (by decide +kernel)
set_option maxRecDepth 65536 in
theorem w_c3 : (Jvm.Cond.code ({ cls := "com/example/forward_planner/forwardplanner/model/State", name := "checkFact", desc := "(I)V" } : Jvm.MethodName) prog_35_method_7_code (2 : Nat) (Option.none : Option Jvm.ClassFile.FieldType)).before args0 about1 = true := code_word (m := ⟨2, 2⟩) (meth := k2m2) (c := k2c2) (by decide +kernel) rfl rfl rfl (by decide +kernel)
set_option maxRecDepth 65536 in
theorem w_c4 : (Jvm.Cond.code ({ cls := "com/example/forward_planner/forwardplanner/model/State", name := "holdsAll", desc := "([I)Z" } : Jvm.MethodName) prog_35_method_6_code (6 : Nat) (Option.some Jvm.ClassFile.FieldType.boolean)).before args0 about1 = true := code_word (m := ⟨2, 1⟩) (meth := k2m1) (c := k2c1) (by decide +kernel) rfl rfl rfl (by decide +kernel)
set_option maxRecDepth 65536 in
theorem w_c5 : (Jvm.Cond.code ({ cls := "com/example/forward_planner/forwardplanner/model/StateHoldsAllPinLaw", name := "in", desc := "(IZIII)Z" } : Jvm.MethodName) method_2_code (5 : Nat) (Option.some Jvm.ClassFile.FieldType.boolean)).before args0 about1 = true := code_word (m := ⟨1, 1⟩) (meth := k1m1) (c := k1c1) (by decide +kernel) rfl rfl rfl (by decide +kernel)
def codes1 : List Jvm.Cond := [Jvm.Cond.code x code maxLocals ret, Jvm.Cond.code ({ cls := "com/example/forward_planner/forwardplanner/model/State", name := "<init>", desc := "(I[I)V" } : Jvm.MethodName) prog_35_method_1_code (7 : Nat) (Option.none : Option Jvm.ClassFile.FieldType), Jvm.Cond.code ({ cls := "java/lang/Object", name := "<init>", desc := "()V" } : Jvm.MethodName) object_method_1_code (1 : Nat) (Option.none : Option Jvm.ClassFile.FieldType), Jvm.Cond.code ({ cls := "com/example/forward_planner/forwardplanner/model/State", name := "checkFact", desc := "(I)V" } : Jvm.MethodName) prog_35_method_7_code (2 : Nat) (Option.none : Option Jvm.ClassFile.FieldType), Jvm.Cond.code ({ cls := "com/example/forward_planner/forwardplanner/model/State", name := "holdsAll", desc := "([I)Z" } : Jvm.MethodName) prog_35_method_6_code (6 : Nat) (Option.some Jvm.ClassFile.FieldType.boolean), Jvm.Cond.code ({ cls := "com/example/forward_planner/forwardplanner/model/StateHoldsAllPinLaw", name := "in", desc := "(IZIII)Z" } : Jvm.MethodName) method_2_code (5 : Nat) (Option.some Jvm.ClassFile.FieldType.boolean)]
set_option maxRecDepth 65536 in
theorem codes_eq : words1.filter isCode = codes1 := rfl
theorem w_codes : ∀ c ∈ words1.filter isCode, c.before args0 about1 = true := by
  rw [codes_eq]
  intro c hc
  simp only [codes1, List.mem_cons, List.not_mem_nil, or_false] at hc
  rcases hc with rfl | rfl | rfl | rfl | rfl | rfl
  · exact w_c0
  · exact w_c1
  · exact w_c2
  · exact w_c3
  · exact w_c4
  · exact w_c5
set_option maxRecDepth 65536 in
theorem w_t1 : (words1.take 24).all (fun c => isCode c || c.before args0 about1) = true := by decide +kernel
set_option maxRecDepth 65536 in
theorem w_t2 : (words1.drop 24).all (fun c => isCode c || c.before args0 about1) = true := by decide +kernel
theorem w_tables : (allAtoms (Jvm.Cond.code x code maxLocals ret :: tables_1)).before args0 about1 = true := by
  rw [allAtoms_all]
  show words1.all (fun c => c.before args0 about1) = true
  refine all_split ?_ w_codes
  rw [← List.take_append_drop 24 words1, List.all_append, w_t1, w_t2]
  rfl
set_option maxRecDepth 65536 in
theorem w_case : (Jvm.Cond.and given_1 narrow_1).before args0 about1 = true := by decide +kernel
theorem w_applies : (headSpec (Jvm.Cond.code x code maxLocals ret :: tables_1) room_1).applies x e0.platform about1 = true :=
  (Spec.applies_iff w_frames).mpr ⟨w_running, w_runnable, w_alone, w_named, w_hears, w_ripe, w_room, w_tables⟩
theorem atStart : AtStart classFile x code maxLocals ret World_1 tables_1 room_1 Calls_1 rest_1 Pre_1 launch0 p0 e0 about1 theMethod args0 below0 :=
  ⟨lists_1, trivial, launch0.admits_env _ _ _, launch0.least_env, fairChoices_fair.cas, fairChoices_fair.clock, w_frames, w_args, w_heap, w_applies, trivial, trivial, w_case⟩
end start1
theorem witness_1 : WitnessClaimed_1 := ⟨start1.p0, start1.e0, start1.about1, start1.theMethod, start1.args0, start1.below0, start1.atStart⟩
end Jvm.Pilot.@@N@@
