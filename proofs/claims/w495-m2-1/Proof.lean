import JvmDerived
import JvmDerived.Pilot.@@N@@Statement
import JvmDerived.Pilot.@@N@@Code
set_option linter.unusedVariables false
set_option linter.unusedSimpArgs false
namespace Jvm.RoadKit
open Sem ClassFile Op Lib Jvm.Stand Jvm.Free Jvm.LawKit
/-- what a walk knows of the method that it walks -/
def Own (Z : State) (y : MethodName) (bytes : ByteArray) (maxL : Nat) (ret : Option FieldType) (p : Program) (s : State) (m : MethodId) (meth : Method) (c : Code) : Prop :=
  p.tables.exec = Jvm.exec ∧ c.code = bytes ∧ c.maxLocals = maxL ∧ s.vm.findClass y.cls = some m.cls ∧ meth.name = y.name ∧ Z.Warmed39 s.vm ∧ meth.sig.returnType = ret ∧ meth.locks = false
/-- how the start s over which the walk stands belongs to the true start s0 (wd: strings may have been interned since) -/
def GoRel (wd : Bool) (s0 s : State) (k : Nat) : Prop := match wd with
  | false => s0 = s
  | true => ∃ (vm0 : Vm) (k0 : Nat), s = s0.setVm vm0 ∧ s0.Since vm0 k0 ∧ k0 ≤ k
/-- the frame of the end -/
def GoEnd (wd : Bool) (s0 : State) (o : Outcome) (t : State) (L : List Loc) (K N : Nat) : Prop := match wd with
  | false => FrameEnd s0 o t L K N
  | true => ReturnedEndW s0 o t L K N
theorem GoRel.mono {wd : Bool} {s0 s : State} {k k' : Nat} (h : GoRel wd s0 s k) (q : k ≤ k') : GoRel wd s0 s k' := by
  cases wd
  · exact h
  · obtain ⟨vm0, k0, h1, h2, h3⟩ := h; exact ⟨vm0, k0, h1, h2, Nat.le_trans h3 q⟩
theorem GoRel.refl (wd : Bool) (s : State) (k : Nat) : GoRel wd s s k := by
  cases wd
  · rfl
  · exact ⟨s.vm, 0, rfl, (State.WarmedH.refl s).since 0, Nat.zero_le _⟩
theorem GoEnd.grow {wd : Bool} {s0 t : State} {o : Outcome} {L : List Loc} {K N : Nat} (h : GoEnd wd s0 o t L K N) : s0.heap.size ≤ t.heap.size := by
  cases wd
  · exact h.2.2.2.1
  · exact h.2.2.2.2.1
theorem GoRel.ended {wd : Bool} {s0 s : State} {v : Option Value} {U : State} {locs : List Loc} {c k c' k' : Nat} (h : GoRel wd s0 s U.heap.size) (hW : s.WarmedH U.vm) (hs : s.sameButNew ({ U with vm := s.vm } : State) locs c k) (hc : c ≤ c') (hk : k ≤ k') : GoEnd wd s0 (.returned v) U locs c' k' := by
  cases wd
  · obtain rfl : s0 = s := h
    exact ⟨⟨_, rfl⟩, hW, hs.mono hc hk⟩
  · obtain ⟨vm0, k0, rfl, h2, h3⟩ := h
    obtain ⟨q1, q2, q3⟩ := h2.ended hW h3 hs
    exact ⟨⟨_, rfl⟩, q1, q2, q3.mono hc hk⟩
/-- from pc, Ls, st over the heap h (so many cells and slots made so far) the walk comes to its end, and Q holds of what it returns and of the heap there; what it wrote lies at or above n0 -/
def Go (wd : Bool) (l : Launch) (R : Room) (Z : State) (y : MethodName) (bytes : ByteArray) (maxL : Nat) (ret : Option FieldType) (n0 K N : Nat) (Q : Option Value → Heap → Prop) (h : Heap) (cells slots pc : Nat) (Ls : Array Slot) (st : List Value) : Prop :=
  ∀ (p : Program) (e : Env) (s0 s : State) (m : MethodId) (args : Array Value) (below : List Frame) (meth : Method) (c : Code) (T : State) (locs : List Loc),
    GoRel wd s0 s h.size → Own Z y bytes maxL ret p s m meth c → Stand p l e R s m args below meth c T locs cells slots → T.heap = h → Fr n0 locs →
    ∃ s₂ o, Steps p.tables e below (T.setTop (mkF m pc Ls st)) s₂ ∧ s₂.status = .running ∧ Ended s₂ below o ∧ ∃ v L, o = .returned v ∧ (Q v s₂.heap ∧ Fr n0 L) ∧ GoEnd wd s0 o s₂ L K N
section GoLaws
variable {wd : Bool} {l : Launch} {R : Room} {Z : State} {y : MethodName} {bytes : ByteArray} {maxL : Nat} {ret : Option FieldType} {n0 K N : Nat} {Q : Option Value → Heap → Prop} {h : Heap} {cells slots pc pc' : Nat} {Ls Ls' : Array Slot} {st st' : List Value} {a0 : Array Value}
theorem Go.of (k : Go wd l R Z y bytes maxL ret n0 K N Q h cells slots pc' Ls' st')
    (q : ∀ (p : Program) (e : Env) (s : State) (m : MethodId) (args : Array Value) (below : List Frame) (meth : Method) (c : Code) (T : State) (locs : List Loc), Own Z y bytes maxL ret p s m meth c → Stand p l e R s m args below meth c T locs cells slots → T.heap = h →
      ∀ target, Steps p.tables e below (T.setTop (mkF m pc' Ls' st')) target → Steps p.tables e below (T.setTop (mkF m pc Ls st)) target) : Go wd l R Z y bytes maxL ret n0 K N Q h cells slots pc Ls st := by
  intro p e s0 s m args below meth c T locs hR O X eT F
  obtain ⟨s₂, o, h1, r⟩ := k p e s0 s m args below meth c T locs hR O X eT F
  exact ⟨s₂, o, q p e s m args below meth c T locs O X eT _ h1, r⟩
theorem Go.weaken {Q' : Option Value → Heap → Prop} (hQ : ∀ v h, Q' v h → Q v h) (k : Go wd l R Z y bytes maxL ret n0 K N Q' h cells slots pc Ls st) : Go wd l R Z y bytes maxL ret n0 K N Q h cells slots pc Ls st := by
  intro p e s0 s m args below meth c T locs hR O X eT F
  obtain ⟨s₂, o, h1, h2, h3, v, L, h4, h5, h6⟩ := k p e s0 s m args below meth c T locs hR O X eT F
  exact ⟨s₂, o, h1, h2, h3, v, L, h4, ⟨hQ _ _ h5.1, h5.2⟩, h6⟩
/-! plain steps -/
theorem Go.iload {k : Nat} {v : Int32} (hd : decode bytes pc = .ok (.iload k, 2)) (hl : Ls[k]? = some (.val (.int v))) (hp : pc + 2 = pc') (q : Go wd l R Z y bytes maxL ret n0 K N Q h cells slots pc' Ls (.int v :: st)) : Go wd l R Z y bytes maxL ret n0 K N Q h cells slots pc Ls st := by
  subst hp; exact Go.of q fun p e s m args below meth c T locs O X eT t hr => XS.iload X.here O.1 rfl (hb O.2.1 hd) hl hr
theorem Go.iloadN {k : Fin 4} {v : Int32} (hd : decode bytes pc = .ok (.iload_n k, 1)) (hl : Ls[k.val]? = some (.val (.int v))) (hp : pc + 1 = pc') (q : Go wd l R Z y bytes maxL ret n0 K N Q h cells slots pc' Ls (.int v :: st)) : Go wd l R Z y bytes maxL ret n0 K N Q h cells slots pc Ls st := by
  subst hp; exact Go.of q fun p e s m args below meth c T locs O X eT t hr => XS.iloadN X.here O.1 rfl (hb O.2.1 hd) hl hr
theorem Go.lload {k : Nat} {v : Int64} (hd : decode bytes pc = .ok (.lload k, 2)) (hl : Ls[k]? = some (.val (.long v))) (hp : pc + 2 = pc') (q : Go wd l R Z y bytes maxL ret n0 K N Q h cells slots pc' Ls (.long v :: st)) : Go wd l R Z y bytes maxL ret n0 K N Q h cells slots pc Ls st := by
  subst hp; exact Go.of q fun p e s m args below meth c T locs O X eT t hr => XS.lload X.here O.1 rfl (hb O.2.1 hd) hl hr
theorem Go.lloadN {k : Fin 4} {v : Int64} (hd : decode bytes pc = .ok (.lload_n k, 1)) (hl : Ls[k.val]? = some (.val (.long v))) (hp : pc + 1 = pc') (q : Go wd l R Z y bytes maxL ret n0 K N Q h cells slots pc' Ls (.long v :: st)) : Go wd l R Z y bytes maxL ret n0 K N Q h cells slots pc Ls st := by
  subst hp; exact Go.of q fun p e s m args below meth c T locs O X eT t hr => XS.lloadN X.here O.1 rfl (hb O.2.1 hd) hl hr
theorem Go.aload {k : Nat} {v : Value} (hd : decode bytes pc = .ok (.aload k, 2)) (hl : Ls[k]? = some (.val v)) (hv : v.isRef = true) (hp : pc + 2 = pc') (q : Go wd l R Z y bytes maxL ret n0 K N Q h cells slots pc' Ls (v :: st)) : Go wd l R Z y bytes maxL ret n0 K N Q h cells slots pc Ls st := by
  subst hp; exact Go.of q fun p e s m args below meth c T locs O X eT t hr => XS.aload X.here O.1 rfl (hb O.2.1 hd) hl hv hr
theorem Go.aloadN {k : Fin 4} {v : Value} (hd : decode bytes pc = .ok (.aload_n k, 1)) (hl : Ls[k.val]? = some (.val v)) (hv : v.isRef = true) (hp : pc + 1 = pc') (q : Go wd l R Z y bytes maxL ret n0 K N Q h cells slots pc' Ls (v :: st)) : Go wd l R Z y bytes maxL ret n0 K N Q h cells slots pc Ls st := by
  subst hp; exact Go.of q fun p e s m args below meth c T locs O X eT t hr => XS.aloadN X.here O.1 rfl (hb O.2.1 hd) hl hv hr
theorem Go.istore {k : Nat} {v : Int32} (hd : decode bytes pc = .ok (.istore k, 2)) (hl : storeLocals Ls k (.int v) = some Ls') (hp : pc + 2 = pc') (q : Go wd l R Z y bytes maxL ret n0 K N Q h cells slots pc' Ls' st) : Go wd l R Z y bytes maxL ret n0 K N Q h cells slots pc Ls (.int v :: st) := by
  subst hp; exact Go.of q fun p e s m args below meth c T locs O X eT t hr => XS.istore X.here O.1 rfl (hb O.2.1 hd) rfl hl hr
theorem Go.istoreN {k : Fin 4} {v : Int32} (hd : decode bytes pc = .ok (.istore_n k, 1)) (hl : storeLocals Ls k.val (.int v) = some Ls') (hp : pc + 1 = pc') (q : Go wd l R Z y bytes maxL ret n0 K N Q h cells slots pc' Ls' st) : Go wd l R Z y bytes maxL ret n0 K N Q h cells slots pc Ls (.int v :: st) := by
  subst hp; exact Go.of q fun p e s m args below meth c T locs O X eT t hr => XS.istoreN X.here O.1 rfl (hb O.2.1 hd) rfl hl hr
theorem Go.lstore {k : Nat} {v : Int64} (hd : decode bytes pc = .ok (.lstore k, 2)) (hl : storeLocals Ls k (.long v) = some Ls') (hp : pc + 2 = pc') (q : Go wd l R Z y bytes maxL ret n0 K N Q h cells slots pc' Ls' st) : Go wd l R Z y bytes maxL ret n0 K N Q h cells slots pc Ls (.long v :: st) := by
  subst hp; exact Go.of q fun p e s m args below meth c T locs O X eT t hr => XS.lstore X.here O.1 rfl (hb O.2.1 hd) rfl hl hr
theorem Go.lstoreN {k : Fin 4} {v : Int64} (hd : decode bytes pc = .ok (.lstore_n k, 1)) (hl : storeLocals Ls k.val (.long v) = some Ls') (hp : pc + 1 = pc') (q : Go wd l R Z y bytes maxL ret n0 K N Q h cells slots pc' Ls' st) : Go wd l R Z y bytes maxL ret n0 K N Q h cells slots pc Ls (.long v :: st) := by
  subst hp; exact Go.of q fun p e s m args below meth c T locs O X eT t hr => XS.lstoreN X.here O.1 rfl (hb O.2.1 hd) rfl hl hr
theorem Go.astore {k : Nat} {v : Value} (hd : decode bytes pc = .ok (.astore k, 2)) (hv : v.isRef = true) (hl : storeLocals Ls k v = some Ls') (hp : pc + 2 = pc') (q : Go wd l R Z y bytes maxL ret n0 K N Q h cells slots pc' Ls' st) : Go wd l R Z y bytes maxL ret n0 K N Q h cells slots pc Ls (v :: st) := by
  subst hp; exact Go.of q fun p e s m args below meth c T locs O X eT t hr => XS.astore X.here O.1 rfl (hb O.2.1 hd) rfl hv hl hr
theorem Go.astoreN {k : Fin 4} {v : Value} (hd : decode bytes pc = .ok (.astore_n k, 1)) (hv : v.isRef = true) (hl : storeLocals Ls k.val v = some Ls') (hp : pc + 1 = pc') (q : Go wd l R Z y bytes maxL ret n0 K N Q h cells slots pc' Ls' st) : Go wd l R Z y bytes maxL ret n0 K N Q h cells slots pc Ls (v :: st) := by
  subst hp; exact Go.of q fun p e s m args below meth c T locs O X eT t hr => XS.astoreN X.here O.1 rfl (hb O.2.1 hd) rfl hv hl hr
theorem Go.iinc {k : Nat} {cst : Int} {v w : Int32} (hd : decode bytes pc = .ok (.iinc k cst, 3)) (hl : Ls[k]? = some (.val (.int v))) (hw : v + Int32.ofInt cst = w) (hl' : storeLocals Ls k (.int w) = some Ls') (hp : pc + 3 = pc') (q : Go wd l R Z y bytes maxL ret n0 K N Q h cells slots pc' Ls' st) : Go wd l R Z y bytes maxL ret n0 K N Q h cells slots pc Ls st := by
  subst hp hw; exact Go.of q fun p e s m args below meth c T locs O X eT t hr => XS.iinc X.here O.1 rfl (hb O.2.1 hd) hl hl' hr
theorem Go.iconst {i : Int} {v : Int32} (hd : decode bytes pc = .ok (.iconst i, 1)) (hv : Int32.ofInt i = v) (hp : pc + 1 = pc') (q : Go wd l R Z y bytes maxL ret n0 K N Q h cells slots pc' Ls (.int v :: st)) : Go wd l R Z y bytes maxL ret n0 K N Q h cells slots pc Ls st := by
  subst hp hv; exact Go.of q fun p e s m args below meth c T locs O X eT t hr => XS.iconst X.here O.1 rfl (hb O.2.1 hd) hr
theorem Go.bipush {i : Int} {v : Int32} (hd : decode bytes pc = .ok (.bipush i, 2)) (hv : (Int8.ofInt i).toInt32 = v) (hp : pc + 2 = pc') (q : Go wd l R Z y bytes maxL ret n0 K N Q h cells slots pc' Ls (.int v :: st)) : Go wd l R Z y bytes maxL ret n0 K N Q h cells slots pc Ls st := by
  subst hp hv; exact Go.of q fun p e s m args below meth c T locs O X eT t hr => XS.bipush X.here O.1 rfl (hb O.2.1 hd) hr
theorem Go.sipush {i : Int} {v : Int32} (hd : decode bytes pc = .ok (.sipush i, 3)) (hv : (Int16.ofInt i).toInt32 = v) (hp : pc + 3 = pc') (q : Go wd l R Z y bytes maxL ret n0 K N Q h cells slots pc' Ls (.int v :: st)) : Go wd l R Z y bytes maxL ret n0 K N Q h cells slots pc Ls st := by
  subst hp hv; exact Go.of q fun p e s m args below meth c T locs O X eT t hr => XS.sipush X.here O.1 rfl (hb O.2.1 hd) hr
theorem Go.lconst {k : Fin 2} {v : Int64} (hd : decode bytes pc = .ok (.lconst k, 1)) (hv : Int64.ofNat k = v) (hp : pc + 1 = pc') (q : Go wd l R Z y bytes maxL ret n0 K N Q h cells slots pc' Ls (.long v :: st)) : Go wd l R Z y bytes maxL ret n0 K N Q h cells slots pc Ls st := by
  subst hp hv; exact Go.of q fun p e s m args below meth c T locs O X eT t hr => XS.lconst X.here O.1 rfl (hb O.2.1 hd) hr
theorem Go.aconstNull (hd : decode bytes pc = .ok (.aconst_null, 1)) (hp : pc + 1 = pc') (q : Go wd l R Z y bytes maxL ret n0 K N Q h cells slots pc' Ls (.null :: st)) : Go wd l R Z y bytes maxL ret n0 K N Q h cells slots pc Ls st := by
  subst hp; exact Go.of q fun p e s m args below meth c T locs O X eT t hr => XS.aconstNull X.here O.1 rfl (hb O.2.1 hd) hr
theorem Go.dup {v : Value} (hd : decode bytes pc = .ok (.dup, 1)) (hv : v.category = 1) (hp : pc + 1 = pc') (q : Go wd l R Z y bytes maxL ret n0 K N Q h cells slots pc' Ls (v :: v :: st)) : Go wd l R Z y bytes maxL ret n0 K N Q h cells slots pc Ls (v :: st) := by
  subst hp; exact Go.of q fun p e s m args below meth c T locs O X eT t hr => XS.dup X.here O.1 rfl (hb O.2.1 hd) rfl hv hr
theorem Go.dupX1 {v w : Value} (hd : decode bytes pc = .ok (.dup_x1, 1)) (hv : v.category = 1) (hw : w.category = 1) (hp : pc + 1 = pc') (q : Go wd l R Z y bytes maxL ret n0 K N Q h cells slots pc' Ls (v :: w :: v :: st)) : Go wd l R Z y bytes maxL ret n0 K N Q h cells slots pc Ls (v :: w :: st) := by
  subst hp; exact Go.of q fun p e s m args below meth c T locs O X eT t hr => XS.dupX1 X.here O.1 rfl (hb O.2.1 hd) rfl hv hw hr
theorem Go.dup2 {v w : Value} (hd : decode bytes pc = .ok (.dup2, 1)) (hv : v.category = 1) (hw : w.category = 1) (hp : pc + 1 = pc') (q : Go wd l R Z y bytes maxL ret n0 K N Q h cells slots pc' Ls (v :: w :: v :: w :: st)) : Go wd l R Z y bytes maxL ret n0 K N Q h cells slots pc Ls (v :: w :: st) := by
  subst hp; exact Go.of q fun p e s m args below meth c T locs O X eT t hr => XT.dup2 X.here O.1 rfl (hb O.2.1 hd) rfl hv hw hr
theorem Go.pop {v : Value} (hd : decode bytes pc = .ok (.pop, 1)) (hv : v.category = 1) (hp : pc + 1 = pc') (q : Go wd l R Z y bytes maxL ret n0 K N Q h cells slots pc' Ls st) : Go wd l R Z y bytes maxL ret n0 K N Q h cells slots pc Ls (v :: st) := by
  subst hp; exact Go.of q fun p e s m args below meth c T locs O X eT t hr => XS.pop X.here O.1 rfl (hb O.2.1 hd) rfl hv hr
theorem Go.goto {o : Int} (hd : decode bytes pc = .ok (.goto o, 3)) (ho : 0 ≤ (pc : Int) + o) (hp : ((pc : Int) + o).toNat = pc') (q : Go wd l R Z y bytes maxL ret n0 K N Q h cells slots pc' Ls st) : Go wd l R Z y bytes maxL ret n0 K N Q h cells slots pc Ls st :=
  Go.of q fun p e s m args below meth c T locs O X eT t hr => XS.goto X.here O.1 rfl (pc0 := pc) rfl (hb O.2.1 hd) ho hp hr
theorem Go.iadd {a : Int32} {b : Int32} (hd : decode bytes pc = .ok (.iadd, 1)) (hp : pc + 1 = pc') (q : Go wd l R Z y bytes maxL ret n0 K N Q h cells slots pc' Ls (.int (a + b) :: st)) : Go wd l R Z y bytes maxL ret n0 K N Q h cells slots pc Ls (.int b :: .int a :: st) := by
  subst hp; exact Go.of q fun p e s m args below meth c T locs O X eT t hr => XS.iadd X.here O.1 rfl (hb O.2.1 hd) rfl hr
theorem Go.isub {a : Int32} {b : Int32} (hd : decode bytes pc = .ok (.isub, 1)) (hp : pc + 1 = pc') (q : Go wd l R Z y bytes maxL ret n0 K N Q h cells slots pc' Ls (.int (a - b) :: st)) : Go wd l R Z y bytes maxL ret n0 K N Q h cells slots pc Ls (.int b :: .int a :: st) := by
  subst hp; exact Go.of q fun p e s m args below meth c T locs O X eT t hr => XS.isub X.here O.1 rfl (hb O.2.1 hd) rfl hr
theorem Go.imul {a : Int32} {b : Int32} (hd : decode bytes pc = .ok (.imul, 1)) (hp : pc + 1 = pc') (q : Go wd l R Z y bytes maxL ret n0 K N Q h cells slots pc' Ls (.int (a * b) :: st)) : Go wd l R Z y bytes maxL ret n0 K N Q h cells slots pc Ls (.int b :: .int a :: st) := by
  subst hp; exact Go.of q fun p e s m args below meth c T locs O X eT t hr => XS.imul X.here O.1 rfl (hb O.2.1 hd) rfl hr
theorem Go.iand {a : Int32} {b : Int32} (hd : decode bytes pc = .ok (.iand, 1)) (hp : pc + 1 = pc') (q : Go wd l R Z y bytes maxL ret n0 K N Q h cells slots pc' Ls (.int (a &&& b) :: st)) : Go wd l R Z y bytes maxL ret n0 K N Q h cells slots pc Ls (.int b :: .int a :: st) := by
  subst hp; exact Go.of q fun p e s m args below meth c T locs O X eT t hr => XS.iand X.here O.1 rfl (hb O.2.1 hd) rfl hr
theorem Go.ior {a : Int32} {b : Int32} (hd : decode bytes pc = .ok (.ior, 1)) (hp : pc + 1 = pc') (q : Go wd l R Z y bytes maxL ret n0 K N Q h cells slots pc' Ls (.int (a ||| b) :: st)) : Go wd l R Z y bytes maxL ret n0 K N Q h cells slots pc Ls (.int b :: .int a :: st) := by
  subst hp; exact Go.of q fun p e s m args below meth c T locs O X eT t hr => XS.ior X.here O.1 rfl (hb O.2.1 hd) rfl hr
theorem Go.ixor {a : Int32} {b : Int32} (hd : decode bytes pc = .ok (.ixor, 1)) (hp : pc + 1 = pc') (q : Go wd l R Z y bytes maxL ret n0 K N Q h cells slots pc' Ls (.int (a ^^^ b) :: st)) : Go wd l R Z y bytes maxL ret n0 K N Q h cells slots pc Ls (.int b :: .int a :: st) := by
  subst hp; exact Go.of q fun p e s m args below meth c T locs O X eT t hr => XS.ixor X.here O.1 rfl (hb O.2.1 hd) rfl hr
theorem Go.ishl {a : Int32} {b : Int32} (hd : decode bytes pc = .ok (.ishl, 1)) (hp : pc + 1 = pc') (q : Go wd l R Z y bytes maxL ret n0 K N Q h cells slots pc' Ls (.int (a <<< (b &&& 31)) :: st)) : Go wd l R Z y bytes maxL ret n0 K N Q h cells slots pc Ls (.int b :: .int a :: st) := by
  subst hp; exact Go.of q fun p e s m args below meth c T locs O X eT t hr => XS.ishl X.here O.1 rfl (hb O.2.1 hd) rfl hr
theorem Go.ishr {a : Int32} {b : Int32} (hd : decode bytes pc = .ok (.ishr, 1)) (hp : pc + 1 = pc') (q : Go wd l R Z y bytes maxL ret n0 K N Q h cells slots pc' Ls (.int (a >>> (b &&& 31)) :: st)) : Go wd l R Z y bytes maxL ret n0 K N Q h cells slots pc Ls (.int b :: .int a :: st) := by
  subst hp; exact Go.of q fun p e s m args below meth c T locs O X eT t hr => XS.ishr X.here O.1 rfl (hb O.2.1 hd) rfl hr
theorem Go.iushr {a : Int32} {b : Int32} (hd : decode bytes pc = .ok (.iushr, 1)) (hp : pc + 1 = pc') (q : Go wd l R Z y bytes maxL ret n0 K N Q h cells slots pc' Ls (.int ((a.toUInt32 >>> (b &&& 31).toUInt32).toInt32) :: st)) : Go wd l R Z y bytes maxL ret n0 K N Q h cells slots pc Ls (.int b :: .int a :: st) := by
  subst hp; exact Go.of q fun p e s m args below meth c T locs O X eT t hr => XS.iushr X.here O.1 rfl (hb O.2.1 hd) rfl hr
theorem Go.idiv {a : Int32} {b : Int32} (hd : decode bytes pc = .ok (.idiv, 1)) (hy : b ≠ 0) (hp : pc + 1 = pc') (q : Go wd l R Z y bytes maxL ret n0 K N Q h cells slots pc' Ls (.int (a / b) :: st)) : Go wd l R Z y bytes maxL ret n0 K N Q h cells slots pc Ls (.int b :: .int a :: st) := by
  subst hp; exact Go.of q fun p e s m args below meth c T locs O X eT t hr => XS.idiv X.here O.1 rfl (hb O.2.1 hd) rfl hy hr
theorem Go.ladd {a : Int64} {b : Int64} (hd : decode bytes pc = .ok (.ladd, 1)) (hp : pc + 1 = pc') (q : Go wd l R Z y bytes maxL ret n0 K N Q h cells slots pc' Ls (.long (a + b) :: st)) : Go wd l R Z y bytes maxL ret n0 K N Q h cells slots pc Ls (.long b :: .long a :: st) := by
  subst hp; exact Go.of q fun p e s m args below meth c T locs O X eT t hr => XS.ladd X.here O.1 rfl (hb O.2.1 hd) rfl hr
theorem Go.lsub {a : Int64} {b : Int64} (hd : decode bytes pc = .ok (.lsub, 1)) (hp : pc + 1 = pc') (q : Go wd l R Z y bytes maxL ret n0 K N Q h cells slots pc' Ls (.long (a - b) :: st)) : Go wd l R Z y bytes maxL ret n0 K N Q h cells slots pc Ls (.long b :: .long a :: st) := by
  subst hp; exact Go.of q fun p e s m args below meth c T locs O X eT t hr => XS.lsub X.here O.1 rfl (hb O.2.1 hd) rfl hr
theorem Go.lmul {a : Int64} {b : Int64} (hd : decode bytes pc = .ok (.lmul, 1)) (hp : pc + 1 = pc') (q : Go wd l R Z y bytes maxL ret n0 K N Q h cells slots pc' Ls (.long (a * b) :: st)) : Go wd l R Z y bytes maxL ret n0 K N Q h cells slots pc Ls (.long b :: .long a :: st) := by
  subst hp; exact Go.of q fun p e s m args below meth c T locs O X eT t hr => XS.lmul X.here O.1 rfl (hb O.2.1 hd) rfl hr
theorem Go.land {a : Int64} {b : Int64} (hd : decode bytes pc = .ok (.land, 1)) (hp : pc + 1 = pc') (q : Go wd l R Z y bytes maxL ret n0 K N Q h cells slots pc' Ls (.long (a &&& b) :: st)) : Go wd l R Z y bytes maxL ret n0 K N Q h cells slots pc Ls (.long b :: .long a :: st) := by
  subst hp; exact Go.of q fun p e s m args below meth c T locs O X eT t hr => XS.land X.here O.1 rfl (hb O.2.1 hd) rfl hr
theorem Go.lor {a : Int64} {b : Int64} (hd : decode bytes pc = .ok (.lor, 1)) (hp : pc + 1 = pc') (q : Go wd l R Z y bytes maxL ret n0 K N Q h cells slots pc' Ls (.long (a ||| b) :: st)) : Go wd l R Z y bytes maxL ret n0 K N Q h cells slots pc Ls (.long b :: .long a :: st) := by
  subst hp; exact Go.of q fun p e s m args below meth c T locs O X eT t hr => XS.lor X.here O.1 rfl (hb O.2.1 hd) rfl hr
theorem Go.lxor {a : Int64} {b : Int64} (hd : decode bytes pc = .ok (.lxor, 1)) (hp : pc + 1 = pc') (q : Go wd l R Z y bytes maxL ret n0 K N Q h cells slots pc' Ls (.long (a ^^^ b) :: st)) : Go wd l R Z y bytes maxL ret n0 K N Q h cells slots pc Ls (.long b :: .long a :: st) := by
  subst hp; exact Go.of q fun p e s m args below meth c T locs O X eT t hr => XS.lxor X.here O.1 rfl (hb O.2.1 hd) rfl hr
theorem Go.lshl {a : Int64} {b : Int32} (hd : decode bytes pc = .ok (.lshl, 1)) (hp : pc + 1 = pc') (q : Go wd l R Z y bytes maxL ret n0 K N Q h cells slots pc' Ls (.long (a <<< (b &&& 0x3f).toInt64) :: st)) : Go wd l R Z y bytes maxL ret n0 K N Q h cells slots pc Ls (.int b :: .long a :: st) := by
  subst hp; exact Go.of q fun p e s m args below meth c T locs O X eT t hr => XS.lshl X.here O.1 rfl (hb O.2.1 hd) rfl hr
theorem Go.lshr {a : Int64} {b : Int32} (hd : decode bytes pc = .ok (.lshr, 1)) (hp : pc + 1 = pc') (q : Go wd l R Z y bytes maxL ret n0 K N Q h cells slots pc' Ls (.long (a >>> (b &&& 0x3f).toInt64) :: st)) : Go wd l R Z y bytes maxL ret n0 K N Q h cells slots pc Ls (.int b :: .long a :: st) := by
  subst hp; exact Go.of q fun p e s m args below meth c T locs O X eT t hr => XS.lshr X.here O.1 rfl (hb O.2.1 hd) rfl hr
theorem Go.lushr {a : Int64} {b : Int32} (hd : decode bytes pc = .ok (.lushr, 1)) (hp : pc + 1 = pc') (q : Go wd l R Z y bytes maxL ret n0 K N Q h cells slots pc' Ls (.long ((a.toUInt64 >>> (b &&& 0x3f).toInt64.toUInt64).toInt64) :: st)) : Go wd l R Z y bytes maxL ret n0 K N Q h cells slots pc Ls (.int b :: .long a :: st) := by
  subst hp; exact Go.of q fun p e s m args below meth c T locs O X eT t hr => XS.lushr X.here O.1 rfl (hb O.2.1 hd) rfl hr
theorem Go.ldiv {a : Int64} {b : Int64} (hd : decode bytes pc = .ok (.ldiv, 1)) (hy : b ≠ 0) (hp : pc + 1 = pc') (q : Go wd l R Z y bytes maxL ret n0 K N Q h cells slots pc' Ls (.long (a / b) :: st)) : Go wd l R Z y bytes maxL ret n0 K N Q h cells slots pc Ls (.long b :: .long a :: st) := by
  subst hp; exact Go.of q fun p e s m args below meth c T locs O X eT t hr => XS.ldiv X.here O.1 rfl (hb O.2.1 hd) rfl hy hr
theorem Go.i2b {a : Int32} (hd : decode bytes pc = .ok (.i2b, 1)) (hp : pc + 1 = pc') (q : Go wd l R Z y bytes maxL ret n0 K N Q h cells slots pc' Ls (.int (a.toInt8.toInt32) :: st)) : Go wd l R Z y bytes maxL ret n0 K N Q h cells slots pc Ls (.int a :: st) := by
  subst hp; exact Go.of q fun p e s m args below meth c T locs O X eT t hr => XS.i2b X.here O.1 rfl (hb O.2.1 hd) rfl hr
theorem Go.i2c {a : Int32} (hd : decode bytes pc = .ok (.i2c, 1)) (hp : pc + 1 = pc') (q : Go wd l R Z y bytes maxL ret n0 K N Q h cells slots pc' Ls (.int (a.toUInt32.toUInt16.toUInt32.toInt32) :: st)) : Go wd l R Z y bytes maxL ret n0 K N Q h cells slots pc Ls (.int a :: st) := by
  subst hp; exact Go.of q fun p e s m args below meth c T locs O X eT t hr => XS.i2c X.here O.1 rfl (hb O.2.1 hd) rfl hr
theorem Go.i2s {a : Int32} (hd : decode bytes pc = .ok (.i2s, 1)) (hp : pc + 1 = pc') (q : Go wd l R Z y bytes maxL ret n0 K N Q h cells slots pc' Ls (.int (a.toInt16.toInt32) :: st)) : Go wd l R Z y bytes maxL ret n0 K N Q h cells slots pc Ls (.int a :: st) := by
  subst hp; exact Go.of q fun p e s m args below meth c T locs O X eT t hr => XS.i2s X.here O.1 rfl (hb O.2.1 hd) rfl hr
theorem Go.i2l {a : Int32} (hd : decode bytes pc = .ok (.i2l, 1)) (hp : pc + 1 = pc') (q : Go wd l R Z y bytes maxL ret n0 K N Q h cells slots pc' Ls (.long (a.toInt64) :: st)) : Go wd l R Z y bytes maxL ret n0 K N Q h cells slots pc Ls (.int a :: st) := by
  subst hp; exact Go.of q fun p e s m args below meth c T locs O X eT t hr => XS.i2l X.here O.1 rfl (hb O.2.1 hd) rfl hr
theorem Go.l2i {a : Int64} (hd : decode bytes pc = .ok (.l2i, 1)) (hp : pc + 1 = pc') (q : Go wd l R Z y bytes maxL ret n0 K N Q h cells slots pc' Ls (.int (a.toInt32) :: st)) : Go wd l R Z y bytes maxL ret n0 K N Q h cells slots pc Ls (.long a :: st) := by
  subst hp; exact Go.of q fun p e s m args below meth c T locs O X eT t hr => XS.l2i X.here O.1 rfl (hb O.2.1 hd) rfl hr
theorem Go.lneg {a : Int64} (hd : decode bytes pc = .ok (.lneg, 1)) (hp : pc + 1 = pc') (q : Go wd l R Z y bytes maxL ret n0 K N Q h cells slots pc' Ls (.long (-a) :: st)) : Go wd l R Z y bytes maxL ret n0 K N Q h cells slots pc Ls (.long a :: st) := by
  subst hp; exact Go.of q fun p e s m args below meth c T locs O X eT t hr => XS.lneg X.here O.1 rfl (hb O.2.1 hd) rfl hr
theorem Go.ineg {a : Int32} (hd : decode bytes pc = .ok (.ineg, 1)) (hp : pc + 1 = pc') (q : Go wd l R Z y bytes maxL ret n0 K N Q h cells slots pc' Ls (.int (-a) :: st)) : Go wd l R Z y bytes maxL ret n0 K N Q h cells slots pc Ls (.int a :: st) := by
  subst hp; exact Go.of q fun p e s m args below meth c T locs O X eT t hr => XS.ineg X.here O.1 rfl (hb O.2.1 hd) rfl hr
theorem Go.irem {a b : Int32} (hd : decode bytes pc = .ok (.irem, 1)) (hy : b ≠ 0) (hp : pc + 1 = pc') (q : Go wd l R Z y bytes maxL ret n0 K N Q h cells slots pc' Ls (.int (a % b) :: st)) : Go wd l R Z y bytes maxL ret n0 K N Q h cells slots pc Ls (.int b :: .int a :: st) := by
  subst hp; exact Go.of q fun p e s m args below meth c T locs O X eT t hr => iremM X O.1 rfl (hb O.2.1 hd) rfl hy hr
theorem Go.lrem {a b : Int64} (hd : decode bytes pc = .ok (.lrem, 1)) (hy : b ≠ 0) (hp : pc + 1 = pc') (q : Go wd l R Z y bytes maxL ret n0 K N Q h cells slots pc' Ls (.long (a % b) :: st)) : Go wd l R Z y bytes maxL ret n0 K N Q h cells slots pc Ls (.long b :: .long a :: st) := by
  subst hp; rw [← lrem_mod] at q; exact Go.of q fun p e s m args below meth c T locs O X eT t hr => XS.lrem X.here O.1 rfl (hb O.2.1 hd) rfl hy hr
theorem c_lremM (x y : Int64) (d : Int) (hy : y.toInt = d) : (0 ≤ x.toInt → (x % y).toInt = x.toInt % d) ∧ (x.toInt < 0 → (x % y).toInt = -((-x.toInt) % d)) := by rw [Int64.toInt_mod, hy]; exact tr _ _
/-! branches -/
def jc : ClassFile.Cond → Int32 → Int32 → Prop
  | .eq, x, y => x.toInt = y.toInt
  | .ne, x, y => x.toInt ≠ y.toInt
  | .lt, x, y => x.toInt < y.toInt
  | .ge, x, y => y.toInt ≤ x.toInt
  | .gt, x, y => y.toInt < x.toInt
  | .le, x, y => x.toInt ≤ y.toInt
def jn : ClassFile.Cond → Int32 → Int32 → Prop
  | .eq, x, y => x.toInt ≠ y.toInt
  | .ne, x, y => x.toInt = y.toInt
  | .lt, x, y => y.toInt ≤ x.toInt
  | .ge, x, y => x.toInt < y.toInt
  | .gt, x, y => x.toInt ≤ y.toInt
  | .le, x, y => y.toInt < x.toInt
def zc : ClassFile.Cond → Int32 → Prop
  | .eq, x => x.toInt = 0
  | .ne, x => x.toInt ≠ 0
  | .lt, x => x.toInt < 0
  | .ge, x => 0 ≤ x.toInt
  | .gt, x => 0 < x.toInt
  | .le, x => x.toInt ≤ 0
def zn : ClassFile.Cond → Int32 → Prop
  | .eq, x => x.toInt ≠ 0
  | .ne, x => x.toInt = 0
  | .lt, x => 0 ≤ x.toInt
  | .ge, x => x.toInt < 0
  | .gt, x => x.toInt ≤ 0
  | .le, x => 0 < x.toInt
def wc : ClassFile.Cond → Int64 → Int64 → Prop
  | .eq, x, y => x.toInt = y.toInt
  | .ne, x, y => x.toInt ≠ y.toInt
  | .lt, x, y => x.toInt < y.toInt
  | .ge, x, y => y.toInt ≤ x.toInt
  | .gt, x, y => y.toInt < x.toInt
  | .le, x, y => x.toInt ≤ y.toInt
def wn : ClassFile.Cond → Int64 → Int64 → Prop
  | .eq, x, y => x.toInt ≠ y.toInt
  | .ne, x, y => x.toInt = y.toInt
  | .lt, x, y => y.toInt ≤ x.toInt
  | .ge, x, y => x.toInt < y.toInt
  | .gt, x, y => x.toInt ≤ y.toInt
  | .le, x, y => y.toInt < x.toInt
theorem jc_or (cd : ClassFile.Cond) (x y : Int32) : (if_icmp.holds cd x y = true ∧ jc cd x y) ∨ (if_icmp.holds cd x y = false ∧ jn cd x y) := by
  have i : x = y ↔ x.toInt = y.toInt := Int32.toInt_inj.symm
  cases cd <;> simp only [if_icmp.holds, jc, jn, beq_iff_eq, bne_iff_ne, beq_eq_false_iff_ne, bne_eq_false_iff_eq, decide_eq_true_eq, decide_eq_false_iff_not, Int32.lt_iff_toInt_lt, Int32.le_iff_toInt_le, ge_iff_le, gt_iff_lt, ne_eq, i] <;> omega
theorem zc_or (cd : ClassFile.Cond) (x : Int32) : (ifCond.holds cd x = true ∧ zc cd x) ∨ (ifCond.holds cd x = false ∧ zn cd x) := by
  have z : (0 : Int32).toInt = 0 := rfl
  rcases jc_or cd x 0 with ⟨q, r⟩ | ⟨q, r⟩
  · left; rw [if0]; refine ⟨q, ?_⟩; cases cd <;> simp only [jc, zc, z] at r ⊢ <;> exact r
  · right; rw [if0]; refine ⟨q, ?_⟩; cases cd <;> simp only [jn, zn, z] at r ⊢ <;> exact r
theorem wc_or (cd : ClassFile.Cond) (x y : Int64) : (ifCond.holds cd (lcmpW x y) = true ∧ wc cd x y) ∨ (ifCond.holds cd (lcmpW x y) = false ∧ wn cd x y) := by
  have e := c_lcmp x y
  rcases zc_or cd (lcmpW x y) with ⟨q, r⟩ | ⟨q, r⟩
  · left; refine ⟨q, ?_⟩; cases cd <;> simp only [zc, wc, ne_eq] at r ⊢ <;> omega
  · right; refine ⟨q, ?_⟩; cases cd <;> simp only [zn, wn, ne_eq] at r ⊢ <;> omega
theorem Go.icmp {cd : ClassFile.Cond} {o : Int} {x z : Int32} {pc1 pc2 : Nat} (hd : decode bytes pc = .ok (.if_icmp cd o, 3)) (ho : 0 ≤ (pc : Int) + o) (hp : ((pc : Int) + o).toNat = pc1) (hp2 : pc + 3 = pc2)
    (q1 : jc cd x z → Go wd l R Z y bytes maxL ret n0 K N Q h cells slots pc1 Ls st) (q2 : jn cd x z → Go wd l R Z y bytes maxL ret n0 K N Q h cells slots pc2 Ls st) : Go wd l R Z y bytes maxL ret n0 K N Q h cells slots pc Ls (.int z :: .int x :: st) := by
  rcases jc_or cd x z with ⟨hc, r⟩ | ⟨hc, r⟩
  · exact Go.of (q1 r) fun p e s m args below meth c T locs O X eT t hr => XS.icmpYes X.here O.1 rfl (pc0 := pc) rfl (hb O.2.1 hd) rfl hc ho hp hr
  · subst hp2; exact Go.of (q2 r) fun p e s m args below meth c T locs O X eT t hr => XS.icmpNo X.here O.1 rfl (hb O.2.1 hd) rfl hc hr
theorem Go.ifc {cd : ClassFile.Cond} {o : Int} {x : Int32} {pc1 pc2 : Nat} (hd : decode bytes pc = .ok (.ifCond cd o, 3)) (ho : 0 ≤ (pc : Int) + o) (hp : ((pc : Int) + o).toNat = pc1) (hp2 : pc + 3 = pc2)
    (q1 : zc cd x → Go wd l R Z y bytes maxL ret n0 K N Q h cells slots pc1 Ls st) (q2 : zn cd x → Go wd l R Z y bytes maxL ret n0 K N Q h cells slots pc2 Ls st) : Go wd l R Z y bytes maxL ret n0 K N Q h cells slots pc Ls (.int x :: st) := by
  rcases zc_or cd x with ⟨hc, r⟩ | ⟨hc, r⟩
  · exact Go.of (q1 r) fun p e s m args below meth c T locs O X eT t hr => XS.ifYes X.here O.1 rfl (pc0 := pc) rfl (hb O.2.1 hd) rfl hc ho hp hr
  · subst hp2; exact Go.of (q2 r) fun p e s m args below meth c T locs O X eT t hr => XS.ifNo X.here O.1 rfl (hb O.2.1 hd) rfl hc hr
theorem Go.lcmp {a b : Int64} (hd : decode bytes pc = .ok (.lcmp, 1)) (hp : pc + 1 = pc') (q : Go wd l R Z y bytes maxL ret n0 K N Q h cells slots pc' Ls (.int (lcmpW a b) :: st)) : Go wd l R Z y bytes maxL ret n0 K N Q h cells slots pc Ls (.long b :: .long a :: st) := by
  subst hp; exact Go.of q fun p e s m args below meth c T locs O X eT t hr => XS.lcmp X.here O.1 rfl (hb O.2.1 hd) rfl hr
theorem Go.ifw {cd : ClassFile.Cond} {o : Int} {a b : Int64} {pc1 pc2 : Nat} (hd : decode bytes pc = .ok (.ifCond cd o, 3)) (ho : 0 ≤ (pc : Int) + o) (hp : ((pc : Int) + o).toNat = pc1) (hp2 : pc + 3 = pc2)
    (q1 : wc cd a b → Go wd l R Z y bytes maxL ret n0 K N Q h cells slots pc1 Ls st) (q2 : wn cd a b → Go wd l R Z y bytes maxL ret n0 K N Q h cells slots pc2 Ls st) : Go wd l R Z y bytes maxL ret n0 K N Q h cells slots pc Ls (.int (lcmpW a b) :: st) := by
  rcases wc_or cd a b with ⟨hc, r⟩ | ⟨hc, r⟩
  · exact Go.of (q1 r) fun p e s m args below meth c T locs O X eT t hr => XS.ifYes X.here O.1 rfl (pc0 := pc) rfl (hb O.2.1 hd) rfl hc ho hp hr
  · subst hp2; exact Go.of (q2 r) fun p e s m args below meth c T locs O X eT t hr => XS.ifNo X.here O.1 rfl (hb O.2.1 hd) rfl hc hr
theorem Go.nonnullYes {o : Int} {a : Addr} (hd : decode bytes pc = .ok (.ifnonnull o, 3)) (ho : 0 ≤ (pc : Int) + o) (hp : ((pc : Int) + o).toNat = pc') (q : Go wd l R Z y bytes maxL ret n0 K N Q h cells slots pc' Ls st) : Go wd l R Z y bytes maxL ret n0 K N Q h cells slots pc Ls (.ref a :: st) :=
  Go.of q fun p e s m args below meth c T locs O X eT t hr => XS.ifnonnullYes X.here O.1 rfl (pc0 := pc) rfl (hb O.2.1 hd) rfl ho hp hr
theorem Go.nonnullNo {o : Int} (hd : decode bytes pc = .ok (.ifnonnull o, 3)) (hp : pc + 3 = pc') (q : Go wd l R Z y bytes maxL ret n0 K N Q h cells slots pc' Ls st) : Go wd l R Z y bytes maxL ret n0 K N Q h cells slots pc Ls (.null :: st) := by
  subst hp; exact Go.of q fun p e s m args below meth c T locs O X eT t hr => XS.ifnonnullNo X.here O.1 rfl (hb O.2.1 hd) rfl hr
theorem Go.nullYes {o : Int} (hd : decode bytes pc = .ok (.ifnull o, 3)) (ho : 0 ≤ (pc : Int) + o) (hp : ((pc : Int) + o).toNat = pc') (q : Go wd l R Z y bytes maxL ret n0 K N Q h cells slots pc' Ls st) : Go wd l R Z y bytes maxL ret n0 K N Q h cells slots pc Ls (.null :: st) :=
  Go.of q fun p e s m args below meth c T locs O X eT t hr => XS.ifnullYes X.here O.1 rfl (pc0 := pc) rfl (hb O.2.1 hd) rfl ho hp hr
theorem Go.nullNo {o : Int} {a : Addr} (hd : decode bytes pc = .ok (.ifnull o, 3)) (hp : pc + 3 = pc') (q : Go wd l R Z y bytes maxL ret n0 K N Q h cells slots pc' Ls st) : Go wd l R Z y bytes maxL ret n0 K N Q h cells slots pc Ls (.ref a :: st) := by
  subst hp; exact Go.of q fun p e s m args below meth c T locs O X eT t hr => XS.ifnullNo X.here O.1 rfl (hb O.2.1 hd) rfl hr
/-- if_acmp: q1 where they are the same, q2 where they aren't -/
theorem Go.acmp {cd : ACond} {o : Int} {u w : Value} {pc1 pc2 : Nat} (hd : decode bytes pc = .ok (.if_acmp cd o, 3)) (hu : u.isRef = true) (hw : w.isRef = true) (ho : 0 ≤ (pc : Int) + o) (hp : (if acV cd true = true then ((pc : Int) + o).toNat else pc + 3) = pc1) (hp2 : (if acV cd false = true then ((pc : Int) + o).toNat else pc + 3) = pc2)
    (q1 : u = w → Go wd l R Z y bytes maxL ret n0 K N Q h cells slots pc1 Ls st) (q2 : u ≠ w → Go wd l R Z y bytes maxL ret n0 K N Q h cells slots pc2 Ls st) : Go wd l R Z y bytes maxL ret n0 K N Q h cells slots pc Ls (w :: u :: st) := by
  by_cases r : u = w
  · exact Go.of (q1 r) fun p e s m args below meth c T locs O X eT t hr => RoadKit.acmp X O.1 rfl hu hw (pc0 := pc) (same := true) rfl (hb O.2.1 hd) rfl (decide_eq_true r) ho hp.symm hr
  · exact Go.of (q2 r) fun p e s m args below meth c T locs O X eT t hr => RoadKit.acmp X O.1 rfl hu hw (pc0 := pc) (same := false) rfl (hb O.2.1 hd) rfl (decide_eq_false r) ho hp2.symm hr
/-! constants of the pool -/
theorem Go.ldcI {i : Nat} {v : Int32} (w : (Cond.constant y.cls i v).before a0 Z = true) (hd : decode bytes pc = .ok (.ldc i, 2)) (hp : pc + 2 = pc') (q : Go wd l R Z y bytes maxL ret n0 K N Q h cells slots pc' Ls (.int v :: st)) : Go wd l R Z y bytes maxL ret n0 K N Q h cells slots pc Ls st := by
  subst hp; exact Go.of q fun p e s m args below meth c T locs O X eT t hr => X.ldcInt O.1 O.2.2.2.1 (mvT O.2.2.2.2.2.1 w) (g := mkF m pc Ls st) rfl (hb O.2.1 hd) t hr
theorem Go.ldcW {i : Nat} {v : Int32} (w : (Cond.constant y.cls i v).before a0 Z = true) (hd : decode bytes pc = .ok (.ldc_w i, 3)) (hp : pc + 3 = pc') (q : Go wd l R Z y bytes maxL ret n0 K N Q h cells slots pc' Ls (.int v :: st)) : Go wd l R Z y bytes maxL ret n0 K N Q h cells slots pc Ls st := by
  subst hp; exact Go.of q fun p e s m args below meth c T locs O X eT t hr => X.ldcwInt O.1 O.2.2.2.1 (mvT O.2.2.2.2.2.1 w) (g := mkF m pc Ls st) rfl (hb O.2.1 hd) t hr
theorem Go.ldcL {i : Nat} {v : Int64} (w : (Cond.constantLong y.cls i v).before a0 Z = true) (hd : decode bytes pc = .ok (.ldc2_w i, 3)) (hp : pc + 3 = pc') (q : Go wd l R Z y bytes maxL ret n0 K N Q h cells slots pc' Ls (.long v :: st)) : Go wd l R Z y bytes maxL ret n0 K N Q h cells slots pc Ls st := by
  subst hp; exact Go.of q fun p e s m args below meth c T locs O X eT t hr => X.ldc2Long O.1 O.2.2.2.1 (mvT O.2.2.2.2.2.1 w) (g := mkF m pc Ls st) rfl (hb O.2.1 hd) t hr
/-! the ends -/
theorem Go.leave {v : Option Value} (hv : ret = none → v = none) (hQ : Q v h) (hk : cells ≤ K) (hn : slots ≤ N)
    (q : ∀ (p : Program) (e : Env) (s : State) (m : MethodId) (args : Array Value) (below : List Frame) (meth : Method) (c : Code) (T : State) (locs : List Loc) (fs : List Frame), Own Z y bytes maxL ret p s m meth c → Stand p l e R s m args below meth c T locs cells slots →
      (∀ (f : JFrame) (acts : List Action), f.method = m → f.locked = none → f.entered = [] → (doReturn e (T.setTop f) acts v).1 = T.setFrames fs) → Steps p.tables e below (T.setTop (mkF m pc Ls st)) (T.setFrames fs)) : Go wd l R Z y bytes maxL ret n0 K N Q h cells slots pc Ls st := by
  intro p e s0 s m args below meth c T locs hR O X eT F
  obtain ⟨fs, hr, hrun, hended, hW, hsame⟩ := X.leave (v := v) (fun r => hv (by rw [← O.2.2.2.2.2.2.1]; exact r)) O.2.2.2.2.2.2.2
  have hE : GoEnd wd s0 (.returned v) (T.setFrames fs) locs K N := GoRel.ended (U := T.setFrames fs) (by show GoRel wd s0 s T.heap.size; rw [eT]; exact hR) hW hsame hk hn
  refine ⟨_, _, q p e s m args below meth c T locs fs O X hr, hrun, hended, v, locs, rfl, ⟨?_, F⟩, hE⟩
  show Q v T.heap
  rw [eT]; exact hQ
theorem Go.ret0 (hd : decode bytes pc = .ok (.return_, 1)) (hr : ret = none) (hQ : Q none h) (hk : cells ≤ K) (hn : slots ≤ N) : Go wd l R Z y bytes maxL ret n0 K N Q h cells slots pc Ls [] :=
  Go.leave (v := none) (fun _ => rfl) hQ hk hn fun p e s m args below meth c T locs fs O X hl => X.returnOut O.1 (O.2.2.2.2.2.2.1.trans hr) (hb O.2.1 hd) hl
theorem Go.retI {v : Int32} (hd : decode bytes pc = .ok (.ireturn, 1)) (hr : ret = some .int) (hQ : Q (some (.int v)) h) (hk : cells ≤ K) (hn : slots ≤ N) : Go wd l R Z y bytes maxL ret n0 K N Q h cells slots pc Ls (.int v :: st) :=
  Go.leave (v := some (.int v)) (fun r => by rw [hr] at r; cases r) hQ hk hn fun p e s m args below meth c T locs fs O X hl => retOut X O.1 (O.2.2.2.2.2.2.1.trans hr) rfl (Or.inl ⟨rfl, Or.inl rfl, _, rfl⟩) (hb O.2.1 hd) hl
theorem Go.retN {v : Int32} {t : FieldType} (hd : decode bytes pc = .ok (.ireturn, 1)) (hr : ret = some t) (ht : t = .boolean ∨ t = .byte ∨ t = .char ∨ t = .short) (hv : nar t v = v) (hQ : Q (some (.int v)) h) (hk : cells ≤ K) (hn : slots ≤ N) : Go wd l R Z y bytes maxL ret n0 K N Q h cells slots pc Ls (.int v :: st) :=
  Go.leave (v := some (.int v)) (fun r => by rw [hr] at r; cases r) hQ hk hn fun p e s m args below meth c T locs fs O X hl => RoadKit.retN X O.1 (O.2.2.2.2.2.2.1.trans hr) ht (hb O.2.1 hd) (by rw [hv]; exact hl)
theorem Go.retL {v : Int64} (hd : decode bytes pc = .ok (.lreturn, 1)) (hr : ret = some .long) (hQ : Q (some (.long v)) h) (hk : cells ≤ K) (hn : slots ≤ N) : Go wd l R Z y bytes maxL ret n0 K N Q h cells slots pc Ls (.long v :: st) :=
  Go.leave (v := some (.long v)) (fun r => by rw [hr] at r; cases r) hQ hk hn fun p e s m args below meth c T locs fs O X hl => retOut X O.1 (O.2.2.2.2.2.2.1.trans hr) rfl (Or.inr (Or.inl ⟨rfl, rfl, _, rfl⟩)) (hb O.2.1 hd) hl
theorem Go.retA {v : Value} {t : FieldType} (hd : decode bytes pc = .ok (.areturn, 1)) (hr : ret = some t) (ht : t.isReference = true) (hv : v.isRef = true) (hQ : Q (some v) h) (hk : cells ≤ K) (hn : slots ≤ N) : Go wd l R Z y bytes maxL ret n0 K N Q h cells slots pc Ls (v :: st) :=
  Go.leave (v := some v) (fun r => by rw [hr] at r; cases r) hQ hk hn fun p e s m args below meth c T locs fs O X hl => retOut X O.1 (O.2.2.2.2.2.2.1.trans hr) (by cases t <;> first | rfl | (cases ht; done)) (Or.inr (Or.inr (Or.inr (Or.inr ⟨rfl, ht, hv⟩)))) (hb O.2.1 hd) hl
/-! the heap -/
theorem Go.newO {C : String} {i n : Nat} (w1 : (Cond.classLink y.cls i C).before a0 Z = true) (w2 : (Cond.instantiable C n).before a0 Z = true) (w3 : (Cond.initialized C).before a0 Z = true) (hd : decode bytes pc = .ok (.new i, 3)) (hc : cells + 1 ≤ R.cells) (hs : slots + n ≤ R.slots) (hp : pc + 3 = pc')
    (q : ∀ (h' : Heap) (a : Addr), a = h.size → Ext h h' → Exa Z h' a C → (∀ {O nm d : String} {ty : FieldType}, Laid Z a0 C O nm d → parseFieldDescriptor d = some ty → Fld Z h' a O nm d (defaultValue ty)) → Go wd l R Z y bytes maxL ret n0 K N Q h' (cells + 1) (slots + n) pc' Ls (.ref a :: st)) : Go wd l R Z y bytes maxL ret n0 K N Q h cells slots pc Ls st := by
  subst hp
  intro p e s0 s m args below meth c T locs hR O X eT F
  obtain ⟨T2, h2, X2, e2, E2, A2, D2, -, st2⟩ := RoadKit.newO X O.1 O.2.2.2.2.2.1 O.2.2.2.1 w1 w2 w3 eT (g := mkF m pc Ls st) rfl (hb O.2.1 hd) hc hs
  obtain ⟨s₂, o, h1, r⟩ := q h2 _ rfl E2 A2 D2 p e s0 s m args below meth c T2 locs (hR.mono E2.1) O X2 e2 F
  exact ⟨s₂, o, st2 _ h1, r⟩
theorem Go.initO {i W : Nat} {a : Addr} (w1 : (Cond.methodLink y.cls i Lib.objectInit).before a0 Z = true) (w2 : (Cond.instanceMethod Lib.objectInit).before a0 Z = true) (w3 : (Cond.code Lib.objectInit ⟨#[0xb1]⟩ 1 none).before a0 Z = true) (hd : decode bytes pc = .ok (.invokespecial i, 3)) (hz : Ls.size = maxL)
    (hf : 1 ≤ R.frames) (hW : (st.map fun v => v.category).sum ≤ W) (hl : W + 12 ≤ R.locals) (hp : pc + 3 = pc') (q : Go wd l R Z y bytes maxL ret n0 K N Q h cells slots pc' Ls st) : Go wd l R Z y bytes maxL ret n0 K N Q h cells slots pc Ls (.ref a :: st) := by
  subst hp
  intro p e s0 s m args below meth c T locs hR O X eT F
  obtain ⟨T2, X2, e2, st2⟩ := RoadKit.initO X O.1 O.2.2.2.2.2.1 O.2.2.2.1 w1 w2 w3 eT (g := mkF m pc Ls (.ref a :: st)) rfl (hz.trans O.2.2.1.symm) rfl (hb O.2.1 hd) hf (W := W) (by show 2 * 0 + _ ≤ _; omega) hl
  obtain ⟨s₂, o, h1, r⟩ := q p e s0 s m args below meth c T2 locs hR O X2 e2 F
  exact ⟨s₂, o, st2 _ h1, r⟩
theorem Go.getF {C n d : String} {i : Nat} {a : Addr} {v : Value} (w : (Cond.fieldLink y.cls i C n d).before a0 Z = true) (hF : Fld Z h a C n d v) (hd : decode bytes pc = .ok (.getfield i, 3)) (hp : pc + 3 = pc') (q : Go wd l R Z y bytes maxL ret n0 K N Q h cells slots pc' Ls (v :: st)) : Go wd l R Z y bytes maxL ret n0 K N Q h cells slots pc Ls (.ref a :: st) := by
  subst hp
  intro p e s0 s m args below meth c T locs hR O X eT F
  obtain ⟨T2, X2, e2, st2⟩ := RoadKit.getF X O.1 O.2.2.2.2.2.1 O.2.2.2.1 (host := "") (Or.inl w) Via.refl eT hF (g := mkF m pc Ls (.ref a :: st)) rfl rfl (hb O.2.1 hd)
  obtain ⟨s₂, o, h1, r⟩ := q p e s0 s m args below meth c T2 locs hR O X2 e2 F
  exact ⟨s₂, o, st2 _ h1, r⟩
theorem Go.getS {C n d : String} {i : Nat} {v : Value} (w : (Cond.fieldLink y.cls i C n d).before a0 Z = true) (hF : Sta Z h C n d v) (hd : decode bytes pc = .ok (.getstatic i, 3)) (hp : pc + 3 = pc') (q : Go wd l R Z y bytes maxL ret n0 K N Q h cells slots pc' Ls (v :: st)) : Go wd l R Z y bytes maxL ret n0 K N Q h cells slots pc Ls st := by
  subst hp
  intro p e s0 s m args below meth c T locs hR O X eT F
  obtain ⟨T2, X2, e2, st2⟩ := RoadKit.getS2 X O.1 O.2.2.2.2.2.1 O.2.2.2.1 (host := "") (Or.inl w) Via.refl eT hF (g := mkF m pc Ls st) rfl (hb O.2.1 hd)
  obtain ⟨s₂, o, h1, r⟩ := q p e s0 s m args below meth c T2 locs hR O X2 e2 F
  exact ⟨s₂, o, st2 _ h1, r⟩
theorem Go.putF {C n d : String} {i kk : Nat} {ty : FieldType} {a : Addr} {v old : Value} (w : (Cond.fieldLink y.cls i C n d).before a0 Z = true) (hF : Fld Z h a C n d old) (hE : Exa Z h a C) (hL : (Cond.lays C C n d).before a0 Z = true ∨ ((Cond.laysFinal C C n d).before a0 Z = true ∧ y.cls = C ∧ y.name = "<init>")) (wi : (Cond.instantiable C kk).before a0 Z = true)
    (hty : parseFieldDescriptor d = some ty) (hn : narrow ty v = v) (hf : fits ty v = true) (hd : decode bytes pc = .ok (.putfield i, 3)) (ha : n0 ≤ a) (hp : pc + 3 = pc') (q : ∀ h', Wr h h' a (slotOf Z C n d) v → Go wd l R Z y bytes maxL ret n0 K N Q h' cells slots pc' Ls st) : Go wd l R Z y bytes maxL ret n0 K N Q h cells slots pc Ls (v :: .ref a :: st) := by
  subst hp
  intro p e s0 s m args below meth c T locs hR O X eT F
  obtain ⟨T2, h2, X2, e2, W2, st2⟩ := RoadKit.putF X O.1 O.2.2.2.2.2.1 O.2.2.2.1 (host := "") (Or.inl w) Via.refl eT hF hE (hL.imp_right fun r => ⟨r.1, r.2.1, O.2.2.2.2.1.trans r.2.2⟩) wi hty hn hf (g := mkF m pc Ls (v :: .ref a :: st)) rfl rfl (hb O.2.1 hd)
  obtain ⟨s₂, o, h1, r⟩ := q h2 W2 p e s0 s m args below meth c T2 _ (hR.mono (Nat.le_of_eq W2.size.symm)) O X2 e2 (Fr.snoc X2 F ha)
  exact ⟨s₂, o, st2 _ h1, r⟩
/-! facts carried from heap to heap -/
def Sm (h h' : Heap) (a : Addr) : Prop := ∀ c : Cell, h[a]? = some c → h'[a]? = some c
theorem Sm.ext {h h' : Heap} {a : Addr} (E : Ext h h') : Sm h h' a := fun c q => E.2 a c q
theorem Sm.keep {h h' : Heap} {a : Addr} {ws : List Addr} (E : Keep h h' ws) (q : a ∉ ws) : Sm h h' a := fun c r => E.2.1 a c r q
theorem Sm.wr {h h' : Heap} {a b : Addr} {sl : Nat} {v : Value} (W : Wr h h' b sl v) (q : a ≠ b) : Sm h h' a := Sm.keep (Keep.of_wr W) (by simpa using q)
theorem Sm.trans {h h' h'' : Heap} {a : Addr} (A : Sm h h' a) (B : Sm h' h'' a) : Sm h h'' a := fun c r => B c (A c r)
theorem Fld.sm {h h' : Heap} {a : Addr} {C n d : String} {v : Value} (F : Fld Z h a C n d v) (S : Sm h h' a) : Fld Z h' a C n d v := by
  obtain ⟨cell, cf, k, i, f, h1, r⟩ := F; exact ⟨cell, cf, k, i, f, S _ h1, r⟩
theorem Exa.sm {h h' : Heap} {a : Addr} {C : String} (F : Exa Z h a C) (S : Sm h h' a) : Exa Z h' a C := by
  obtain ⟨cell, k, h1, r⟩ := F; exact ⟨cell, k, S _ h1, r⟩
theorem Arr.sm {h h' : Heap} {a : Addr} {c : Cell} {ty : FieldType} (F : Arr Z h a c ty) (S : Sm h h' a) : Arr Z h' a c ty := ⟨S _ F.1, F.2⟩
/-- the array at a holds just these values -/
def Ary (Z : State) (h : Heap) (a : Addr) (ty : FieldType) (vs : List Value) : Prop := ∃ c : Cell, Arr Z h a c ty ∧ c.slots = vs.toArray
theorem Ary.sm {h h' : Heap} {a : Addr} {ty : FieldType} {vs : List Value} (F : Ary Z h a ty vs) (S : Sm h h' a) : Ary Z h' a ty vs := by
  obtain ⟨c, A, r⟩ := F; exact ⟨c, A.sm S, r⟩
theorem Ary.lt {h : Heap} {a : Addr} {ty : FieldType} {vs : List Value} (F : Ary Z h a ty vs) : a < h.size := by
  obtain ⟨c, A, r⟩ := F; exact A.lt
theorem Ary.eq {h : Heap} {a : Addr} {ty : FieldType} {vs vs' : List Value} (F : Ary Z h a ty vs) (q : vs = vs') : Ary Z h a ty vs' := q ▸ F
theorem Ary.set {h h' : Heap} {a : Addr} {ty : FieldType} {vs : List Value} {k : Nat} {v : Value} (F : Ary Z h a ty vs) (W : Wr h h' a k v) : Ary Z h' a ty (vs.set k v) := by
  obtain ⟨c, A, r⟩ := F
  refine ⟨_, A.same W, ?_⟩
  show c.slots.setIfInBounds k v = _
  rw [r]; simp
theorem clamp_of {j : Int32} {k : Nat} (hj : j.toInt = (k : Int)) : j.toNatClampNeg = k := by
  show j.toInt.toNat = k; omega
theorem inb {j : Int32} {k : Nat} {c : Cell} {vs : List Value} (hj : j.toInt = (k : Int)) (hc : c.slots = vs.toArray) (hk : k < vs.length) : ¬ (j < 0 ∨ c.slots.size ≤ j.toNatClampNeg) := by
  have z : (0 : Int32).toInt = 0 := rfl
  rw [clamp_of hj, hc, Int32.lt_iff_toInt_lt, z]; simp; omega
theorem lt_of_get {vs : List Value} {k : Nat} {v : Value} (h : vs[k]? = some v) : k < vs.length := (List.getElem?_eq_some_iff.mp h).1
theorem Go.newA {aty : ArrayType} {n : Int32} {k : Nat} {ty : FieldType} (w : (Cond.arrayClass ty).before a0 Z = true) (hty : newarray.typeOf aty = ty) (hn : n.toInt = (k : Int)) {cap : Nat} (hcap : k ≤ cap) (hb8 : cap * 8 ≤ 536870912) (hd : decode bytes pc = .ok (.newarray aty, 2)) (hc : cells + 1 ≤ R.cells) (hs : slots + cap ≤ R.slots) (hp : pc + 2 = pc')
    (q : ∀ (h' : Heap) (a : Addr), a = h.size → Ext h h' → Ary Z h' a ty (List.replicate k (defaultValue ty)) → Go wd l R Z y bytes maxL ret n0 K N Q h' (cells + 1) (slots + cap) pc' Ls (.ref a :: st)) : Go wd l R Z y bytes maxL ret n0 K N Q h cells slots pc Ls (.int n :: st) := by
  subst hp hty
  intro p e s0 s m args below meth c T locs hR O X eT F
  have z : (0 : Int32).toInt = 0 := rfl
  have hn0 : ¬ n < 0 := by rw [Int32.lt_iff_toInt_lt, z]; omega
  obtain ⟨T2, h2, cA, X2, e2, E2, A2, st2⟩ := RoadKit.newP X O.1 O.2.2.2.2.2.1 w eT (g := mkF m pc Ls (.int n :: st)) rfl (hb O.2.1 hd) rfl hn0 (cap := cap) (by rw [clamp_of hn]; exact hcap) hb8 hc hs
  obtain ⟨s₂, o, h1, r⟩ := q h2 _ rfl E2 ⟨_, A2, by simp [newA, clamp_of hn]⟩ p e s0 s m args below meth c T2 locs (hR.mono E2.1) O X2 e2 F
  exact ⟨s₂, o, st2 _ h1, r⟩
theorem Go.alen {a : Addr} {ty : FieldType} {vs : List Value} {z : Int32} (hA : Ary Z h a ty vs) (hz : z.toInt = (vs.length : Int)) (hd : decode bytes pc = .ok (.arraylength, 1)) (hp : pc + 1 = pc') (q : Go wd l R Z y bytes maxL ret n0 K N Q h cells slots pc' Ls (.int z :: st)) : Go wd l R Z y bytes maxL ret n0 K N Q h cells slots pc Ls (.ref a :: st) := by
  subst hp
  obtain ⟨cl, A, r⟩ := hA
  have e1 : cl.slots.size.toInt32 = z := by
    have := z.toInt_lt
    rw [r]; apply Int32.toInt_inj.mp
    rw [hz]
    have q1 : vs.toArray.size = vs.length := by simp
    rw [q1]; exact len_toInt (by omega)
  exact Go.of q fun p e s m args below meth c T locs O X eT t hr => X.arraylength O.1 (cell := cl) (by rw [eT]; exact A.1) (State.isArrayOf_alike O.2.2.2.2.2.1.alike A.2.1) (g := mkF m pc Ls (.ref a :: st)) rfl (rest := st) rfl (hb O.2.1 hd) _ (by rw [e1]; exact hr)
theorem Go.ldI {a : Addr} {vs : List Value} {j : Int32} {k : Nat} {v : Value} (hA : Ary Z h a .int vs) (hj : j.toInt = (k : Int)) (hv : vs[k]? = some v) (hd : decode bytes pc = .ok (.iaload, 1)) (hp : pc + 1 = pc') (q : Go wd l R Z y bytes maxL ret n0 K N Q h cells slots pc' Ls (v :: st)) : Go wd l R Z y bytes maxL ret n0 K N Q h cells slots pc Ls (.int j :: .ref a :: st) := by
  subst hp
  obtain ⟨cl, A, r⟩ := hA
  exact Go.of q fun p e s m args below meth c T locs O X eT t hr => X.iaload O.1 (j := j) (v := v) (by rw [eT]; exact A.1) (State.isArrayOf_alike O.2.2.2.2.2.1.alike A.2.1) A.2.2 (inb hj r (lt_of_get hv)) (by rw [clamp_of hj, r]; simpa using hv) (g := mkF m pc Ls (.int j :: .ref a :: st)) rfl rfl (hb O.2.1 hd) _ hr
theorem Go.ldJ {a : Addr} {vs : List Value} {j : Int32} {k : Nat} {v : Value} (hA : Ary Z h a .long vs) (hj : j.toInt = (k : Int)) (hv : vs[k]? = some v) (hd : decode bytes pc = .ok (.laload, 1)) (hp : pc + 1 = pc') (q : Go wd l R Z y bytes maxL ret n0 K N Q h cells slots pc' Ls (v :: st)) : Go wd l R Z y bytes maxL ret n0 K N Q h cells slots pc Ls (.int j :: .ref a :: st) := by
  subst hp
  obtain ⟨cl, A, r⟩ := hA
  exact Go.of q fun p e s m args below meth c T locs O X eT t hr => X.laload O.1 (j := j) (v := v) (by rw [eT]; exact A.1) (State.isArrayOf_alike O.2.2.2.2.2.1.alike A.2.1) A.2.2 (inb hj r (lt_of_get hv)) (by rw [clamp_of hj, r]; simpa using hv) (g := mkF m pc Ls (.int j :: .ref a :: st)) rfl rfl (hb O.2.1 hd) _ hr
theorem Go.ldC {a : Addr} {vs : List Value} {j : Int32} {k : Nat} {v : Value} (hA : Ary Z h a .char vs) (hj : j.toInt = (k : Int)) (hv : vs[k]? = some v) (hd : decode bytes pc = .ok (.caload, 1)) (hp : pc + 1 = pc') (q : Go wd l R Z y bytes maxL ret n0 K N Q h cells slots pc' Ls (v :: st)) : Go wd l R Z y bytes maxL ret n0 K N Q h cells slots pc Ls (.int j :: .ref a :: st) := by
  subst hp
  obtain ⟨cl, A, r⟩ := hA
  exact Go.of q fun p e s m args below meth c T locs O X eT t hr => X.caload O.1 (j := j) (v := v) (by rw [eT]; exact A.1) (State.isArrayOf_alike O.2.2.2.2.2.1.alike A.2.1) A.2.2 (inb hj r (lt_of_get hv)) (by rw [clamp_of hj, r]; simpa using hv) (g := mkF m pc Ls (.int j :: .ref a :: st)) rfl rfl (hb O.2.1 hd) _ hr
theorem Go.ldA {a : Addr} {ty : FieldType} {vs : List Value} {j : Int32} {k : Nat} {v : Value} (hA : Ary Z h a ty vs) (hty : ty.isReference = true) (hj : j.toInt = (k : Int)) (hv : vs[k]? = some v) (hd : decode bytes pc = .ok (.aaload, 1)) (hp : pc + 1 = pc') (q : Go wd l R Z y bytes maxL ret n0 K N Q h cells slots pc' Ls (v :: st)) : Go wd l R Z y bytes maxL ret n0 K N Q h cells slots pc Ls (.int j :: .ref a :: st) := by
  subst hp
  obtain ⟨cl, A, r⟩ := hA
  exact Go.of q fun p e s m args below meth c T locs O X eT t hr => X.aaload O.1 (j := j) (v := v) (by rw [eT]; exact A.1) (State.isArrayOf_alike O.2.2.2.2.2.1.alike A.2.1) hty A.2.2 (inb hj r (lt_of_get hv)) (by rw [clamp_of hj, r]; simpa using hv) (g := mkF m pc Ls (.int j :: .ref a :: st)) rfl rfl (hb O.2.1 hd) _ hr
theorem Go.stI {a : Addr} {vs : List Value} {j v : Int32} {k : Nat} (hA : Ary Z h a .int vs) (hj : j.toInt = (k : Int)) (hk : k < vs.length) (hd : decode bytes pc = .ok (.iastore, 1)) (ha : n0 ≤ a) (hp : pc + 1 = pc')
    (q : ∀ h', Wr h h' a k (.int v) → Ary Z h' a .int (vs.set k (.int v)) → Go wd l R Z y bytes maxL ret n0 K N Q h' cells slots pc' Ls st) : Go wd l R Z y bytes maxL ret n0 K N Q h cells slots pc Ls (.int v :: .int j :: .ref a :: st) := by
  subst hp
  have hA' := hA
  obtain ⟨cl, A, r⟩ := hA
  intro p e s0 s m args below meth c T locs hR O X eT F
  obtain ⟨T2, h2, X2, e2, W2, st2⟩ := RoadKit.stI X O.1 O.2.2.2.2.2.1 eT A (j := j) (x := v) (inb hj r hk) (g := mkF m pc Ls (.int v :: .int j :: .ref a :: st)) rfl rfl (hb O.2.1 hd)
  rw [clamp_of hj] at X2 W2
  obtain ⟨s₂, o, h1, r⟩ := q h2 W2 (hA'.set W2) p e s0 s m args below meth c T2 _ (hR.mono (Nat.le_of_eq W2.size.symm)) O X2 e2 (Fr.snoc X2 F ha)
  exact ⟨s₂, o, st2 _ h1, r⟩
theorem Go.stJ {a : Addr} {vs : List Value} {j : Int32} {v : Int64} {k : Nat} (hA : Ary Z h a .long vs) (hj : j.toInt = (k : Int)) (hk : k < vs.length) (hd : decode bytes pc = .ok (.lastore, 1)) (ha : n0 ≤ a) (hp : pc + 1 = pc')
    (q : ∀ h', Wr h h' a k (.long v) → Ary Z h' a .long (vs.set k (.long v)) → Go wd l R Z y bytes maxL ret n0 K N Q h' cells slots pc' Ls st) : Go wd l R Z y bytes maxL ret n0 K N Q h cells slots pc Ls (.long v :: .int j :: .ref a :: st) := by
  subst hp
  have hA' := hA
  obtain ⟨cl, A, r⟩ := hA
  intro p e s0 s m args below meth c T locs hR O X eT F
  obtain ⟨T2, h2, X2, e2, W2, st2⟩ := RoadKit.stJ X O.1 O.2.2.2.2.2.1 eT A (j := j) (x := v) (inb hj r hk) (g := mkF m pc Ls (.long v :: .int j :: .ref a :: st)) rfl rfl (hb O.2.1 hd)
  rw [clamp_of hj] at X2 W2
  obtain ⟨s₂, o, h1, r⟩ := q h2 W2 (hA'.set W2) p e s0 s m args below meth c T2 _ (hR.mono (Nat.le_of_eq W2.size.symm)) O X2 e2 (Fr.snoc X2 F ha)
  exact ⟨s₂, o, st2 _ h1, r⟩
theorem Go.stC {a : Addr} {vs : List Value} {j v : Int32} {k : Nat} (hA : Ary Z h a .char vs) (hj : j.toInt = (k : Int)) (hk : k < vs.length) (hd : decode bytes pc = .ok (.castore, 1)) (ha : n0 ≤ a) (hp : pc + 1 = pc')
    (q : ∀ h', Wr h h' a k (.int (nar .char v)) → Ary Z h' a .char (vs.set k (.int (nar .char v))) → Go wd l R Z y bytes maxL ret n0 K N Q h' cells slots pc' Ls st) : Go wd l R Z y bytes maxL ret n0 K N Q h cells slots pc Ls (.int v :: .int j :: .ref a :: st) := by
  subst hp
  have hA' := hA
  obtain ⟨cl, A, r⟩ := hA
  intro p e s0 s m args below meth c T locs hR O X eT F
  obtain ⟨T2, h2, X2, e2, W2, st2⟩ := RoadKit.stC X O.1 O.2.2.2.2.2.1 eT A (j := j) (x := v) (inb hj r hk) (g := mkF m pc Ls (.int v :: .int j :: .ref a :: st)) rfl rfl (hb O.2.1 hd)
  rw [clamp_of hj] at X2 W2
  obtain ⟨s₂, o, h1, r⟩ := q h2 W2 (hA'.set W2) p e s0 s m args below meth c T2 _ (hR.mono (Nat.le_of_eq W2.size.symm)) O X2 e2 (Fr.snoc X2 F ha)
  exact ⟨s₂, o, st2 _ h1, r⟩
/-! a method by its contract -/
def Mt (wd : Bool) (l : Launch) (Z : State) (y : MethodName) (bytes : ByteArray) (maxL : Nat) (ret : Option FieldType) (rm : Room) (n0 : Nat) (Q : Option Value → Heap → Prop) (h : Heap) (as' : Array Value) : Prop :=
  MetFree l y (head1 [Cond.code y bytes maxL ret] rm) (fun a U => a = as' ∧ Z.Warmed39 U.vm ∧ U.heap = h) (fun _ _ _ _ _ => True) (fun _ U o U' => ∃ v L, o = .returned v ∧ ((Q v U'.heap ∧ h.size ≤ U'.heap.size) ∧ Fr n0 L) ∧ GoEnd wd U o U' L rm.cells rm.slots)
theorem met_go {rm : Room} {ws : List Jvm.Cond} {as' : Array Value} (hp : plainName y.cls = true) (hef : ∀ m, entryFrame m as' maxL = mkF m 0 Ls []) (g : Go wd l rm Z y bytes maxL ret n0 K N Q h 0 0 0 Ls []) :
    MetFree l y (head1 (Jvm.Cond.code y bytes maxL ret :: ws) rm) (fun a U => a = as' ∧ Z.Warmed39 U.vm ∧ U.heap = h) (fun _ _ _ _ _ => True) (fun _ U o U' => ∃ v L, o = .returned v ∧ ((Q v U'.heap ∧ h.size ≤ U'.heap.size) ∧ Fr n0 L) ∧ GoEnd wd U o U' L K N) := by
  refine MetFree.of_bodySF (plainFor_of_name hp) hisR ?_
  intro p e s m args below meth c s₁ Bd hml0 hP hK
  obtain ⟨rfl, hZ, hh⟩ := hP
  have O : Own Z y bytes maxL ret p s m meth c := ⟨Bd.exec, Bd.bytes, hml0, findClass_of_methodNamed Bd.named, (name_of_methodNamed Bd.named Bd.method).1, hZ, Bd.returns, Bd.notSynchronized⟩
  have X0 : Stand p l e rm s m args below meth c s₁ [] 0 0 := Stand.of_body Bd
  have e0 : s₁.heap = h := by rw [← hh, Bd.state]; rfl
  obtain ⟨s₂, o, h1, h2, h3, v, L, h4, h5, h6⟩ := g p e s s m args below meth c s₁ [] (GoRel.refl _ _ _) O X0 e0 (Fr.nil n0)
  exact ⟨s₂, o, castTop (hef m) h1, h2, h3, v, L, h4, ⟨⟨h5.1, hh ▸ h6.grow⟩, h5.2⟩, h6⟩
theorem Mt.go {rm : Room} {as' : Array Value} (hp : plainName y.cls = true) (hef : ∀ m, entryFrame m as' maxL = mkF m 0 Ls []) (g : Go wd l rm Z y bytes maxL ret n0 rm.cells rm.slots Q h 0 0 0 Ls []) : Mt wd l Z y bytes maxL ret rm n0 Q h as' := met_go (ws := []) hp hef g
variable {y2 : MethodName} {bytes2 : ByteArray} {maxL2 : Nat} {ret2 : Option FieldType} {rm : Room} {i W : Nat} {as' : Array Value} {argsL rest : List Value} {Q2 : Option Value → Heap → Prop} {ps : List FieldType} {r2 : Option FieldType}
theorem Go.callS (w1 : (Cond.methodLink y.cls i y2).before a0 Z = true) (w2 : (Cond.static y2).before a0 Z = true) (w3 : (Cond.initialized y2.cls).before a0 Z = true) (w4 : (Cond.code y2 bytes2 maxL2 ret2).before a0 Z = true) (hy : y2.cls ≠ "java/lang/invoke/MethodHandle" ∧ y2.cls ≠ "java/lang/invoke/VarHandle")
    (hM : Mt false l Z y2 bytes2 maxL2 ret2 rm n0 Q2 h argsL.toArray) (hd : decode bytes pc = .ok (.invokestatic i, 3)) (hz : Ls.size = maxL) (hpd : parseMethodDescriptor y2.desc = some ⟨ps, r2⟩) (hlen : argsL.length = ps.length) (hst : st = argsL.reverse ++ rest)
    (hW : (rest.map fun v => v.category).sum ≤ W) (hf : rm.frames + 1 ≤ R.frames) (hl : W + (maxL2 + 11) + rm.locals ≤ R.locals) (hc : cells + rm.cells ≤ R.cells) (hs : slots + rm.slots ≤ R.slots) (hp : pc + 3 = pc')
    (q : ∀ v h', Q2 v h' → Go wd l R Z y bytes maxL ret n0 K N Q h' (cells + rm.cells) (slots + rm.slots) pc' Ls (v.toList ++ rest)) : Go wd l R Z y bytes maxL ret n0 K N Q h cells slots pc Ls st := by
  subst hp hst
  intro p e s0 s m args below meth c T locs hR O X eT F
  obtain ⟨v, vm₁, ⟨T2, L2, k2, n2⟩, -, X2, ⟨Lc, hQ, l2, y2, z2⟩, st2⟩ := Jvm.LawKit.callS X O.1 (y := y2) O.2.2.2.1 (mvT O.2.2.2.2.2.1 w1) (mvT O.2.2.2.2.2.1 w2) (mvT O.2.2.2.2.2.1 w3) (mvT O.2.2.2.2.2.1 w4) hy
    (backOf (W := W) (Q := fun v h' L => (Q2 v h' ∧ h.size ≤ h'.size) ∧ Fr n0 L) hM O.2.2.2.2.2.1 w4 w3 hf hl) (g := mkF m pc Ls (argsL.reverse ++ rest)) rfl (hz.trans O.2.2.1.symm) (argsL := argsL) (rest := rest) (lenOf hpd hlen) rfl (by show 2 * 0 + _ ≤ _; omega) (hb O.2.1 hd) (fun _ _ => ⟨rfl, eT, hc, hs⟩)
  dsimp only [Pt.U, Pt.locs, Pt.cells, Pt.slots] at X2 l2 y2 z2 st2 hQ
  subst l2 y2 z2
  obtain ⟨s₂, o, h1, r⟩ := q v T2.heap hQ.1.1 p e s0 s m args below meth c T2 _ (hR.mono hQ.1.2) O X2 rfl (Fr.app F hQ.2)
  exact ⟨s₂, o, st2 _ h1, r⟩
theorem Go.callN {a : Addr} (hy1 : y2.name = "<init>") (w1 : (Cond.methodLink y.cls i y2).before a0 Z = true) (w2 : (Cond.instanceMethod y2).before a0 Z = true) (w3 : (Cond.initialized y2.cls).before a0 Z = true) (w4 : (Cond.code y2 bytes2 maxL2 none).before a0 Z = true) (hy : y2.cls ≠ "java/lang/invoke/MethodHandle" ∧ y2.cls ≠ "java/lang/invoke/VarHandle")
    (hM : Mt false l Z y2 bytes2 maxL2 none rm n0 Q2 h (.ref a :: argsL).toArray) (hd : decode bytes pc = .ok (.invokespecial i, 3)) (hz : Ls.size = maxL) (hpd : parseMethodDescriptor y2.desc = some ⟨ps, r2⟩) (hlen : argsL.length = ps.length) (hst : st = argsL.reverse ++ .ref a :: rest)
    (hW : (rest.map fun v => v.category).sum ≤ W) (hf : rm.frames + 1 ≤ R.frames) (hl : W + (maxL2 + 11) + rm.locals ≤ R.locals) (hc : cells + rm.cells ≤ R.cells) (hs : slots + rm.slots ≤ R.slots) (hp : pc + 3 = pc')
    (q : ∀ v h', Q2 v h' → Go wd l R Z y bytes maxL ret n0 K N Q h' (cells + rm.cells) (slots + rm.slots) pc' Ls (v.toList ++ rest)) : Go wd l R Z y bytes maxL ret n0 K N Q h cells slots pc Ls st := by
  subst hp hst
  intro p e s0 s m args below meth c T locs hR O X eT F
  obtain ⟨v, vm₁, ⟨T2, L2, k2, n2⟩, -, X2, ⟨Lc, hQ, l2, y2, z2⟩, st2⟩ := X.specialBack O.1 (y := y2) hy1 O.2.2.2.1 (mvT O.2.2.2.2.2.1 w1) (mvT O.2.2.2.2.2.1 w2) (mvT O.2.2.2.2.2.1 w4) hy
    (backOf (W := W) (Q := fun v h' L => (Q2 v h' ∧ h.size ≤ h'.size) ∧ Fr n0 L) hM O.2.2.2.2.2.1 w4 w3 hf hl) (g := mkF m pc Ls (argsL.reverse ++ .ref a :: rest)) rfl (hz.trans O.2.2.1.symm) (Steps.refl _) (a := a) (argsL := argsL) (rest := rest) (lenOf hpd hlen) rfl (by show 2 * 0 + _ ≤ _; omega) (hb O.2.1 hd) (fun _ _ => ⟨rfl, eT, hc, hs⟩)
  dsimp only [Pt.U, Pt.locs, Pt.cells, Pt.slots] at X2 l2 y2 z2 st2 hQ
  subst l2 y2 z2
  obtain ⟨s₂, o, h1, r⟩ := q v T2.heap hQ.1.1 p e s0 s m args below meth c T2 _ (hR.mono hQ.1.2) O X2 rfl (Fr.app F hQ.2)
  exact ⟨s₂, o, st2.trans h1, r⟩
theorem Go.callV {a : Addr} {C : String} (w1 : (Cond.methodLink y.cls i y2).before a0 Z = true) (w2 : (Cond.declares y2).before a0 Z = true) (w5 : (Cond.selects C y2 y2).before a0 Z = true) (w6 : (Cond.instanceMethod y2).before a0 Z = true) (w3 : (Cond.initialized y2.cls).before a0 Z = true) (w4 : (Cond.code y2 bytes2 maxL2 ret2).before a0 Z = true)
    (hy : y2.cls ≠ "java/lang/invoke/MethodHandle" ∧ y2.cls ≠ "java/lang/invoke/VarHandle") (hE : Exa Z h a C)
    (hM : Mt false l Z y2 bytes2 maxL2 ret2 rm n0 Q2 h (.ref a :: argsL).toArray) (hd : decode bytes pc = .ok (.invokevirtual i, 3)) (hz : Ls.size = maxL) (hpd : parseMethodDescriptor y2.desc = some ⟨ps, r2⟩) (hlen : argsL.length = ps.length) (hst : st = argsL.reverse ++ .ref a :: rest)
    (hW : (rest.map fun v => v.category).sum ≤ W) (hf : rm.frames + 1 ≤ R.frames) (hl : W + (maxL2 + 11) + rm.locals ≤ R.locals) (hc : cells + rm.cells ≤ R.cells) (hs : slots + rm.slots ≤ R.slots) (hp : pc + 3 = pc')
    (q : ∀ v h', Q2 v h' → Go wd l R Z y bytes maxL ret n0 K N Q h' (cells + rm.cells) (slots + rm.slots) pc' Ls (v.toList ++ rest)) : Go wd l R Z y bytes maxL ret n0 K N Q h cells slots pc Ls st := by
  subst hp hst
  intro p e s0 s m args below meth c T locs hR O X eT F
  obtain ⟨cq, kq, qa, qb, qc⟩ := isOf (T := T) O.2.2.2.2.2.1 eT hE
  obtain ⟨v, vm₁, ⟨T2, L2, k2, n2⟩, -, X2, ⟨Lc, hQ, l2, y2, z2⟩, st2⟩ := X.virtualBack O.1 (y := y2) (z := y2) O.2.2.2.1 (mvT O.2.2.2.2.2.1 w1) (mvT O.2.2.2.2.2.1 w2) (notFace_of_selects (args := #[]) (mvT O.2.2.2.2.2.1 w5)) (mvT O.2.2.2.2.2.1 w5) (mvT O.2.2.2.2.2.1 w6) hy
    (backOf (W := W) (Q := fun v h' L => (Q2 v h' ∧ h.size ≤ h'.size) ∧ Fr n0 L) hM O.2.2.2.2.2.1 w4 w3 hf hl) qa qc (g := mkF m pc Ls (argsL.reverse ++ .ref a :: rest)) rfl (hz.trans O.2.2.1.symm) (Steps.refl _) (argsL := argsL) (rest := rest) (lenOf hpd hlen) rfl (by show 2 * 0 + _ ≤ _; omega) (hb O.2.1 hd) (fun _ _ => ⟨rfl, eT, hc, hs⟩)
  dsimp only [Pt.U, Pt.locs, Pt.cells, Pt.slots] at X2 l2 y2 z2 st2 hQ
  subst l2 y2 z2
  obtain ⟨s₂, o, h1, r⟩ := q v T2.heap hQ.1.1 p e s0 s m args below meth c T2 _ (hR.mono hQ.1.2) O X2 rfl (Fr.app F hQ.2)
  exact ⟨s₂, o, st2.trans h1, r⟩
end GoLaws
end Jvm.RoadKit
namespace Jvm.Pilot.@@N@@
open Jvm Jvm.ClassFile Sem Op Lib Jvm.Free Jvm.Stand Jvm.LawKit Jvm.RoadKit Bundle Jvm.Pilot.@@N@@.Jvm.D
theorem d1_0 : decode prog_22_method_1_code 0 = .ok (.aload_n 0, 1) := by decide +kernel
theorem d1_1 : decode prog_22_method_1_code 1 = .ok (.invokespecial 1, 3) := by decide +kernel
theorem d1_4 : decode prog_22_method_1_code 4 = .ok (.aload_n 0, 1) := by decide +kernel
theorem d1_5 : decode prog_22_method_1_code 5 = .ok (.bipush 8, 2) := by decide +kernel
theorem d1_7 : decode prog_22_method_1_code 7 = .ok (.newarray .int, 2) := by decide +kernel
theorem d1_9 : decode prog_22_method_1_code 9 = .ok (.putfield 7, 3) := by decide +kernel
theorem d1_12 : decode prog_22_method_1_code 12 = .ok (.return_, 1) := by decide +kernel
theorem d3_0 : decode prog_22_method_4_code 0 = .ok (.aload_n 0, 1) := by decide +kernel
theorem d3_1 : decode prog_22_method_4_code 1 = .ok (.getfield 13, 3) := by decide +kernel
theorem d3_4 : decode prog_22_method_4_code 4 = .ok (.aload_n 0, 1) := by decide +kernel
theorem d3_5 : decode prog_22_method_4_code 5 = .ok (.getfield 7, 3) := by decide +kernel
theorem d3_8 : decode prog_22_method_4_code 8 = .ok (.arraylength, 1) := by decide +kernel
theorem d3_9 : decode prog_22_method_4_code 9 = .ok (.if_icmp .ne 20, 3) := by decide +kernel
theorem d3_29 : decode prog_22_method_4_code 29 = .ok (.aload_n 0, 1) := by decide +kernel
theorem d3_30 : decode prog_22_method_4_code 30 = .ok (.getfield 7, 3) := by decide +kernel
theorem d3_33 : decode prog_22_method_4_code 33 = .ok (.aload_n 0, 1) := by decide +kernel
theorem d3_34 : decode prog_22_method_4_code 34 = .ok (.dup, 1) := by decide +kernel
theorem d3_35 : decode prog_22_method_4_code 35 = .ok (.getfield 13, 3) := by decide +kernel
theorem d3_38 : decode prog_22_method_4_code 38 = .ok (.dup_x1, 1) := by decide +kernel
theorem d3_39 : decode prog_22_method_4_code 39 = .ok (.iconst 1, 1) := by decide +kernel
theorem d3_40 : decode prog_22_method_4_code 40 = .ok (.iadd, 1) := by decide +kernel
theorem d3_41 : decode prog_22_method_4_code 41 = .ok (.putfield 13, 3) := by decide +kernel
theorem d3_44 : decode prog_22_method_4_code 44 = .ok (.iload_n 1, 1) := by decide +kernel
theorem d3_45 : decode prog_22_method_4_code 45 = .ok (.iastore, 1) := by decide +kernel
theorem d3_46 : decode prog_22_method_4_code 46 = .ok (.return_, 1) := by decide +kernel
theorem d4_0 : decode prog_22_method_5_code 0 = .ok (.getstatic 17, 3) := by decide +kernel
theorem d4_3 : decode prog_22_method_5_code 3 = .ok (.ifCond .ne 18, 3) := by decide +kernel
theorem d4_21 : decode prog_22_method_5_code 21 = .ok (.aload_n 0, 1) := by decide +kernel
theorem d4_22 : decode prog_22_method_5_code 22 = .ok (.getfield 7, 3) := by decide +kernel
theorem d4_25 : decode prog_22_method_5_code 25 = .ok (.aload_n 0, 1) := by decide +kernel
theorem d4_26 : decode prog_22_method_5_code 26 = .ok (.dup, 1) := by decide +kernel
theorem d4_27 : decode prog_22_method_5_code 27 = .ok (.getfield 13, 3) := by decide +kernel
theorem d4_30 : decode prog_22_method_5_code 30 = .ok (.iconst 1, 1) := by decide +kernel
theorem d4_31 : decode prog_22_method_5_code 31 = .ok (.isub, 1) := by decide +kernel
theorem d4_32 : decode prog_22_method_5_code 32 = .ok (.dup_x1, 1) := by decide +kernel
theorem d4_33 : decode prog_22_method_5_code 33 = .ok (.putfield 13, 3) := by decide +kernel
theorem d4_36 : decode prog_22_method_5_code 36 = .ok (.iaload, 1) := by decide +kernel
theorem d4_37 : decode prog_22_method_5_code 37 = .ok (.ireturn, 1) := by decide +kernel
theorem d5_0 : decode prog_22_method_2_code 0 = .ok (.aload_n 0, 1) := by decide +kernel
theorem d5_1 : decode prog_22_method_2_code 1 = .ok (.getfield 13, 3) := by decide +kernel
theorem d5_4 : decode prog_22_method_2_code 4 = .ok (.ireturn, 1) := by decide +kernel
theorem d6_0 : decode prog_22_method_3_code 0 = .ok (.getstatic 17, 3) := by decide +kernel
theorem d6_3 : decode prog_22_method_3_code 3 = .ok (.ifCond .ne 24, 3) := by decide +kernel
theorem d6_27 : decode prog_22_method_3_code 27 = .ok (.aload_n 0, 1) := by decide +kernel
theorem d6_28 : decode prog_22_method_3_code 28 = .ok (.getfield 7, 3) := by decide +kernel
theorem d6_31 : decode prog_22_method_3_code 31 = .ok (.iload_n 1, 1) := by decide +kernel
theorem d6_32 : decode prog_22_method_3_code 32 = .ok (.iaload, 1) := by decide +kernel
theorem d6_33 : decode prog_22_method_3_code 33 = .ok (.ireturn, 1) := by decide +kernel
theorem pd0 : parseMethodDescriptor "()V" = some ⟨[], none⟩ := by decide +kernel
theorem pd1 : parseMethodDescriptor "(I)V" = some ⟨[.int], none⟩ := by decide +kernel
theorem pd2 : parseMethodDescriptor "()I" = some ⟨[], (some .int)⟩ := by decide +kernel
theorem pd3 : parseMethodDescriptor "(I)I" = some ⟨[.int], (some .int)⟩ := by decide +kernel
theorem pn0 : plainName "com/example/forward_planner/forwardplanner/heuristic/IntList" = true := by first | (simp [plainName, overriddenIn]; done) | decide +kernel
theorem pn1 : plainName "com/example/forward_planner/forwardplanner/heuristic/IntListRemoveLastPinLaw" = true := by first | (simp [plainName, overriddenIn]; done) | decide +kernel

theorem own_eqI {args : Array Value} {s : State} {t : Term} {n : Int32} (h : (Jvm.Cond.eq t (.int n)).value args s none s [] = some true) : t.eval args s none [] s = some (.int n) := by
  obtain ⟨x, y, e1, e2, k, k'⟩ := cmp_v (Or.inl h)
  obtain rfl : y = .int n := (Option.some.inj (e2.symm.trans (Term.int_eval n)))
  obtain ⟨z, rfl⟩ : ∃ z, x = .int z := k'
  have q : (Jvm.Cond.eq t (.int n)).value args s none s [] = some (decide (z = n)) := by simp [Cond.value, e1, e2]
  rw [q] at h
  rw [e1, of_decide_eq_true (Option.some.inj h)]

set_option maxRecDepth 65536 in
set_option maxHeartbeats 40000000 in
theorem m_i (l : Launch) (Z : State) (a0 : Array Value) (hw : ∀ d ∈ tables_1, d.before a0 Z = true) (a : Addr) (h0 : Heap) (n0 : Nat) (z0 : n0 ≤ h0.size) (hE : Exa Z h0 a "com/example/forward_planner/forwardplanner/heuristic/IntList") (hF : Fld Z h0 a "com/example/forward_planner/forwardplanner/heuristic/IntList" "elements" "[I" .null) (hG : Fld Z h0 a "com/example/forward_planner/forwardplanner/heuristic/IntList" "size" "I" (.int (0 : Int32))) (hg : n0 ≤ a) : Mt false l Z (⟨"com/example/forward_planner/forwardplanner/heuristic/IntList", "<init>", "()V"⟩ : MethodName) prog_22_method_1_code 1 none ({ frames := 1, cells := 1, slots := 8, locals := 12 } : Room) n0 (fun v h => v = none ∧ ∃ e, Keep h0 h [a] ∧ Exa Z h a "com/example/forward_planner/forwardplanner/heuristic/IntList" ∧ Fld Z h a "com/example/forward_planner/forwardplanner/heuristic/IntList" "elements" "[I" (.ref e) ∧ Fld Z h a "com/example/forward_planner/forwardplanner/heuristic/IntList" "size" "I" (.int (0 : Int32)) ∧ Ary Z h e .int [.int (0 : Int32), .int (0 : Int32), .int (0 : Int32), .int (0 : Int32), .int (0 : Int32), .int (0 : Int32), .int (0 : Int32), .int (0 : Int32)] ∧ h0.size ≤ e ∧ e < h.size) h0 #[(.ref a)] := by
  refine Mt.go (Ls := #[.val (.ref a)]) pn0 (fun m => by first | rfl | (simp [entryFrame, mkF, argsToLocals, Value.category]; done)) ?_
  show (Go false l ({ frames := 1, cells := 1, slots := 8, locals := 12 } : Room) Z (⟨"com/example/forward_planner/forwardplanner/heuristic/IntList", "<init>", "()V"⟩ : MethodName) prog_22_method_1_code 1 none n0 1 8 (fun v h => v = none ∧ ∃ e, Keep h0 h [a] ∧ Exa Z h a "com/example/forward_planner/forwardplanner/heuristic/IntList" ∧ Fld Z h a "com/example/forward_planner/forwardplanner/heuristic/IntList" "elements" "[I" (.ref e) ∧ Fld Z h a "com/example/forward_planner/forwardplanner/heuristic/IntList" "size" "I" (.int (0 : Int32)) ∧ Ary Z h e .int [.int (0 : Int32), .int (0 : Int32), .int (0 : Int32), .int (0 : Int32), .int (0 : Int32), .int (0 : Int32), .int (0 : Int32), .int (0 : Int32)] ∧ h0.size ≤ e ∧ e < h.size)) h0 0 0 0 #[.val (.ref a)] []
  refine Go.aloadN (pc' := 1) d1_0 rfl rfl rfl ?_
  refine Go.initO (pc' := 4) (W := 0) (hw _ (List.mem_of_getElem? (i := 6) rfl)) (hw _ (List.mem_of_getElem? (i := 7) rfl)) (hw _ (List.mem_of_getElem? (i := 8) rfl)) d1_1 rfl (by decide) (Nat.le_of_eq rfl) (by decide) rfl ?_
  refine Go.aloadN (pc' := 5) d1_4 rfl rfl rfl ?_
  refine Go.bipush (pc' := 7) (v := (8 : Int32)) d1_5 rfl rfl ?_
  refine Go.newA (pc' := 9) (k := 8) (ty := .int) (cap := 8) (hw _ (List.mem_of_getElem? (i := 9) rfl)) rfl rfl (by decide) (by decide) d1_7 (by decide) (by decide) rfl ?_
  intro h_1 a_2 q_3 E_4 A_5
  have n_7 : a ≠ a_2 := Nat.ne_of_lt (q_3 ▸ hE.lt)
  have g_8 : n0 ≤ a_2 := q_3 ▸ z0
  have g_9 : h0.size ≤ a_2 := q_3 ▸ (Nat.le_refl _)
  have f_10 : Exa Z h_1 a "com/example/forward_planner/forwardplanner/heuristic/IntList" := hE.sm (Sm.ext E_4)
  have f_11 : Fld Z h_1 a "com/example/forward_planner/forwardplanner/heuristic/IntList" "elements" "[I" .null := hF.sm (Sm.ext E_4)
  have f_12 : Fld Z h_1 a "com/example/forward_planner/forwardplanner/heuristic/IntList" "size" "I" (.int (0 : Int32)) := hG.sm (Sm.ext E_4)
  have t_13 : a < h_1.size := Nat.lt_of_lt_of_le hE.lt E_4.1
  have z_14 : n0 ≤ h_1.size := Nat.le_trans z0 E_4.1
  have b_15 : h0.size ≤ h_1.size := Nat.le_trans (Nat.le_refl _) E_4.1
  have K_16 : Keep h0 h_1 [a] := (Keep.refl _ _).ext E_4
  have t_17 : a_2 < h_1.size := A_5.lt
  change Ary Z h_1 a_2 .int [(.int (0 : Int32)), (.int (0 : Int32)), (.int (0 : Int32)), (.int (0 : Int32)), (.int (0 : Int32)), (.int (0 : Int32)), (.int (0 : Int32)), (.int (0 : Int32))] at A_5
  refine Go.putF (pc' := 12) (ty := (.array .int)) (hw _ (List.mem_of_getElem? (i := 10) rfl)) f_11 f_10 (Or.inl (hw _ (List.mem_of_getElem? (i := 11) rfl))) (hw _ (List.mem_of_getElem? (i := 1) rfl)) (by decide) rfl rfl d1_9 hg rfl ?_
  intro h_18 W_19
  have f_20 : Exa Z h_18 a "com/example/forward_planner/forwardplanner/heuristic/IntList" := Exa.wr W_19 f_10
  have f_21 : Ary Z h_18 a_2 .int [(.int (0 : Int32)), (.int (0 : Int32)), (.int (0 : Int32)), (.int (0 : Int32)), (.int (0 : Int32)), (.int (0 : Int32)), (.int (0 : Int32)), (.int (0 : Int32))] := A_5.sm (Sm.wr W_19 n_7.symm)
  have t_22 : a < h_18.size := Nat.lt_of_lt_of_le t_13 (Nat.le_of_eq W_19.size.symm)
  have t_23 : a_2 < h_18.size := Nat.lt_of_lt_of_le t_17 (Nat.le_of_eq W_19.size.symm)
  have z_24 : n0 ≤ h_18.size := Nat.le_trans z_14 (Nat.le_of_eq W_19.size.symm)
  have b_25 : h0.size ≤ h_18.size := Nat.le_trans b_15 (Nat.le_of_eq W_19.size.symm)
  have K_26 : Keep h0 h_18 [a] := K_16.wr W_19 (Or.inl (List.mem_of_getElem? (i := 0) rfl))
  have f_27 : Fld Z h_18 a "com/example/forward_planner/forwardplanner/heuristic/IntList" "elements" "[I" (.ref a_2) := Fld.same W_19 f_11
  have f_28 : Fld Z h_18 a "com/example/forward_planner/forwardplanner/heuristic/IntList" "size" "I" (.int (0 : Int32)) := Fld.other W_19 f_12 (Or.inr (slot_ne (Or.inl (hw _ (List.mem_of_getElem? (i := 18) rfl))) (Or.inl (hw _ (List.mem_of_getElem? (i := 11) rfl))) (by decide) (t := .int) (t' := (.array .int)) (by decide) (by decide)))
  exact Go.ret0 d1_12 rfl ⟨rfl, a_2, K_26, f_20, f_27, f_28, f_21, g_9, t_23⟩ (by decide) (by decide)
set_option maxRecDepth 65536 in
set_option maxHeartbeats 40000000 in
theorem m_a (l : Launch) (Z : State) (a0 : Array Value) (hw : ∀ d ∈ tables_1, d.before a0 Z = true) (a e : Addr) (x n : Int32) (k : Nat) (vs : List Value) (h0 : Heap) (n0 : Nat) (z0 : n0 ≤ h0.size) (hE : Exa Z h0 a "com/example/forward_planner/forwardplanner/heuristic/IntList") (hF : Fld Z h0 a "com/example/forward_planner/forwardplanner/heuristic/IntList" "elements" "[I" (.ref e)) (hG : Fld Z h0 a "com/example/forward_planner/forwardplanner/heuristic/IntList" "size" "I" (.int n)) (hA : Ary Z h0 e .int vs) (hk : n.toInt = (k : Int)) (hk8 : k < 8) (hv : vs.length = 8) (hne : a ≠ e) (hg : n0 ≤ a) (hg2 : n0 ≤ e) : Mt false l Z (⟨"com/example/forward_planner/forwardplanner/heuristic/IntList", "add", "(I)V"⟩ : MethodName) prog_22_method_4_code 2 none ({ frames := 0, cells := 0, slots := 0, locals := 0 } : Room) n0 (fun v h => v = none ∧ Keep h0 h [a, e] ∧ Exa Z h a "com/example/forward_planner/forwardplanner/heuristic/IntList" ∧ Fld Z h a "com/example/forward_planner/forwardplanner/heuristic/IntList" "elements" "[I" (.ref e) ∧ Fld Z h a "com/example/forward_planner/forwardplanner/heuristic/IntList" "size" "I" (.int (n + 1)) ∧ Ary Z h e .int (vs.set k (.int x))) h0 #[(.ref a), (.int x)] := by
  refine Mt.go (Ls := #[.val (.ref a), .val (.int x)]) pn0 (fun m => by first | rfl | (simp [entryFrame, mkF, argsToLocals, Value.category]; done)) ?_
  show (Go false l ({ frames := 0, cells := 0, slots := 0, locals := 0 } : Room) Z (⟨"com/example/forward_planner/forwardplanner/heuristic/IntList", "add", "(I)V"⟩ : MethodName) prog_22_method_4_code 2 none n0 0 0 (fun v h => v = none ∧ Keep h0 h [a, e] ∧ Exa Z h a "com/example/forward_planner/forwardplanner/heuristic/IntList" ∧ Fld Z h a "com/example/forward_planner/forwardplanner/heuristic/IntList" "elements" "[I" (.ref e) ∧ Fld Z h a "com/example/forward_planner/forwardplanner/heuristic/IntList" "size" "I" (.int (n + 1)) ∧ Ary Z h e .int (vs.set k (.int x)))) h0 0 0 0 #[.val (.ref a), .val (.int x)] []
  refine Go.aloadN (pc' := 1) d3_0 rfl rfl rfl ?_
  refine Go.getF (pc' := 4) (hw _ (List.mem_of_getElem? (i := 17) rfl)) hG d3_1 rfl ?_
  refine Go.aloadN (pc' := 5) d3_4 rfl rfl rfl ?_
  refine Go.getF (pc' := 8) (hw _ (List.mem_of_getElem? (i := 10) rfl)) hF d3_5 rfl ?_
  refine Go.alen (pc' := 9) (z := (8 : Int32)) hA (by rw [hv]; rfl) d3_8 rfl ?_
  refine Go.icmp (pc1 := 29) (pc2 := 12) d3_9 (by decide) (by decide) rfl (fun (c_29 : n.toInt ≠ (8 : Int)) => ?_) (fun (c_29 : n.toInt = (8 : Int)) => ?_)
  rotate_left
  · exfalso; omega
  refine Go.aloadN (pc' := 30) d3_29 rfl rfl rfl ?_
  refine Go.getF (pc' := 33) (hw _ (List.mem_of_getElem? (i := 10) rfl)) hF d3_30 rfl ?_
  refine Go.aloadN (pc' := 34) d3_33 rfl rfl rfl ?_
  refine Go.dup (pc' := 35) d3_34 rfl rfl ?_
  refine Go.getF (pc' := 38) (hw _ (List.mem_of_getElem? (i := 17) rfl)) hG d3_35 rfl ?_
  refine Go.dupX1 (pc' := 39) d3_38 rfl rfl rfl ?_
  refine Go.iconst (pc' := 40) (v := (1 : Int32)) d3_39 rfl rfl ?_
  refine Go.iadd (pc' := 41) d3_40 rfl ?_
  refine Go.putF (pc' := 44) (ty := .int) (hw _ (List.mem_of_getElem? (i := 17) rfl)) hG hE (Or.inl (hw _ (List.mem_of_getElem? (i := 18) rfl))) (hw _ (List.mem_of_getElem? (i := 1) rfl)) (by decide) rfl rfl d3_41 hg rfl ?_
  intro h_30 W_31
  have f_32 : Exa Z h_30 a "com/example/forward_planner/forwardplanner/heuristic/IntList" := Exa.wr W_31 hE
  have f_33 : Ary Z h_30 e .int vs := hA.sm (Sm.wr W_31 hne.symm)
  have t_34 : a < h_30.size := Nat.lt_of_lt_of_le hE.lt (Nat.le_of_eq W_31.size.symm)
  have t_35 : e < h_30.size := Nat.lt_of_lt_of_le hA.lt (Nat.le_of_eq W_31.size.symm)
  have z_36 : n0 ≤ h_30.size := Nat.le_trans z0 (Nat.le_of_eq W_31.size.symm)
  have b_37 : h0.size ≤ h_30.size := Nat.le_trans (Nat.le_refl _) (Nat.le_of_eq W_31.size.symm)
  have K_38 : Keep h0 h_30 [a, e] := (Keep.refl _ _).wr W_31 (Or.inl (List.mem_of_getElem? (i := 0) rfl))
  have f_39 : Fld Z h_30 a "com/example/forward_planner/forwardplanner/heuristic/IntList" "elements" "[I" (.ref e) := Fld.other W_31 hF (Or.inr (slot_ne (Or.inl (hw _ (List.mem_of_getElem? (i := 11) rfl))) (Or.inl (hw _ (List.mem_of_getElem? (i := 18) rfl))) (by decide) (t := (.array .int)) (t' := .int) (by decide) (by decide)))
  have f_40 : Fld Z h_30 a "com/example/forward_planner/forwardplanner/heuristic/IntList" "size" "I" (.int (n + (1 : Int32))) := Fld.same W_31 hG
  refine Go.iloadN (pc' := 45) d3_44 rfl rfl ?_
  refine Go.stI (pc' := 46) (k := k) f_33 hk (by omega) d3_45 hg2 rfl ?_
  intro h_41 W_42 A_43
  have f_44 : Exa Z h_41 a "com/example/forward_planner/forwardplanner/heuristic/IntList" := f_32.sm (Sm.wr W_42 hne)
  have f_45 : Fld Z h_41 a "com/example/forward_planner/forwardplanner/heuristic/IntList" "elements" "[I" (.ref e) := f_39.sm (Sm.wr W_42 hne)
  have f_46 : Fld Z h_41 a "com/example/forward_planner/forwardplanner/heuristic/IntList" "size" "I" (.int (n + (1 : Int32))) := f_40.sm (Sm.wr W_42 hne)
  have t_47 : a < h_41.size := Nat.lt_of_lt_of_le t_34 (Nat.le_of_eq W_42.size.symm)
  have t_48 : e < h_41.size := Nat.lt_of_lt_of_le t_35 (Nat.le_of_eq W_42.size.symm)
  have z_49 : n0 ≤ h_41.size := Nat.le_trans z_36 (Nat.le_of_eq W_42.size.symm)
  have b_50 : h0.size ≤ h_41.size := Nat.le_trans b_37 (Nat.le_of_eq W_42.size.symm)
  have K_51 : Keep h0 h_41 [a, e] := K_38.wr W_42 (Or.inl (List.mem_of_getElem? (i := 1) rfl))
  exact Go.ret0 d3_46 rfl ⟨rfl, K_51, f_44, f_45, f_46, A_43⟩ (by decide) (by decide)
set_option maxRecDepth 65536 in
set_option maxHeartbeats 40000000 in
theorem m_r (l : Launch) (Z : State) (a0 : Array Value) (hw : ∀ d ∈ tables_1, d.before a0 Z = true) (a e : Addr) (n x : Int32) (k : Nat) (vs : List Value) (h0 : Heap) (n0 : Nat) (z0 : n0 ≤ h0.size) (hE : Exa Z h0 a "com/example/forward_planner/forwardplanner/heuristic/IntList") (hF : Fld Z h0 a "com/example/forward_planner/forwardplanner/heuristic/IntList" "elements" "[I" (.ref e)) (hG : Fld Z h0 a "com/example/forward_planner/forwardplanner/heuristic/IntList" "size" "I" (.int n)) (hA : Ary Z h0 e .int vs) (hS : Sta Z h0 "com/example/forward_planner/forwardplanner/heuristic/IntList" "$assertionsDisabled" "Z" (.int (1 : Int32))) (hk : n.toInt = (k : Int) + 1) (hx : vs[k]? = some (.int x)) (hne : a ≠ e) (hg : n0 ≤ a) (hg2 : n0 ≤ e) : Mt false l Z (⟨"com/example/forward_planner/forwardplanner/heuristic/IntList", "removeLast", "()I"⟩ : MethodName) prog_22_method_5_code 1 (some .int) ({ frames := 0, cells := 0, slots := 0, locals := 0 } : Room) n0 (fun v h => v = some (.int x) ∧ Keep h0 h [a] ∧ Exa Z h a "com/example/forward_planner/forwardplanner/heuristic/IntList" ∧ Fld Z h a "com/example/forward_planner/forwardplanner/heuristic/IntList" "elements" "[I" (.ref e) ∧ Fld Z h a "com/example/forward_planner/forwardplanner/heuristic/IntList" "size" "I" (.int (n - 1)) ∧ Ary Z h e .int vs) h0 #[(.ref a)] := by
  refine Mt.go (Ls := #[.val (.ref a)]) pn0 (fun m => by first | rfl | (simp [entryFrame, mkF, argsToLocals, Value.category]; done)) ?_
  show (Go false l ({ frames := 0, cells := 0, slots := 0, locals := 0 } : Room) Z (⟨"com/example/forward_planner/forwardplanner/heuristic/IntList", "removeLast", "()I"⟩ : MethodName) prog_22_method_5_code 1 (some .int) n0 0 0 (fun v h => v = some (.int x) ∧ Keep h0 h [a] ∧ Exa Z h a "com/example/forward_planner/forwardplanner/heuristic/IntList" ∧ Fld Z h a "com/example/forward_planner/forwardplanner/heuristic/IntList" "elements" "[I" (.ref e) ∧ Fld Z h a "com/example/forward_planner/forwardplanner/heuristic/IntList" "size" "I" (.int (n - 1)) ∧ Ary Z h e .int vs)) h0 0 0 0 #[.val (.ref a)] []
  refine Go.getS (pc' := 3) (hw _ (List.mem_of_getElem? (i := 24) rfl)) hS d4_0 rfl ?_
  refine Go.ifc (pc1 := 21) (pc2 := 6) d4_3 (by decide) (by decide) rfl (fun (c_52 : (1 : Int) ≠ 0) => ?_) (fun (c_52 : (1 : Int) = 0) => ?_)
  rotate_left
  · exact absurd c_52 (by decide)
  refine Go.aloadN (pc' := 22) d4_21 rfl rfl rfl ?_
  refine Go.getF (pc' := 25) (hw _ (List.mem_of_getElem? (i := 10) rfl)) hF d4_22 rfl ?_
  refine Go.aloadN (pc' := 26) d4_25 rfl rfl rfl ?_
  refine Go.dup (pc' := 27) d4_26 rfl rfl ?_
  refine Go.getF (pc' := 30) (hw _ (List.mem_of_getElem? (i := 17) rfl)) hG d4_27 rfl ?_
  refine Go.iconst (pc' := 31) (v := (1 : Int32)) d4_30 rfl rfl ?_
  refine Go.isub (pc' := 32) d4_31 rfl ?_
  generalize ev_53 : n - (1 : Int32) = v_53
  have k_54 : v_53.toInt = (k : Int) := by
    rw [← ev_53]
    have : (1 : Int32).toInt = 1 := by decide
    have := c_isub n (1 : Int32)
    have := rng32 (n - (1 : Int32))
    have := rng32 n
    omega
  refine Go.dupX1 (pc' := 33) d4_32 rfl rfl rfl ?_
  refine Go.putF (pc' := 36) (ty := .int) (hw _ (List.mem_of_getElem? (i := 17) rfl)) hG hE (Or.inl (hw _ (List.mem_of_getElem? (i := 18) rfl))) (hw _ (List.mem_of_getElem? (i := 1) rfl)) (by decide) rfl rfl d4_33 hg rfl ?_
  intro h_55 W_56
  have f_57 : Exa Z h_55 a "com/example/forward_planner/forwardplanner/heuristic/IntList" := Exa.wr W_56 hE
  have f_58 : Ary Z h_55 e .int vs := hA.sm (Sm.wr W_56 hne.symm)
  have t_60 : a < h_55.size := Nat.lt_of_lt_of_le hE.lt (Nat.le_of_eq W_56.size.symm)
  have t_61 : e < h_55.size := Nat.lt_of_lt_of_le hA.lt (Nat.le_of_eq W_56.size.symm)
  have z_62 : n0 ≤ h_55.size := Nat.le_trans z0 (Nat.le_of_eq W_56.size.symm)
  have b_63 : h0.size ≤ h_55.size := Nat.le_trans (Nat.le_refl _) (Nat.le_of_eq W_56.size.symm)
  have K_64 : Keep h0 h_55 [a] := (Keep.refl _ _).wr W_56 (Or.inl (List.mem_of_getElem? (i := 0) rfl))
  have f_59 : Sta Z h_55 "com/example/forward_planner/forwardplanner/heuristic/IntList" "$assertionsDisabled" "Z" (.int (1 : Int32)) := Sta.wr W_56 hS
  have f_65 : Fld Z h_55 a "com/example/forward_planner/forwardplanner/heuristic/IntList" "elements" "[I" (.ref e) := Fld.other W_56 hF (Or.inr (slot_ne (Or.inl (hw _ (List.mem_of_getElem? (i := 11) rfl))) (Or.inl (hw _ (List.mem_of_getElem? (i := 18) rfl))) (by decide) (t := (.array .int)) (t' := .int) (by decide) (by decide)))
  have f_66 : Fld Z h_55 a "com/example/forward_planner/forwardplanner/heuristic/IntList" "size" "I" (.int v_53) := Fld.same W_56 hG
  refine Go.ldI (pc' := 37) (k := k) (v := (.int x)) f_58 (by omega) hx d4_36 rfl ?_
  subst ev_53
  exact Go.retI d4_37 rfl ⟨rfl, K_64, f_57, f_65, f_66, f_58⟩ (by decide) (by decide)
set_option maxRecDepth 65536 in
set_option maxHeartbeats 40000000 in
theorem m_s (l : Launch) (Z : State) (a0 : Array Value) (hw : ∀ d ∈ tables_1, d.before a0 Z = true) (a : Addr) (n : Int32) (h0 : Heap) (n0 : Nat) (z0 : n0 ≤ h0.size) (hG : Fld Z h0 a "com/example/forward_planner/forwardplanner/heuristic/IntList" "size" "I" (.int n)) : Mt false l Z (⟨"com/example/forward_planner/forwardplanner/heuristic/IntList", "size", "()I"⟩ : MethodName) prog_22_method_2_code 1 (some .int) ({ frames := 0, cells := 0, slots := 0, locals := 0 } : Room) n0 (fun v h => v = some (.int n) ∧ h0 = h) h0 #[(.ref a)] := by
  refine Mt.go (Ls := #[.val (.ref a)]) pn0 (fun m => by first | rfl | (simp [entryFrame, mkF, argsToLocals, Value.category]; done)) ?_
  show (Go false l ({ frames := 0, cells := 0, slots := 0, locals := 0 } : Room) Z (⟨"com/example/forward_planner/forwardplanner/heuristic/IntList", "size", "()I"⟩ : MethodName) prog_22_method_2_code 1 (some .int) n0 0 0 (fun v h => v = some (.int n) ∧ h0 = h)) h0 0 0 0 #[.val (.ref a)] []
  refine Go.aloadN (pc' := 1) d5_0 rfl rfl rfl ?_
  refine Go.getF (pc' := 4) (hw _ (List.mem_of_getElem? (i := 17) rfl)) hG d5_1 rfl ?_
  exact Go.retI d5_4 rfl ⟨rfl, rfl⟩ (by decide) (by decide)
set_option maxRecDepth 65536 in
set_option maxHeartbeats 40000000 in
theorem m_g (l : Launch) (Z : State) (a0 : Array Value) (hw : ∀ d ∈ tables_1, d.before a0 Z = true) (a e : Addr) (i n x : Int32) (k : Nat) (vs : List Value) (h0 : Heap) (n0 : Nat) (z0 : n0 ≤ h0.size) (hE : Exa Z h0 a "com/example/forward_planner/forwardplanner/heuristic/IntList") (hF : Fld Z h0 a "com/example/forward_planner/forwardplanner/heuristic/IntList" "elements" "[I" (.ref e)) (hG : Fld Z h0 a "com/example/forward_planner/forwardplanner/heuristic/IntList" "size" "I" (.int n)) (hA : Ary Z h0 e .int vs) (hS : Sta Z h0 "com/example/forward_planner/forwardplanner/heuristic/IntList" "$assertionsDisabled" "Z" (.int (1 : Int32))) (hi : i.toInt = (k : Int)) (hx : vs[k]? = some (.int x)) : Mt false l Z (⟨"com/example/forward_planner/forwardplanner/heuristic/IntList", "get", "(I)I"⟩ : MethodName) prog_22_method_3_code 2 (some .int) ({ frames := 0, cells := 0, slots := 0, locals := 0 } : Room) n0 (fun v h => v = some (.int x) ∧ h0 = h) h0 #[(.ref a), (.int i)] := by
  refine Mt.go (Ls := #[.val (.ref a), .val (.int i)]) pn0 (fun m => by first | rfl | (simp [entryFrame, mkF, argsToLocals, Value.category]; done)) ?_
  show (Go false l ({ frames := 0, cells := 0, slots := 0, locals := 0 } : Room) Z (⟨"com/example/forward_planner/forwardplanner/heuristic/IntList", "get", "(I)I"⟩ : MethodName) prog_22_method_3_code 2 (some .int) n0 0 0 (fun v h => v = some (.int x) ∧ h0 = h)) h0 0 0 0 #[.val (.ref a), .val (.int i)] []
  refine Go.getS (pc' := 3) (hw _ (List.mem_of_getElem? (i := 24) rfl)) hS d6_0 rfl ?_
  refine Go.ifc (pc1 := 27) (pc2 := 6) d6_3 (by decide) (by decide) rfl (fun (c_67 : (1 : Int) ≠ 0) => ?_) (fun (c_67 : (1 : Int) = 0) => ?_)
  rotate_left
  · exact absurd c_67 (by decide)
  refine Go.aloadN (pc' := 28) d6_27 rfl rfl rfl ?_
  refine Go.getF (pc' := 31) (hw _ (List.mem_of_getElem? (i := 10) rfl)) hF d6_28 rfl ?_
  refine Go.iloadN (pc' := 32) d6_31 rfl rfl ?_
  refine Go.ldI (pc' := 33) (k := k) (v := (.int x)) hA hi hx d6_32 rfl ?_
  exact Go.retI d6_33 rfl ⟨rfl, rfl⟩ (by decide) (by decide)
set_option maxRecDepth 65536 in
set_option maxHeartbeats 40000000 in
theorem rm1 (l : Launch) (Z : State) (a0 : Array Value) (hw : ∀ d ∈ tables_1, d.before a0 Z = true) (ws : List Jvm.Cond) (x0 x1 x2 k0 : Int32) (h0 : Heap) (n0 : Nat) (z0 : n0 ≤ h0.size) (hO : Old Z n0 h0) (hS : Sta Z Z.heap "com/example/forward_planner/forwardplanner/heuristic/IntList" "$assertionsDisabled" "Z" (.int (1 : Int32))) : MetFree l x (head1 (Jvm.Cond.code x code maxLocals ret :: ws) room_1) (fun a U => a = #[(.int x0), (.int x1), (.int x2), (.int k0)] ∧ Z.Warmed39 U.vm ∧ U.heap = h0) (fun _ _ _ _ _ => True) (fun _ U o U' => ∃ v L, o = .returned v ∧ (((fun v h => v = some (.int 1)) v U'.heap ∧ h0.size ≤ U'.heap.size) ∧ Fr n0 L) ∧ GoEnd false U o U' L 16 128) := by
  refine met_go (y := x) (Q := fun v h => v = some (.int 1)) (Ls := #[.val (.int x0), .val (.int x1), .val (.int x2), .val (.int k0), .unset, .unset, .unset, .unset, .unset, .unset, .unset]) pn1 (fun m => by first | rfl | (simp [entryFrame, mkF, argsToLocals, Value.category, maxLocals]; done)) ?_
  show (Go false l room_1 Z x code maxLocals ret n0 16 128 (fun v h => v = some (.int 1))) h0 0 0 0 #[.val (.int x0), .val (.int x1), .val (.int x2), .val (.int k0), .unset, .unset, .unset, .unset, .unset, .unset, .unset] []
  have hS0 : Sta Z h0 "com/example/forward_planner/forwardplanner/heuristic/IntList" "$assertionsDisabled" "Z" (.int (1 : Int32)) := Sta.ext hO.2 hS
  refine Go.iloadN (pc' := 1) at_0 rfl rfl ?_
  refine Go.iconst (pc' := 2) (v := (3 : Int32)) at_1 rfl rfl ?_
  refine Go.iand (pc' := 3) at_2 rfl ?_
  refine Go.iconst (pc' := 4) (v := (3 : Int32)) at_3 rfl rfl ?_
  refine Go.irem (pc' := 5) at_4 (by decide) rfl ?_
  refine Go.iconst (pc' := 6) (v := (1 : Int32)) at_5 rfl rfl ?_
  refine Go.iadd (pc' := 7) at_6 rfl ?_
  generalize ec_68 : ((k0 &&& (3 : Int32)) % (3 : Int32)) + (1 : Int32) = c_68
  have k_69 : c_68.toInt = 1 ∨ c_68.toInt = 2 ∨ c_68.toInt = 3 := by
    rw [← ec_68]
    have : (3 : Int32).toInt = 3 := by decide
    have := c_mask k0 (3 : Int32) 2 (by decide) (by decide)
    have := rng32 (k0 &&& (3 : Int32))
    have := rng32 k0
    have := c_irem (k0 &&& (3 : Int32)) (3 : Int32) 3 (by decide)
    have := rng32 ((k0 &&& (3 : Int32)) % (3 : Int32))
    have : (1 : Int32).toInt = 1 := by decide
    have := c_iadd ((k0 &&& (3 : Int32)) % (3 : Int32)) (1 : Int32)
    have := rng32 (((k0 &&& (3 : Int32)) % (3 : Int32)) + (1 : Int32))
    omega
  clear ec_68
  rcases k_69 with k_69 | k_69 | k_69
  · obtain rfl : c_68 = (1 : Int32) := Int32.toInt_inj.mp k_69
    refine Go.istore (pc' := 9) (Ls' := #[.val (.int x0), .val (.int x1), .val (.int x2), .val (.int k0), .val (.int (1 : Int32)), .unset, .unset, .unset, .unset, .unset, .unset]) at_7 rfl rfl ?_
    refine Go.newO (pc' := 12) (hw _ (List.mem_of_getElem? (i := 0) rfl)) (hw _ (List.mem_of_getElem? (i := 1) rfl)) (hw _ (List.mem_of_getElem? (i := 2) rfl)) at_9 (by decide) (by decide) rfl ?_
    intro h_70 a_71 q_72 E_73 A_74 D_75
    have g_76 : n0 ≤ a_71 := q_72 ▸ z0
    have z_78 : n0 ≤ h_70.size := Nat.le_trans z0 E_73.1
    have O_79 : Old Z n0 h_70 := hO.ext E_73
    have f_77 : Sta Z h_70 "com/example/forward_planner/forwardplanner/heuristic/IntList" "$assertionsDisabled" "Z" (.int (1 : Int32)) := Sta.ext O_79.2 hS
    have t_80 : a_71 < h_70.size := A_74.lt
    have f_81 : Fld Z h_70 a_71 "com/example/forward_planner/forwardplanner/heuristic/IntList" "elements" "[I" .null := D_75 (Or.inl (hw _ (List.mem_of_getElem? (i := 11) rfl))) (ty := (.array .int)) (by decide)
    have f_82 : Fld Z h_70 a_71 "com/example/forward_planner/forwardplanner/heuristic/IntList" "size" "I" (.int (0 : Int32)) := D_75 (Or.inl (hw _ (List.mem_of_getElem? (i := 18) rfl))) (ty := .int) (by decide)
    refine Go.dup (pc' := 13) at_12 rfl rfl ?_
    refine Go.callN (pc' := 16) (argsL := []) (rest := [(.ref a_71)]) (W := 1) rfl (hw _ (List.mem_of_getElem? (i := 3) rfl)) (hw _ (List.mem_of_getElem? (i := 4) rfl)) (hw _ (List.mem_of_getElem? (i := 2) rfl)) (hw _ (List.mem_of_getElem? (i := 5) rfl)) (by decide) (m_i l Z a0 hw a_71 h_70 n0 z_78 A_74 f_81 f_82 g_76) at_13 rfl pd0 rfl rfl (Nat.le_of_eq rfl) (by decide) (by decide) (by decide) (by decide) rfl ?_
    rintro _ h_83 ⟨rfl, e_84, K_85, E_86, F_87, G_88, A_89, q_90, t_91⟩
    have n_92 : a_71 ≠ e_84 := Nat.ne_of_lt (Nat.lt_of_lt_of_le t_80 q_90)
    have g_93 : n0 ≤ e_84 := Nat.le_trans z_78 q_90
    have f_95 : Exa Z h_83 a_71 "com/example/forward_planner/forwardplanner/heuristic/IntList" := A_74.keep K_85
    have t_98 : a_71 < h_83.size := Nat.lt_of_lt_of_le t_80 K_85.1
    have z_99 : n0 ≤ h_83.size := Nat.le_trans z_78 K_85.1
    have O_100 : Old Z n0 h_83 := O_79.keep K_85 (allS g_76 all0)
    have f_94 : Sta Z h_83 "com/example/forward_planner/forwardplanner/heuristic/IntList" "$assertionsDisabled" "Z" (.int (1 : Int32)) := Sta.ext O_100.2 hS
    show (Go false l room_1 Z x code maxLocals ret n0 16 128 (fun v h => v = some (.int 1))) h_83 (0 + 1 + 1) (0 + 2 + 8) 16 #[.val (.int x0), .val (.int x1), .val (.int x2), .val (.int k0), .val (.int (1 : Int32)), .unset, .unset, .unset, .unset, .unset, .unset] [(.ref a_71)]
    refine Go.astore (pc' := 18) (Ls' := #[.val (.int x0), .val (.int x1), .val (.int x2), .val (.int k0), .val (.int (1 : Int32)), .val (.ref a_71), .unset, .unset, .unset, .unset, .unset]) at_16 rfl rfl rfl ?_
    refine Go.aload (pc' := 20) at_18 rfl rfl rfl ?_
    refine Go.iloadN (pc' := 21) at_20 rfl rfl ?_
    refine Go.callV (pc' := 24) (argsL := [(.int x0)]) (rest := []) (W := 0) (hw _ (List.mem_of_getElem? (i := 12) rfl)) (hw _ (List.mem_of_getElem? (i := 13) rfl)) (hw _ (List.mem_of_getElem? (i := 15) rfl)) (hw _ (List.mem_of_getElem? (i := 14) rfl)) (hw _ (List.mem_of_getElem? (i := 2) rfl)) (hw _ (List.mem_of_getElem? (i := 16) rfl)) (by decide) f_95 (m_a l Z a0 hw a_71 e_84 x0 (0 : Int32) 0 [(.int (0 : Int32)), (.int (0 : Int32)), (.int (0 : Int32)), (.int (0 : Int32)), (.int (0 : Int32)), (.int (0 : Int32)), (.int (0 : Int32)), (.int (0 : Int32))] h_83 n0 z_99 f_95 F_87 G_88 A_89 rfl (by decide) rfl n_92 g_76 g_93) at_21 rfl pd1 rfl rfl (Nat.le_of_eq rfl) (by decide) (by decide) (by decide) (by decide) rfl ?_
    rintro _ h_101 ⟨rfl, K_102, E_103, F_104, G_105, A_106⟩
    have f_107 : Exa Z h_101 a_71 "com/example/forward_planner/forwardplanner/heuristic/IntList" := f_95.keep K_102
    have t_112 : a_71 < h_101.size := Nat.lt_of_lt_of_le t_98 K_102.1
    have t_113 : e_84 < h_101.size := Nat.lt_of_lt_of_le t_91 K_102.1
    have z_114 : n0 ≤ h_101.size := Nat.le_trans z_99 K_102.1
    have O_115 : Old Z n0 h_101 := O_100.keep K_102 (allS g_76 (allS g_93 all0))
    have f_108 : Sta Z h_101 "com/example/forward_planner/forwardplanner/heuristic/IntList" "$assertionsDisabled" "Z" (.int (1 : Int32)) := Sta.ext O_115.2 hS
    change Fld Z h_101 a_71 "com/example/forward_planner/forwardplanner/heuristic/IntList" "size" "I" (.int (1 : Int32)) at G_105
    change Ary Z h_101 e_84 .int [(.int x0), (.int (0 : Int32)), (.int (0 : Int32)), (.int (0 : Int32)), (.int (0 : Int32)), (.int (0 : Int32)), (.int (0 : Int32)), (.int (0 : Int32))] at A_106
    show (Go false l room_1 Z x code maxLocals ret n0 16 128 (fun v h => v = some (.int 1))) h_101 (0 + 1 + 1 + 0) (0 + 2 + 8 + 0) 24 #[.val (.int x0), .val (.int x1), .val (.int x2), .val (.int k0), .val (.int (1 : Int32)), .val (.ref a_71), .unset, .unset, .unset, .unset, .unset] []
    refine Go.iload (pc' := 26) at_24 rfl rfl ?_
    refine Go.iconst (pc' := 27) (v := (2 : Int32)) at_26 rfl rfl ?_
    refine Go.icmp (pc1 := 36) (pc2 := 30) at_27 (by decide) (by decide) rfl (fun (c_116 : (1 : Int) < (2 : Int)) => ?_) (fun (c_116 : (2 : Int) ≤ (1 : Int)) => ?_)
    rotate_left
    · exact absurd c_116 (by decide)
    refine Go.iload (pc' := 38) at_36 rfl rfl ?_
    refine Go.iconst (pc' := 39) (v := (3 : Int32)) at_38 rfl rfl ?_
    refine Go.icmp (pc1 := 48) (pc2 := 42) at_39 (by decide) (by decide) rfl (fun (c_117 : (1 : Int) < (3 : Int)) => ?_) (fun (c_117 : (3 : Int) ≤ (1 : Int)) => ?_)
    rotate_left
    · exact absurd c_117 (by decide)
    refine Go.iload (pc' := 50) at_48 rfl rfl ?_
    refine Go.iconst (pc' := 51) (v := (1 : Int32)) at_50 rfl rfl ?_
    refine Go.icmp (pc1 := 60) (pc2 := 54) at_51 (by decide) (by decide) rfl (fun (c_118 : (1 : Int) ≠ (1 : Int)) => ?_) (fun (c_118 : (1 : Int) = (1 : Int)) => ?_)
    · exact absurd c_118 (by decide)
    refine Go.iloadN (pc' := 55) at_54 rfl rfl ?_
    refine Go.istore (pc' := 57) (Ls' := #[.val (.int x0), .val (.int x1), .val (.int x2), .val (.int k0), .val (.int (1 : Int32)), .val (.ref a_71), .val (.int x0), .unset, .unset, .unset, .unset]) at_55 rfl rfl ?_
    refine Go.goto (pc' := 75) at_57 (by decide) (by decide) ?_
    refine Go.aload (pc' := 77) at_75 rfl rfl rfl ?_
    refine Go.callV (pc' := 80) (argsL := []) (rest := []) (W := 0) (hw _ (List.mem_of_getElem? (i := 19) rfl)) (hw _ (List.mem_of_getElem? (i := 20) rfl)) (hw _ (List.mem_of_getElem? (i := 22) rfl)) (hw _ (List.mem_of_getElem? (i := 21) rfl)) (hw _ (List.mem_of_getElem? (i := 2) rfl)) (hw _ (List.mem_of_getElem? (i := 23) rfl)) (by decide) f_107 (m_r l Z a0 hw a_71 e_84 (1 : Int32) x0 0 [(.int x0), (.int (0 : Int32)), (.int (0 : Int32)), (.int (0 : Int32)), (.int (0 : Int32)), (.int (0 : Int32)), (.int (0 : Int32)), (.int (0 : Int32))] h_101 n0 z_114 f_107 F_104 G_105 A_106 f_108 rfl rfl n_92 g_76 g_93) at_77 rfl pd2 rfl rfl (Nat.le_of_eq rfl) (by decide) (by decide) (by decide) (by decide) rfl ?_
    rintro _ h_119 ⟨rfl, K_120, E_121, F_122, G_123, A_124⟩
    have f_125 : Exa Z h_119 a_71 "com/example/forward_planner/forwardplanner/heuristic/IntList" := f_107.keep K_120
    have f_129 : Ary Z h_119 e_84 .int [(.int x0), (.int (0 : Int32)), (.int (0 : Int32)), (.int (0 : Int32)), (.int (0 : Int32)), (.int (0 : Int32)), (.int (0 : Int32)), (.int (0 : Int32))] := A_106.sm (Sm.keep K_120 (ninS n_92.symm nin0))
    have t_130 : a_71 < h_119.size := Nat.lt_of_lt_of_le t_112 K_120.1
    have t_131 : e_84 < h_119.size := Nat.lt_of_lt_of_le t_113 K_120.1
    have z_132 : n0 ≤ h_119.size := Nat.le_trans z_114 K_120.1
    have O_133 : Old Z n0 h_119 := O_115.keep K_120 (allS g_76 all0)
    have f_126 : Sta Z h_119 "com/example/forward_planner/forwardplanner/heuristic/IntList" "$assertionsDisabled" "Z" (.int (1 : Int32)) := Sta.ext O_133.2 hS
    change Fld Z h_119 a_71 "com/example/forward_planner/forwardplanner/heuristic/IntList" "size" "I" (.int (0 : Int32)) at G_123
    show (Go false l room_1 Z x code maxLocals ret n0 16 128 (fun v h => v = some (.int 1))) h_119 (0 + 1 + 1 + 0 + 0) (0 + 2 + 8 + 0 + 0) 80 #[.val (.int x0), .val (.int x1), .val (.int x2), .val (.int k0), .val (.int (1 : Int32)), .val (.ref a_71), .val (.int x0), .unset, .unset, .unset, .unset] [(.int x0)]
    refine Go.istore (pc' := 82) (Ls' := #[.val (.int x0), .val (.int x1), .val (.int x2), .val (.int k0), .val (.int (1 : Int32)), .val (.ref a_71), .val (.int x0), .val (.int x0), .unset, .unset, .unset]) at_80 rfl rfl ?_
    refine Go.iload (pc' := 84) at_82 rfl rfl ?_
    refine Go.iload (pc' := 86) at_84 rfl rfl ?_
    refine Go.icmp (pc1 := 105) (pc2 := 89) at_86 (by decide) (by decide) rfl (fun (c_134 : x0.toInt ≠ x0.toInt) => ?_) (fun (c_134 : x0.toInt = x0.toInt) => ?_)
    · exact absurd rfl c_134
    refine Go.aload (pc' := 91) at_89 rfl rfl rfl ?_
    refine Go.callV (pc' := 94) (argsL := []) (rest := []) (W := 0) (hw _ (List.mem_of_getElem? (i := 26) rfl)) (hw _ (List.mem_of_getElem? (i := 27) rfl)) (hw _ (List.mem_of_getElem? (i := 29) rfl)) (hw _ (List.mem_of_getElem? (i := 28) rfl)) (hw _ (List.mem_of_getElem? (i := 2) rfl)) (hw _ (List.mem_of_getElem? (i := 30) rfl)) (by decide) f_125 (m_s l Z a0 hw a_71 (0 : Int32) h_119 n0 z_132 G_123) at_91 rfl pd2 rfl rfl (Nat.le_of_eq rfl) (by decide) (by decide) (by decide) (by decide) rfl ?_
    rintro _ _ ⟨rfl, rfl⟩
    show (Go false l room_1 Z x code maxLocals ret n0 16 128 (fun v h => v = some (.int 1))) h_119 (0 + 1 + 1 + 0 + 0 + 0) (0 + 2 + 8 + 0 + 0 + 0) 94 #[.val (.int x0), .val (.int x1), .val (.int x2), .val (.int k0), .val (.int (1 : Int32)), .val (.ref a_71), .val (.int x0), .val (.int x0), .unset, .unset, .unset] [(.int (0 : Int32))]
    refine Go.iload (pc' := 96) at_94 rfl rfl ?_
    refine Go.iconst (pc' := 97) (v := (1 : Int32)) at_96 rfl rfl ?_
    refine Go.isub (pc' := 98) at_97 rfl ?_
    show (Go false l room_1 Z x code maxLocals ret n0 16 128 (fun v h => v = some (.int 1))) h_119 (0 + 1 + 1 + 0 + 0 + 0) (0 + 2 + 8 + 0 + 0 + 0) 98 #[.val (.int x0), .val (.int x1), .val (.int x2), .val (.int k0), .val (.int (1 : Int32)), .val (.ref a_71), .val (.int x0), .val (.int x0), .unset, .unset, .unset] [(.int (0 : Int32)), (.int (0 : Int32))]
    refine Go.icmp (pc1 := 105) (pc2 := 101) at_98 (by decide) (by decide) rfl (fun (c_135 : (0 : Int) ≠ (0 : Int)) => ?_) (fun (c_135 : (0 : Int) = (0 : Int)) => ?_)
    · exact absurd c_135 (by decide)
    refine Go.iconst (pc' := 102) (v := (1 : Int32)) at_101 rfl rfl ?_
    refine Go.goto (pc' := 106) at_102 (by decide) (by decide) ?_
    refine Go.istore (pc' := 108) (Ls' := #[.val (.int x0), .val (.int x1), .val (.int x2), .val (.int k0), .val (.int (1 : Int32)), .val (.ref a_71), .val (.int x0), .val (.int x0), .val (.int (1 : Int32)), .unset, .unset]) at_106 rfl rfl ?_
    refine Go.iload (pc' := 110) at_108 rfl rfl ?_
    refine Go.iconst (pc' := 111) (v := (2 : Int32)) at_110 rfl rfl ?_
    refine Go.icmp (pc1 := 191) (pc2 := 114) at_111 (by decide) (by decide) rfl (fun (c_136 : (1 : Int) < (2 : Int)) => ?_) (fun (c_136 : (2 : Int) ≤ (1 : Int)) => ?_)
    rotate_left
    · exact absurd c_136 (by decide)
    refine Go.iload (pc' := 193) at_191 rfl rfl ?_
    exact Go.retN (t := .boolean) at_193 rfl (by simp) rfl rfl (by decide) (by decide)
  · obtain rfl : c_68 = (2 : Int32) := Int32.toInt_inj.mp k_69
    refine Go.istore (pc' := 9) (Ls' := #[.val (.int x0), .val (.int x1), .val (.int x2), .val (.int k0), .val (.int (2 : Int32)), .unset, .unset, .unset, .unset, .unset, .unset]) at_7 rfl rfl ?_
    refine Go.newO (pc' := 12) (hw _ (List.mem_of_getElem? (i := 0) rfl)) (hw _ (List.mem_of_getElem? (i := 1) rfl)) (hw _ (List.mem_of_getElem? (i := 2) rfl)) at_9 (by decide) (by decide) rfl ?_
    intro h_137 a_138 q_139 E_140 A_141 D_142
    have g_143 : n0 ≤ a_138 := q_139 ▸ z0
    have z_145 : n0 ≤ h_137.size := Nat.le_trans z0 E_140.1
    have O_146 : Old Z n0 h_137 := hO.ext E_140
    have f_144 : Sta Z h_137 "com/example/forward_planner/forwardplanner/heuristic/IntList" "$assertionsDisabled" "Z" (.int (1 : Int32)) := Sta.ext O_146.2 hS
    have t_147 : a_138 < h_137.size := A_141.lt
    have f_148 : Fld Z h_137 a_138 "com/example/forward_planner/forwardplanner/heuristic/IntList" "elements" "[I" .null := D_142 (Or.inl (hw _ (List.mem_of_getElem? (i := 11) rfl))) (ty := (.array .int)) (by decide)
    have f_149 : Fld Z h_137 a_138 "com/example/forward_planner/forwardplanner/heuristic/IntList" "size" "I" (.int (0 : Int32)) := D_142 (Or.inl (hw _ (List.mem_of_getElem? (i := 18) rfl))) (ty := .int) (by decide)
    refine Go.dup (pc' := 13) at_12 rfl rfl ?_
    refine Go.callN (pc' := 16) (argsL := []) (rest := [(.ref a_138)]) (W := 1) rfl (hw _ (List.mem_of_getElem? (i := 3) rfl)) (hw _ (List.mem_of_getElem? (i := 4) rfl)) (hw _ (List.mem_of_getElem? (i := 2) rfl)) (hw _ (List.mem_of_getElem? (i := 5) rfl)) (by decide) (m_i l Z a0 hw a_138 h_137 n0 z_145 A_141 f_148 f_149 g_143) at_13 rfl pd0 rfl rfl (Nat.le_of_eq rfl) (by decide) (by decide) (by decide) (by decide) rfl ?_
    rintro _ h_150 ⟨rfl, e_151, K_152, E_153, F_154, G_155, A_156, q_157, t_158⟩
    have n_159 : a_138 ≠ e_151 := Nat.ne_of_lt (Nat.lt_of_lt_of_le t_147 q_157)
    have g_160 : n0 ≤ e_151 := Nat.le_trans z_145 q_157
    have f_162 : Exa Z h_150 a_138 "com/example/forward_planner/forwardplanner/heuristic/IntList" := A_141.keep K_152
    have t_165 : a_138 < h_150.size := Nat.lt_of_lt_of_le t_147 K_152.1
    have z_166 : n0 ≤ h_150.size := Nat.le_trans z_145 K_152.1
    have O_167 : Old Z n0 h_150 := O_146.keep K_152 (allS g_143 all0)
    have f_161 : Sta Z h_150 "com/example/forward_planner/forwardplanner/heuristic/IntList" "$assertionsDisabled" "Z" (.int (1 : Int32)) := Sta.ext O_167.2 hS
    show (Go false l room_1 Z x code maxLocals ret n0 16 128 (fun v h => v = some (.int 1))) h_150 (0 + 1 + 1) (0 + 2 + 8) 16 #[.val (.int x0), .val (.int x1), .val (.int x2), .val (.int k0), .val (.int (2 : Int32)), .unset, .unset, .unset, .unset, .unset, .unset] [(.ref a_138)]
    refine Go.astore (pc' := 18) (Ls' := #[.val (.int x0), .val (.int x1), .val (.int x2), .val (.int k0), .val (.int (2 : Int32)), .val (.ref a_138), .unset, .unset, .unset, .unset, .unset]) at_16 rfl rfl rfl ?_
    refine Go.aload (pc' := 20) at_18 rfl rfl rfl ?_
    refine Go.iloadN (pc' := 21) at_20 rfl rfl ?_
    refine Go.callV (pc' := 24) (argsL := [(.int x0)]) (rest := []) (W := 0) (hw _ (List.mem_of_getElem? (i := 12) rfl)) (hw _ (List.mem_of_getElem? (i := 13) rfl)) (hw _ (List.mem_of_getElem? (i := 15) rfl)) (hw _ (List.mem_of_getElem? (i := 14) rfl)) (hw _ (List.mem_of_getElem? (i := 2) rfl)) (hw _ (List.mem_of_getElem? (i := 16) rfl)) (by decide) f_162 (m_a l Z a0 hw a_138 e_151 x0 (0 : Int32) 0 [(.int (0 : Int32)), (.int (0 : Int32)), (.int (0 : Int32)), (.int (0 : Int32)), (.int (0 : Int32)), (.int (0 : Int32)), (.int (0 : Int32)), (.int (0 : Int32))] h_150 n0 z_166 f_162 F_154 G_155 A_156 rfl (by decide) rfl n_159 g_143 g_160) at_21 rfl pd1 rfl rfl (Nat.le_of_eq rfl) (by decide) (by decide) (by decide) (by decide) rfl ?_
    rintro _ h_168 ⟨rfl, K_169, E_170, F_171, G_172, A_173⟩
    have f_174 : Exa Z h_168 a_138 "com/example/forward_planner/forwardplanner/heuristic/IntList" := f_162.keep K_169
    have t_179 : a_138 < h_168.size := Nat.lt_of_lt_of_le t_165 K_169.1
    have t_180 : e_151 < h_168.size := Nat.lt_of_lt_of_le t_158 K_169.1
    have z_181 : n0 ≤ h_168.size := Nat.le_trans z_166 K_169.1
    have O_182 : Old Z n0 h_168 := O_167.keep K_169 (allS g_143 (allS g_160 all0))
    have f_175 : Sta Z h_168 "com/example/forward_planner/forwardplanner/heuristic/IntList" "$assertionsDisabled" "Z" (.int (1 : Int32)) := Sta.ext O_182.2 hS
    change Fld Z h_168 a_138 "com/example/forward_planner/forwardplanner/heuristic/IntList" "size" "I" (.int (1 : Int32)) at G_172
    change Ary Z h_168 e_151 .int [(.int x0), (.int (0 : Int32)), (.int (0 : Int32)), (.int (0 : Int32)), (.int (0 : Int32)), (.int (0 : Int32)), (.int (0 : Int32)), (.int (0 : Int32))] at A_173
    show (Go false l room_1 Z x code maxLocals ret n0 16 128 (fun v h => v = some (.int 1))) h_168 (0 + 1 + 1 + 0) (0 + 2 + 8 + 0) 24 #[.val (.int x0), .val (.int x1), .val (.int x2), .val (.int k0), .val (.int (2 : Int32)), .val (.ref a_138), .unset, .unset, .unset, .unset, .unset] []
    refine Go.iload (pc' := 26) at_24 rfl rfl ?_
    refine Go.iconst (pc' := 27) (v := (2 : Int32)) at_26 rfl rfl ?_
    refine Go.icmp (pc1 := 36) (pc2 := 30) at_27 (by decide) (by decide) rfl (fun (c_183 : (2 : Int) < (2 : Int)) => ?_) (fun (c_183 : (2 : Int) ≤ (2 : Int)) => ?_)
    · exact absurd c_183 (by decide)
    refine Go.aload (pc' := 32) at_30 rfl rfl rfl ?_
    refine Go.iloadN (pc' := 33) at_32 rfl rfl ?_
    refine Go.callV (pc' := 36) (argsL := [(.int x1)]) (rest := []) (W := 0) (hw _ (List.mem_of_getElem? (i := 12) rfl)) (hw _ (List.mem_of_getElem? (i := 13) rfl)) (hw _ (List.mem_of_getElem? (i := 15) rfl)) (hw _ (List.mem_of_getElem? (i := 14) rfl)) (hw _ (List.mem_of_getElem? (i := 2) rfl)) (hw _ (List.mem_of_getElem? (i := 16) rfl)) (by decide) f_174 (m_a l Z a0 hw a_138 e_151 x1 (1 : Int32) 1 [(.int x0), (.int (0 : Int32)), (.int (0 : Int32)), (.int (0 : Int32)), (.int (0 : Int32)), (.int (0 : Int32)), (.int (0 : Int32)), (.int (0 : Int32))] h_168 n0 z_181 f_174 F_171 G_172 A_173 rfl (by decide) rfl n_159 g_143 g_160) at_33 rfl pd1 rfl rfl (Nat.le_of_eq rfl) (by decide) (by decide) (by decide) (by decide) rfl ?_
    rintro _ h_184 ⟨rfl, K_185, E_186, F_187, G_188, A_189⟩
    have f_190 : Exa Z h_184 a_138 "com/example/forward_planner/forwardplanner/heuristic/IntList" := f_174.keep K_185
    have t_195 : a_138 < h_184.size := Nat.lt_of_lt_of_le t_179 K_185.1
    have t_196 : e_151 < h_184.size := Nat.lt_of_lt_of_le t_180 K_185.1
    have z_197 : n0 ≤ h_184.size := Nat.le_trans z_181 K_185.1
    have O_198 : Old Z n0 h_184 := O_182.keep K_185 (allS g_143 (allS g_160 all0))
    have f_191 : Sta Z h_184 "com/example/forward_planner/forwardplanner/heuristic/IntList" "$assertionsDisabled" "Z" (.int (1 : Int32)) := Sta.ext O_198.2 hS
    change Fld Z h_184 a_138 "com/example/forward_planner/forwardplanner/heuristic/IntList" "size" "I" (.int (2 : Int32)) at G_188
    change Ary Z h_184 e_151 .int [(.int x0), (.int x1), (.int (0 : Int32)), (.int (0 : Int32)), (.int (0 : Int32)), (.int (0 : Int32)), (.int (0 : Int32)), (.int (0 : Int32))] at A_189
    show (Go false l room_1 Z x code maxLocals ret n0 16 128 (fun v h => v = some (.int 1))) h_184 (0 + 1 + 1 + 0 + 0) (0 + 2 + 8 + 0 + 0) 36 #[.val (.int x0), .val (.int x1), .val (.int x2), .val (.int k0), .val (.int (2 : Int32)), .val (.ref a_138), .unset, .unset, .unset, .unset, .unset] []
    refine Go.iload (pc' := 38) at_36 rfl rfl ?_
    refine Go.iconst (pc' := 39) (v := (3 : Int32)) at_38 rfl rfl ?_
    refine Go.icmp (pc1 := 48) (pc2 := 42) at_39 (by decide) (by decide) rfl (fun (c_199 : (2 : Int) < (3 : Int)) => ?_) (fun (c_199 : (3 : Int) ≤ (2 : Int)) => ?_)
    rotate_left
    · exact absurd c_199 (by decide)
    refine Go.iload (pc' := 50) at_48 rfl rfl ?_
    refine Go.iconst (pc' := 51) (v := (1 : Int32)) at_50 rfl rfl ?_
    refine Go.icmp (pc1 := 60) (pc2 := 54) at_51 (by decide) (by decide) rfl (fun (c_200 : (2 : Int) ≠ (1 : Int)) => ?_) (fun (c_200 : (2 : Int) = (1 : Int)) => ?_)
    rotate_left
    · exact absurd c_200 (by decide)
    refine Go.iload (pc' := 62) at_60 rfl rfl ?_
    refine Go.iconst (pc' := 63) (v := (2 : Int32)) at_62 rfl rfl ?_
    refine Go.icmp (pc1 := 72) (pc2 := 66) at_63 (by decide) (by decide) rfl (fun (c_201 : (2 : Int) ≠ (2 : Int)) => ?_) (fun (c_201 : (2 : Int) = (2 : Int)) => ?_)
    · exact absurd c_201 (by decide)
    refine Go.iloadN (pc' := 67) at_66 rfl rfl ?_
    refine Go.istore (pc' := 69) (Ls' := #[.val (.int x0), .val (.int x1), .val (.int x2), .val (.int k0), .val (.int (2 : Int32)), .val (.ref a_138), .val (.int x1), .unset, .unset, .unset, .unset]) at_67 rfl rfl ?_
    refine Go.goto (pc' := 75) at_69 (by decide) (by decide) ?_
    refine Go.aload (pc' := 77) at_75 rfl rfl rfl ?_
    refine Go.callV (pc' := 80) (argsL := []) (rest := []) (W := 0) (hw _ (List.mem_of_getElem? (i := 19) rfl)) (hw _ (List.mem_of_getElem? (i := 20) rfl)) (hw _ (List.mem_of_getElem? (i := 22) rfl)) (hw _ (List.mem_of_getElem? (i := 21) rfl)) (hw _ (List.mem_of_getElem? (i := 2) rfl)) (hw _ (List.mem_of_getElem? (i := 23) rfl)) (by decide) f_190 (m_r l Z a0 hw a_138 e_151 (2 : Int32) x1 1 [(.int x0), (.int x1), (.int (0 : Int32)), (.int (0 : Int32)), (.int (0 : Int32)), (.int (0 : Int32)), (.int (0 : Int32)), (.int (0 : Int32))] h_184 n0 z_197 f_190 F_187 G_188 A_189 f_191 rfl rfl n_159 g_143 g_160) at_77 rfl pd2 rfl rfl (Nat.le_of_eq rfl) (by decide) (by decide) (by decide) (by decide) rfl ?_
    rintro _ h_202 ⟨rfl, K_203, E_204, F_205, G_206, A_207⟩
    have f_208 : Exa Z h_202 a_138 "com/example/forward_planner/forwardplanner/heuristic/IntList" := f_190.keep K_203
    have f_212 : Ary Z h_202 e_151 .int [(.int x0), (.int x1), (.int (0 : Int32)), (.int (0 : Int32)), (.int (0 : Int32)), (.int (0 : Int32)), (.int (0 : Int32)), (.int (0 : Int32))] := A_189.sm (Sm.keep K_203 (ninS n_159.symm nin0))
    have t_213 : a_138 < h_202.size := Nat.lt_of_lt_of_le t_195 K_203.1
    have t_214 : e_151 < h_202.size := Nat.lt_of_lt_of_le t_196 K_203.1
    have z_215 : n0 ≤ h_202.size := Nat.le_trans z_197 K_203.1
    have O_216 : Old Z n0 h_202 := O_198.keep K_203 (allS g_143 all0)
    have f_209 : Sta Z h_202 "com/example/forward_planner/forwardplanner/heuristic/IntList" "$assertionsDisabled" "Z" (.int (1 : Int32)) := Sta.ext O_216.2 hS
    change Fld Z h_202 a_138 "com/example/forward_planner/forwardplanner/heuristic/IntList" "size" "I" (.int (1 : Int32)) at G_206
    show (Go false l room_1 Z x code maxLocals ret n0 16 128 (fun v h => v = some (.int 1))) h_202 (0 + 1 + 1 + 0 + 0 + 0) (0 + 2 + 8 + 0 + 0 + 0) 80 #[.val (.int x0), .val (.int x1), .val (.int x2), .val (.int k0), .val (.int (2 : Int32)), .val (.ref a_138), .val (.int x1), .unset, .unset, .unset, .unset] [(.int x1)]
    refine Go.istore (pc' := 82) (Ls' := #[.val (.int x0), .val (.int x1), .val (.int x2), .val (.int k0), .val (.int (2 : Int32)), .val (.ref a_138), .val (.int x1), .val (.int x1), .unset, .unset, .unset]) at_80 rfl rfl ?_
    refine Go.iload (pc' := 84) at_82 rfl rfl ?_
    refine Go.iload (pc' := 86) at_84 rfl rfl ?_
    refine Go.icmp (pc1 := 105) (pc2 := 89) at_86 (by decide) (by decide) rfl (fun (c_217 : x1.toInt ≠ x1.toInt) => ?_) (fun (c_217 : x1.toInt = x1.toInt) => ?_)
    · exact absurd rfl c_217
    refine Go.aload (pc' := 91) at_89 rfl rfl rfl ?_
    refine Go.callV (pc' := 94) (argsL := []) (rest := []) (W := 0) (hw _ (List.mem_of_getElem? (i := 26) rfl)) (hw _ (List.mem_of_getElem? (i := 27) rfl)) (hw _ (List.mem_of_getElem? (i := 29) rfl)) (hw _ (List.mem_of_getElem? (i := 28) rfl)) (hw _ (List.mem_of_getElem? (i := 2) rfl)) (hw _ (List.mem_of_getElem? (i := 30) rfl)) (by decide) f_208 (m_s l Z a0 hw a_138 (1 : Int32) h_202 n0 z_215 G_206) at_91 rfl pd2 rfl rfl (Nat.le_of_eq rfl) (by decide) (by decide) (by decide) (by decide) rfl ?_
    rintro _ _ ⟨rfl, rfl⟩
    show (Go false l room_1 Z x code maxLocals ret n0 16 128 (fun v h => v = some (.int 1))) h_202 (0 + 1 + 1 + 0 + 0 + 0 + 0) (0 + 2 + 8 + 0 + 0 + 0 + 0) 94 #[.val (.int x0), .val (.int x1), .val (.int x2), .val (.int k0), .val (.int (2 : Int32)), .val (.ref a_138), .val (.int x1), .val (.int x1), .unset, .unset, .unset] [(.int (1 : Int32))]
    refine Go.iload (pc' := 96) at_94 rfl rfl ?_
    refine Go.iconst (pc' := 97) (v := (1 : Int32)) at_96 rfl rfl ?_
    refine Go.isub (pc' := 98) at_97 rfl ?_
    show (Go false l room_1 Z x code maxLocals ret n0 16 128 (fun v h => v = some (.int 1))) h_202 (0 + 1 + 1 + 0 + 0 + 0 + 0) (0 + 2 + 8 + 0 + 0 + 0 + 0) 98 #[.val (.int x0), .val (.int x1), .val (.int x2), .val (.int k0), .val (.int (2 : Int32)), .val (.ref a_138), .val (.int x1), .val (.int x1), .unset, .unset, .unset] [(.int (1 : Int32)), (.int (1 : Int32))]
    refine Go.icmp (pc1 := 105) (pc2 := 101) at_98 (by decide) (by decide) rfl (fun (c_218 : (1 : Int) ≠ (1 : Int)) => ?_) (fun (c_218 : (1 : Int) = (1 : Int)) => ?_)
    · exact absurd c_218 (by decide)
    refine Go.iconst (pc' := 102) (v := (1 : Int32)) at_101 rfl rfl ?_
    refine Go.goto (pc' := 106) at_102 (by decide) (by decide) ?_
    refine Go.istore (pc' := 108) (Ls' := #[.val (.int x0), .val (.int x1), .val (.int x2), .val (.int k0), .val (.int (2 : Int32)), .val (.ref a_138), .val (.int x1), .val (.int x1), .val (.int (1 : Int32)), .unset, .unset]) at_106 rfl rfl ?_
    refine Go.iload (pc' := 110) at_108 rfl rfl ?_
    refine Go.iconst (pc' := 111) (v := (2 : Int32)) at_110 rfl rfl ?_
    refine Go.icmp (pc1 := 191) (pc2 := 114) at_111 (by decide) (by decide) rfl (fun (c_219 : (2 : Int) < (2 : Int)) => ?_) (fun (c_219 : (2 : Int) ≤ (2 : Int)) => ?_)
    · exact absurd c_219 (by decide)
    refine Go.iload (pc' := 116) at_114 rfl rfl ?_
    refine Go.iconst (pc' := 117) (v := (2 : Int32)) at_116 rfl rfl ?_
    refine Go.icmp (pc1 := 124) (pc2 := 120) at_117 (by decide) (by decide) rfl (fun (c_220 : (2 : Int) ≠ (2 : Int)) => ?_) (fun (c_220 : (2 : Int) = (2 : Int)) => ?_)
    · exact absurd c_220 (by decide)
    refine Go.iloadN (pc' := 121) at_120 rfl rfl ?_
    refine Go.goto (pc' := 125) at_121 (by decide) (by decide) ?_
    refine Go.istore (pc' := 127) (Ls' := #[.val (.int x0), .val (.int x1), .val (.int x2), .val (.int k0), .val (.int (2 : Int32)), .val (.ref a_138), .val (.int x1), .val (.int x1), .val (.int (1 : Int32)), .val (.int x0), .unset]) at_125 rfl rfl ?_
    refine Go.iload (pc' := 129) at_127 rfl rfl ?_
    refine Go.ifc (pc1 := 150) (pc2 := 132) at_129 (by decide) (by decide) rfl (fun (c_221 : (1 : Int) = 0) => ?_) (fun (c_221 : (1 : Int) ≠ 0) => ?_)
    · exact absurd c_221 (by decide)
    refine Go.aload (pc' := 134) at_132 rfl rfl rfl ?_
    refine Go.iload (pc' := 136) at_134 rfl rfl ?_
    refine Go.iconst (pc' := 137) (v := (2 : Int32)) at_136 rfl rfl ?_
    refine Go.isub (pc' := 138) at_137 rfl ?_
    show (Go false l room_1 Z x code maxLocals ret n0 16 128 (fun v h => v = some (.int 1))) h_202 (0 + 1 + 1 + 0 + 0 + 0 + 0) (0 + 2 + 8 + 0 + 0 + 0 + 0) 138 #[.val (.int x0), .val (.int x1), .val (.int x2), .val (.int k0), .val (.int (2 : Int32)), .val (.ref a_138), .val (.int x1), .val (.int x1), .val (.int (1 : Int32)), .val (.int x0), .unset] [(.int (0 : Int32)), (.ref a_138)]
    refine Go.callV (pc' := 141) (argsL := [(.int (0 : Int32))]) (rest := []) (W := 0) (hw _ (List.mem_of_getElem? (i := 31) rfl)) (hw _ (List.mem_of_getElem? (i := 32) rfl)) (hw _ (List.mem_of_getElem? (i := 34) rfl)) (hw _ (List.mem_of_getElem? (i := 33) rfl)) (hw _ (List.mem_of_getElem? (i := 2) rfl)) (hw _ (List.mem_of_getElem? (i := 35) rfl)) (by decide) f_208 (m_g l Z a0 hw a_138 e_151 (0 : Int32) (1 : Int32) x0 0 [(.int x0), (.int x1), (.int (0 : Int32)), (.int (0 : Int32)), (.int (0 : Int32)), (.int (0 : Int32)), (.int (0 : Int32)), (.int (0 : Int32))] h_202 n0 z_215 f_208 F_205 G_206 f_212 f_209 rfl rfl) at_138 rfl pd3 rfl rfl (Nat.le_of_eq rfl) (by decide) (by decide) (by decide) (by decide) rfl ?_
    rintro _ _ ⟨rfl, rfl⟩
    show (Go false l room_1 Z x code maxLocals ret n0 16 128 (fun v h => v = some (.int 1))) h_202 (0 + 1 + 1 + 0 + 0 + 0 + 0 + 0) (0 + 2 + 8 + 0 + 0 + 0 + 0 + 0) 141 #[.val (.int x0), .val (.int x1), .val (.int x2), .val (.int k0), .val (.int (2 : Int32)), .val (.ref a_138), .val (.int x1), .val (.int x1), .val (.int (1 : Int32)), .val (.int x0), .unset] [(.int x0)]
    refine Go.iload (pc' := 143) at_141 rfl rfl ?_
    refine Go.icmp (pc1 := 150) (pc2 := 146) at_143 (by decide) (by decide) rfl (fun (c_222 : x0.toInt ≠ x0.toInt) => ?_) (fun (c_222 : x0.toInt = x0.toInt) => ?_)
    · exact absurd rfl c_222
    refine Go.iconst (pc' := 147) (v := (1 : Int32)) at_146 rfl rfl ?_
    refine Go.goto (pc' := 151) at_147 (by decide) (by decide) ?_
    refine Go.istore (pc' := 153) (Ls' := #[.val (.int x0), .val (.int x1), .val (.int x2), .val (.int k0), .val (.int (2 : Int32)), .val (.ref a_138), .val (.int x1), .val (.int x1), .val (.int (1 : Int32)), .val (.int x0), .unset]) at_151 rfl rfl ?_
    refine Go.aload (pc' := 155) at_153 rfl rfl rfl ?_
    refine Go.callV (pc' := 158) (argsL := []) (rest := []) (W := 0) (hw _ (List.mem_of_getElem? (i := 19) rfl)) (hw _ (List.mem_of_getElem? (i := 20) rfl)) (hw _ (List.mem_of_getElem? (i := 22) rfl)) (hw _ (List.mem_of_getElem? (i := 21) rfl)) (hw _ (List.mem_of_getElem? (i := 2) rfl)) (hw _ (List.mem_of_getElem? (i := 23) rfl)) (by decide) f_208 (m_r l Z a0 hw a_138 e_151 (1 : Int32) x0 0 [(.int x0), (.int x1), (.int (0 : Int32)), (.int (0 : Int32)), (.int (0 : Int32)), (.int (0 : Int32)), (.int (0 : Int32)), (.int (0 : Int32))] h_202 n0 z_215 f_208 F_205 G_206 f_212 f_209 rfl rfl n_159 g_143 g_160) at_155 rfl pd2 rfl rfl (Nat.le_of_eq rfl) (by decide) (by decide) (by decide) (by decide) rfl ?_
    rintro _ h_223 ⟨rfl, K_224, E_225, F_226, G_227, A_228⟩
    have f_229 : Exa Z h_223 a_138 "com/example/forward_planner/forwardplanner/heuristic/IntList" := f_208.keep K_224
    have f_230 : Ary Z h_223 e_151 .int [(.int x0), (.int x1), (.int (0 : Int32)), (.int (0 : Int32)), (.int (0 : Int32)), (.int (0 : Int32)), (.int (0 : Int32)), (.int (0 : Int32))] := f_212.sm (Sm.keep K_224 (ninS n_159.symm nin0))
    have t_234 : a_138 < h_223.size := Nat.lt_of_lt_of_le t_213 K_224.1
    have t_235 : e_151 < h_223.size := Nat.lt_of_lt_of_le t_214 K_224.1
    have z_236 : n0 ≤ h_223.size := Nat.le_trans z_215 K_224.1
    have O_237 : Old Z n0 h_223 := O_216.keep K_224 (allS g_143 all0)
    have f_231 : Sta Z h_223 "com/example/forward_planner/forwardplanner/heuristic/IntList" "$assertionsDisabled" "Z" (.int (1 : Int32)) := Sta.ext O_237.2 hS
    change Fld Z h_223 a_138 "com/example/forward_planner/forwardplanner/heuristic/IntList" "size" "I" (.int (0 : Int32)) at G_227
    show (Go false l room_1 Z x code maxLocals ret n0 16 128 (fun v h => v = some (.int 1))) h_223 (0 + 1 + 1 + 0 + 0 + 0 + 0 + 0 + 0) (0 + 2 + 8 + 0 + 0 + 0 + 0 + 0 + 0) 158 #[.val (.int x0), .val (.int x1), .val (.int x2), .val (.int k0), .val (.int (2 : Int32)), .val (.ref a_138), .val (.int x1), .val (.int x1), .val (.int (1 : Int32)), .val (.int x0), .unset] [(.int x0)]
    refine Go.istore (pc' := 160) (Ls' := #[.val (.int x0), .val (.int x1), .val (.int x2), .val (.int k0), .val (.int (2 : Int32)), .val (.ref a_138), .val (.int x1), .val (.int x1), .val (.int (1 : Int32)), .val (.int x0), .val (.int x0)]) at_158 rfl rfl ?_
    refine Go.iload (pc' := 162) at_160 rfl rfl ?_
    refine Go.ifc (pc1 := 188) (pc2 := 165) at_162 (by decide) (by decide) rfl (fun (c_238 : (1 : Int) = 0) => ?_) (fun (c_238 : (1 : Int) ≠ 0) => ?_)
    · exact absurd c_238 (by decide)
    refine Go.iload (pc' := 167) at_165 rfl rfl ?_
    refine Go.iload (pc' := 169) at_167 rfl rfl ?_
    refine Go.icmp (pc1 := 188) (pc2 := 172) at_169 (by decide) (by decide) rfl (fun (c_239 : x0.toInt ≠ x0.toInt) => ?_) (fun (c_239 : x0.toInt = x0.toInt) => ?_)
    · exact absurd rfl c_239
    refine Go.aload (pc' := 174) at_172 rfl rfl rfl ?_
    refine Go.callV (pc' := 177) (argsL := []) (rest := []) (W := 0) (hw _ (List.mem_of_getElem? (i := 26) rfl)) (hw _ (List.mem_of_getElem? (i := 27) rfl)) (hw _ (List.mem_of_getElem? (i := 29) rfl)) (hw _ (List.mem_of_getElem? (i := 28) rfl)) (hw _ (List.mem_of_getElem? (i := 2) rfl)) (hw _ (List.mem_of_getElem? (i := 30) rfl)) (by decide) f_229 (m_s l Z a0 hw a_138 (0 : Int32) h_223 n0 z_236 G_227) at_174 rfl pd2 rfl rfl (Nat.le_of_eq rfl) (by decide) (by decide) (by decide) (by decide) rfl ?_
    rintro _ _ ⟨rfl, rfl⟩
    show (Go false l room_1 Z x code maxLocals ret n0 16 128 (fun v h => v = some (.int 1))) h_223 (0 + 1 + 1 + 0 + 0 + 0 + 0 + 0 + 0 + 0) (0 + 2 + 8 + 0 + 0 + 0 + 0 + 0 + 0 + 0) 177 #[.val (.int x0), .val (.int x1), .val (.int x2), .val (.int k0), .val (.int (2 : Int32)), .val (.ref a_138), .val (.int x1), .val (.int x1), .val (.int (1 : Int32)), .val (.int x0), .val (.int x0)] [(.int (0 : Int32))]
    refine Go.iload (pc' := 179) at_177 rfl rfl ?_
    refine Go.iconst (pc' := 180) (v := (2 : Int32)) at_179 rfl rfl ?_
    refine Go.isub (pc' := 181) at_180 rfl ?_
    show (Go false l room_1 Z x code maxLocals ret n0 16 128 (fun v h => v = some (.int 1))) h_223 (0 + 1 + 1 + 0 + 0 + 0 + 0 + 0 + 0 + 0) (0 + 2 + 8 + 0 + 0 + 0 + 0 + 0 + 0 + 0) 181 #[.val (.int x0), .val (.int x1), .val (.int x2), .val (.int k0), .val (.int (2 : Int32)), .val (.ref a_138), .val (.int x1), .val (.int x1), .val (.int (1 : Int32)), .val (.int x0), .val (.int x0)] [(.int (0 : Int32)), (.int (0 : Int32))]
    refine Go.icmp (pc1 := 188) (pc2 := 184) at_181 (by decide) (by decide) rfl (fun (c_240 : (0 : Int) ≠ (0 : Int)) => ?_) (fun (c_240 : (0 : Int) = (0 : Int)) => ?_)
    · exact absurd c_240 (by decide)
    refine Go.iconst (pc' := 185) (v := (1 : Int32)) at_184 rfl rfl ?_
    refine Go.goto (pc' := 189) at_185 (by decide) (by decide) ?_
    refine Go.istore (pc' := 191) (Ls' := #[.val (.int x0), .val (.int x1), .val (.int x2), .val (.int k0), .val (.int (2 : Int32)), .val (.ref a_138), .val (.int x1), .val (.int x1), .val (.int (1 : Int32)), .val (.int x0), .val (.int x0)]) at_189 rfl rfl ?_
    refine Go.iload (pc' := 193) at_191 rfl rfl ?_
    exact Go.retN (t := .boolean) at_193 rfl (by simp) rfl rfl (by decide) (by decide)
  · obtain rfl : c_68 = (3 : Int32) := Int32.toInt_inj.mp k_69
    refine Go.istore (pc' := 9) (Ls' := #[.val (.int x0), .val (.int x1), .val (.int x2), .val (.int k0), .val (.int (3 : Int32)), .unset, .unset, .unset, .unset, .unset, .unset]) at_7 rfl rfl ?_
    refine Go.newO (pc' := 12) (hw _ (List.mem_of_getElem? (i := 0) rfl)) (hw _ (List.mem_of_getElem? (i := 1) rfl)) (hw _ (List.mem_of_getElem? (i := 2) rfl)) at_9 (by decide) (by decide) rfl ?_
    intro h_241 a_242 q_243 E_244 A_245 D_246
    have g_247 : n0 ≤ a_242 := q_243 ▸ z0
    have z_249 : n0 ≤ h_241.size := Nat.le_trans z0 E_244.1
    have O_250 : Old Z n0 h_241 := hO.ext E_244
    have f_248 : Sta Z h_241 "com/example/forward_planner/forwardplanner/heuristic/IntList" "$assertionsDisabled" "Z" (.int (1 : Int32)) := Sta.ext O_250.2 hS
    have t_251 : a_242 < h_241.size := A_245.lt
    have f_252 : Fld Z h_241 a_242 "com/example/forward_planner/forwardplanner/heuristic/IntList" "elements" "[I" .null := D_246 (Or.inl (hw _ (List.mem_of_getElem? (i := 11) rfl))) (ty := (.array .int)) (by decide)
    have f_253 : Fld Z h_241 a_242 "com/example/forward_planner/forwardplanner/heuristic/IntList" "size" "I" (.int (0 : Int32)) := D_246 (Or.inl (hw _ (List.mem_of_getElem? (i := 18) rfl))) (ty := .int) (by decide)
    refine Go.dup (pc' := 13) at_12 rfl rfl ?_
    refine Go.callN (pc' := 16) (argsL := []) (rest := [(.ref a_242)]) (W := 1) rfl (hw _ (List.mem_of_getElem? (i := 3) rfl)) (hw _ (List.mem_of_getElem? (i := 4) rfl)) (hw _ (List.mem_of_getElem? (i := 2) rfl)) (hw _ (List.mem_of_getElem? (i := 5) rfl)) (by decide) (m_i l Z a0 hw a_242 h_241 n0 z_249 A_245 f_252 f_253 g_247) at_13 rfl pd0 rfl rfl (Nat.le_of_eq rfl) (by decide) (by decide) (by decide) (by decide) rfl ?_
    rintro _ h_254 ⟨rfl, e_255, K_256, E_257, F_258, G_259, A_260, q_261, t_262⟩
    have n_263 : a_242 ≠ e_255 := Nat.ne_of_lt (Nat.lt_of_lt_of_le t_251 q_261)
    have g_264 : n0 ≤ e_255 := Nat.le_trans z_249 q_261
    have f_266 : Exa Z h_254 a_242 "com/example/forward_planner/forwardplanner/heuristic/IntList" := A_245.keep K_256
    have t_269 : a_242 < h_254.size := Nat.lt_of_lt_of_le t_251 K_256.1
    have z_270 : n0 ≤ h_254.size := Nat.le_trans z_249 K_256.1
    have O_271 : Old Z n0 h_254 := O_250.keep K_256 (allS g_247 all0)
    have f_265 : Sta Z h_254 "com/example/forward_planner/forwardplanner/heuristic/IntList" "$assertionsDisabled" "Z" (.int (1 : Int32)) := Sta.ext O_271.2 hS
    show (Go false l room_1 Z x code maxLocals ret n0 16 128 (fun v h => v = some (.int 1))) h_254 (0 + 1 + 1) (0 + 2 + 8) 16 #[.val (.int x0), .val (.int x1), .val (.int x2), .val (.int k0), .val (.int (3 : Int32)), .unset, .unset, .unset, .unset, .unset, .unset] [(.ref a_242)]
    refine Go.astore (pc' := 18) (Ls' := #[.val (.int x0), .val (.int x1), .val (.int x2), .val (.int k0), .val (.int (3 : Int32)), .val (.ref a_242), .unset, .unset, .unset, .unset, .unset]) at_16 rfl rfl rfl ?_
    refine Go.aload (pc' := 20) at_18 rfl rfl rfl ?_
    refine Go.iloadN (pc' := 21) at_20 rfl rfl ?_
    refine Go.callV (pc' := 24) (argsL := [(.int x0)]) (rest := []) (W := 0) (hw _ (List.mem_of_getElem? (i := 12) rfl)) (hw _ (List.mem_of_getElem? (i := 13) rfl)) (hw _ (List.mem_of_getElem? (i := 15) rfl)) (hw _ (List.mem_of_getElem? (i := 14) rfl)) (hw _ (List.mem_of_getElem? (i := 2) rfl)) (hw _ (List.mem_of_getElem? (i := 16) rfl)) (by decide) f_266 (m_a l Z a0 hw a_242 e_255 x0 (0 : Int32) 0 [(.int (0 : Int32)), (.int (0 : Int32)), (.int (0 : Int32)), (.int (0 : Int32)), (.int (0 : Int32)), (.int (0 : Int32)), (.int (0 : Int32)), (.int (0 : Int32))] h_254 n0 z_270 f_266 F_258 G_259 A_260 rfl (by decide) rfl n_263 g_247 g_264) at_21 rfl pd1 rfl rfl (Nat.le_of_eq rfl) (by decide) (by decide) (by decide) (by decide) rfl ?_
    rintro _ h_272 ⟨rfl, K_273, E_274, F_275, G_276, A_277⟩
    have f_278 : Exa Z h_272 a_242 "com/example/forward_planner/forwardplanner/heuristic/IntList" := f_266.keep K_273
    have t_283 : a_242 < h_272.size := Nat.lt_of_lt_of_le t_269 K_273.1
    have t_284 : e_255 < h_272.size := Nat.lt_of_lt_of_le t_262 K_273.1
    have z_285 : n0 ≤ h_272.size := Nat.le_trans z_270 K_273.1
    have O_286 : Old Z n0 h_272 := O_271.keep K_273 (allS g_247 (allS g_264 all0))
    have f_279 : Sta Z h_272 "com/example/forward_planner/forwardplanner/heuristic/IntList" "$assertionsDisabled" "Z" (.int (1 : Int32)) := Sta.ext O_286.2 hS
    change Fld Z h_272 a_242 "com/example/forward_planner/forwardplanner/heuristic/IntList" "size" "I" (.int (1 : Int32)) at G_276
    change Ary Z h_272 e_255 .int [(.int x0), (.int (0 : Int32)), (.int (0 : Int32)), (.int (0 : Int32)), (.int (0 : Int32)), (.int (0 : Int32)), (.int (0 : Int32)), (.int (0 : Int32))] at A_277
    show (Go false l room_1 Z x code maxLocals ret n0 16 128 (fun v h => v = some (.int 1))) h_272 (0 + 1 + 1 + 0) (0 + 2 + 8 + 0) 24 #[.val (.int x0), .val (.int x1), .val (.int x2), .val (.int k0), .val (.int (3 : Int32)), .val (.ref a_242), .unset, .unset, .unset, .unset, .unset] []
    refine Go.iload (pc' := 26) at_24 rfl rfl ?_
    refine Go.iconst (pc' := 27) (v := (2 : Int32)) at_26 rfl rfl ?_
    refine Go.icmp (pc1 := 36) (pc2 := 30) at_27 (by decide) (by decide) rfl (fun (c_287 : (3 : Int) < (2 : Int)) => ?_) (fun (c_287 : (2 : Int) ≤ (3 : Int)) => ?_)
    · exact absurd c_287 (by decide)
    refine Go.aload (pc' := 32) at_30 rfl rfl rfl ?_
    refine Go.iloadN (pc' := 33) at_32 rfl rfl ?_
    refine Go.callV (pc' := 36) (argsL := [(.int x1)]) (rest := []) (W := 0) (hw _ (List.mem_of_getElem? (i := 12) rfl)) (hw _ (List.mem_of_getElem? (i := 13) rfl)) (hw _ (List.mem_of_getElem? (i := 15) rfl)) (hw _ (List.mem_of_getElem? (i := 14) rfl)) (hw _ (List.mem_of_getElem? (i := 2) rfl)) (hw _ (List.mem_of_getElem? (i := 16) rfl)) (by decide) f_278 (m_a l Z a0 hw a_242 e_255 x1 (1 : Int32) 1 [(.int x0), (.int (0 : Int32)), (.int (0 : Int32)), (.int (0 : Int32)), (.int (0 : Int32)), (.int (0 : Int32)), (.int (0 : Int32)), (.int (0 : Int32))] h_272 n0 z_285 f_278 F_275 G_276 A_277 rfl (by decide) rfl n_263 g_247 g_264) at_33 rfl pd1 rfl rfl (Nat.le_of_eq rfl) (by decide) (by decide) (by decide) (by decide) rfl ?_
    rintro _ h_288 ⟨rfl, K_289, E_290, F_291, G_292, A_293⟩
    have f_294 : Exa Z h_288 a_242 "com/example/forward_planner/forwardplanner/heuristic/IntList" := f_278.keep K_289
    have t_299 : a_242 < h_288.size := Nat.lt_of_lt_of_le t_283 K_289.1
    have t_300 : e_255 < h_288.size := Nat.lt_of_lt_of_le t_284 K_289.1
    have z_301 : n0 ≤ h_288.size := Nat.le_trans z_285 K_289.1
    have O_302 : Old Z n0 h_288 := O_286.keep K_289 (allS g_247 (allS g_264 all0))
    have f_295 : Sta Z h_288 "com/example/forward_planner/forwardplanner/heuristic/IntList" "$assertionsDisabled" "Z" (.int (1 : Int32)) := Sta.ext O_302.2 hS
    change Fld Z h_288 a_242 "com/example/forward_planner/forwardplanner/heuristic/IntList" "size" "I" (.int (2 : Int32)) at G_292
    change Ary Z h_288 e_255 .int [(.int x0), (.int x1), (.int (0 : Int32)), (.int (0 : Int32)), (.int (0 : Int32)), (.int (0 : Int32)), (.int (0 : Int32)), (.int (0 : Int32))] at A_293
    show (Go false l room_1 Z x code maxLocals ret n0 16 128 (fun v h => v = some (.int 1))) h_288 (0 + 1 + 1 + 0 + 0) (0 + 2 + 8 + 0 + 0) 36 #[.val (.int x0), .val (.int x1), .val (.int x2), .val (.int k0), .val (.int (3 : Int32)), .val (.ref a_242), .unset, .unset, .unset, .unset, .unset] []
    refine Go.iload (pc' := 38) at_36 rfl rfl ?_
    refine Go.iconst (pc' := 39) (v := (3 : Int32)) at_38 rfl rfl ?_
    refine Go.icmp (pc1 := 48) (pc2 := 42) at_39 (by decide) (by decide) rfl (fun (c_303 : (3 : Int) < (3 : Int)) => ?_) (fun (c_303 : (3 : Int) ≤ (3 : Int)) => ?_)
    · exact absurd c_303 (by decide)
    refine Go.aload (pc' := 44) at_42 rfl rfl rfl ?_
    refine Go.iloadN (pc' := 45) at_44 rfl rfl ?_
    refine Go.callV (pc' := 48) (argsL := [(.int x2)]) (rest := []) (W := 0) (hw _ (List.mem_of_getElem? (i := 12) rfl)) (hw _ (List.mem_of_getElem? (i := 13) rfl)) (hw _ (List.mem_of_getElem? (i := 15) rfl)) (hw _ (List.mem_of_getElem? (i := 14) rfl)) (hw _ (List.mem_of_getElem? (i := 2) rfl)) (hw _ (List.mem_of_getElem? (i := 16) rfl)) (by decide) f_294 (m_a l Z a0 hw a_242 e_255 x2 (2 : Int32) 2 [(.int x0), (.int x1), (.int (0 : Int32)), (.int (0 : Int32)), (.int (0 : Int32)), (.int (0 : Int32)), (.int (0 : Int32)), (.int (0 : Int32))] h_288 n0 z_301 f_294 F_291 G_292 A_293 rfl (by decide) rfl n_263 g_247 g_264) at_45 rfl pd1 rfl rfl (Nat.le_of_eq rfl) (by decide) (by decide) (by decide) (by decide) rfl ?_
    rintro _ h_304 ⟨rfl, K_305, E_306, F_307, G_308, A_309⟩
    have f_310 : Exa Z h_304 a_242 "com/example/forward_planner/forwardplanner/heuristic/IntList" := f_294.keep K_305
    have t_315 : a_242 < h_304.size := Nat.lt_of_lt_of_le t_299 K_305.1
    have t_316 : e_255 < h_304.size := Nat.lt_of_lt_of_le t_300 K_305.1
    have z_317 : n0 ≤ h_304.size := Nat.le_trans z_301 K_305.1
    have O_318 : Old Z n0 h_304 := O_302.keep K_305 (allS g_247 (allS g_264 all0))
    have f_311 : Sta Z h_304 "com/example/forward_planner/forwardplanner/heuristic/IntList" "$assertionsDisabled" "Z" (.int (1 : Int32)) := Sta.ext O_318.2 hS
    change Fld Z h_304 a_242 "com/example/forward_planner/forwardplanner/heuristic/IntList" "size" "I" (.int (3 : Int32)) at G_308
    change Ary Z h_304 e_255 .int [(.int x0), (.int x1), (.int x2), (.int (0 : Int32)), (.int (0 : Int32)), (.int (0 : Int32)), (.int (0 : Int32)), (.int (0 : Int32))] at A_309
    show (Go false l room_1 Z x code maxLocals ret n0 16 128 (fun v h => v = some (.int 1))) h_304 (0 + 1 + 1 + 0 + 0 + 0) (0 + 2 + 8 + 0 + 0 + 0) 48 #[.val (.int x0), .val (.int x1), .val (.int x2), .val (.int k0), .val (.int (3 : Int32)), .val (.ref a_242), .unset, .unset, .unset, .unset, .unset] []
    refine Go.iload (pc' := 50) at_48 rfl rfl ?_
    refine Go.iconst (pc' := 51) (v := (1 : Int32)) at_50 rfl rfl ?_
    refine Go.icmp (pc1 := 60) (pc2 := 54) at_51 (by decide) (by decide) rfl (fun (c_319 : (3 : Int) ≠ (1 : Int)) => ?_) (fun (c_319 : (3 : Int) = (1 : Int)) => ?_)
    rotate_left
    · exact absurd c_319 (by decide)
    refine Go.iload (pc' := 62) at_60 rfl rfl ?_
    refine Go.iconst (pc' := 63) (v := (2 : Int32)) at_62 rfl rfl ?_
    refine Go.icmp (pc1 := 72) (pc2 := 66) at_63 (by decide) (by decide) rfl (fun (c_320 : (3 : Int) ≠ (2 : Int)) => ?_) (fun (c_320 : (3 : Int) = (2 : Int)) => ?_)
    rotate_left
    · exact absurd c_320 (by decide)
    refine Go.iloadN (pc' := 73) at_72 rfl rfl ?_
    refine Go.istore (pc' := 75) (Ls' := #[.val (.int x0), .val (.int x1), .val (.int x2), .val (.int k0), .val (.int (3 : Int32)), .val (.ref a_242), .val (.int x2), .unset, .unset, .unset, .unset]) at_73 rfl rfl ?_
    refine Go.aload (pc' := 77) at_75 rfl rfl rfl ?_
    refine Go.callV (pc' := 80) (argsL := []) (rest := []) (W := 0) (hw _ (List.mem_of_getElem? (i := 19) rfl)) (hw _ (List.mem_of_getElem? (i := 20) rfl)) (hw _ (List.mem_of_getElem? (i := 22) rfl)) (hw _ (List.mem_of_getElem? (i := 21) rfl)) (hw _ (List.mem_of_getElem? (i := 2) rfl)) (hw _ (List.mem_of_getElem? (i := 23) rfl)) (by decide) f_310 (m_r l Z a0 hw a_242 e_255 (3 : Int32) x2 2 [(.int x0), (.int x1), (.int x2), (.int (0 : Int32)), (.int (0 : Int32)), (.int (0 : Int32)), (.int (0 : Int32)), (.int (0 : Int32))] h_304 n0 z_317 f_310 F_307 G_308 A_309 f_311 rfl rfl n_263 g_247 g_264) at_77 rfl pd2 rfl rfl (Nat.le_of_eq rfl) (by decide) (by decide) (by decide) (by decide) rfl ?_
    rintro _ h_321 ⟨rfl, K_322, E_323, F_324, G_325, A_326⟩
    have f_327 : Exa Z h_321 a_242 "com/example/forward_planner/forwardplanner/heuristic/IntList" := f_310.keep K_322
    have f_331 : Ary Z h_321 e_255 .int [(.int x0), (.int x1), (.int x2), (.int (0 : Int32)), (.int (0 : Int32)), (.int (0 : Int32)), (.int (0 : Int32)), (.int (0 : Int32))] := A_309.sm (Sm.keep K_322 (ninS n_263.symm nin0))
    have t_332 : a_242 < h_321.size := Nat.lt_of_lt_of_le t_315 K_322.1
    have t_333 : e_255 < h_321.size := Nat.lt_of_lt_of_le t_316 K_322.1
    have z_334 : n0 ≤ h_321.size := Nat.le_trans z_317 K_322.1
    have O_335 : Old Z n0 h_321 := O_318.keep K_322 (allS g_247 all0)
    have f_328 : Sta Z h_321 "com/example/forward_planner/forwardplanner/heuristic/IntList" "$assertionsDisabled" "Z" (.int (1 : Int32)) := Sta.ext O_335.2 hS
    change Fld Z h_321 a_242 "com/example/forward_planner/forwardplanner/heuristic/IntList" "size" "I" (.int (2 : Int32)) at G_325
    show (Go false l room_1 Z x code maxLocals ret n0 16 128 (fun v h => v = some (.int 1))) h_321 (0 + 1 + 1 + 0 + 0 + 0 + 0) (0 + 2 + 8 + 0 + 0 + 0 + 0) 80 #[.val (.int x0), .val (.int x1), .val (.int x2), .val (.int k0), .val (.int (3 : Int32)), .val (.ref a_242), .val (.int x2), .unset, .unset, .unset, .unset] [(.int x2)]
    refine Go.istore (pc' := 82) (Ls' := #[.val (.int x0), .val (.int x1), .val (.int x2), .val (.int k0), .val (.int (3 : Int32)), .val (.ref a_242), .val (.int x2), .val (.int x2), .unset, .unset, .unset]) at_80 rfl rfl ?_
    refine Go.iload (pc' := 84) at_82 rfl rfl ?_
    refine Go.iload (pc' := 86) at_84 rfl rfl ?_
    refine Go.icmp (pc1 := 105) (pc2 := 89) at_86 (by decide) (by decide) rfl (fun (c_336 : x2.toInt ≠ x2.toInt) => ?_) (fun (c_336 : x2.toInt = x2.toInt) => ?_)
    · exact absurd rfl c_336
    refine Go.aload (pc' := 91) at_89 rfl rfl rfl ?_
    refine Go.callV (pc' := 94) (argsL := []) (rest := []) (W := 0) (hw _ (List.mem_of_getElem? (i := 26) rfl)) (hw _ (List.mem_of_getElem? (i := 27) rfl)) (hw _ (List.mem_of_getElem? (i := 29) rfl)) (hw _ (List.mem_of_getElem? (i := 28) rfl)) (hw _ (List.mem_of_getElem? (i := 2) rfl)) (hw _ (List.mem_of_getElem? (i := 30) rfl)) (by decide) f_327 (m_s l Z a0 hw a_242 (2 : Int32) h_321 n0 z_334 G_325) at_91 rfl pd2 rfl rfl (Nat.le_of_eq rfl) (by decide) (by decide) (by decide) (by decide) rfl ?_
    rintro _ _ ⟨rfl, rfl⟩
    show (Go false l room_1 Z x code maxLocals ret n0 16 128 (fun v h => v = some (.int 1))) h_321 (0 + 1 + 1 + 0 + 0 + 0 + 0 + 0) (0 + 2 + 8 + 0 + 0 + 0 + 0 + 0) 94 #[.val (.int x0), .val (.int x1), .val (.int x2), .val (.int k0), .val (.int (3 : Int32)), .val (.ref a_242), .val (.int x2), .val (.int x2), .unset, .unset, .unset] [(.int (2 : Int32))]
    refine Go.iload (pc' := 96) at_94 rfl rfl ?_
    refine Go.iconst (pc' := 97) (v := (1 : Int32)) at_96 rfl rfl ?_
    refine Go.isub (pc' := 98) at_97 rfl ?_
    show (Go false l room_1 Z x code maxLocals ret n0 16 128 (fun v h => v = some (.int 1))) h_321 (0 + 1 + 1 + 0 + 0 + 0 + 0 + 0) (0 + 2 + 8 + 0 + 0 + 0 + 0 + 0) 98 #[.val (.int x0), .val (.int x1), .val (.int x2), .val (.int k0), .val (.int (3 : Int32)), .val (.ref a_242), .val (.int x2), .val (.int x2), .unset, .unset, .unset] [(.int (2 : Int32)), (.int (2 : Int32))]
    refine Go.icmp (pc1 := 105) (pc2 := 101) at_98 (by decide) (by decide) rfl (fun (c_337 : (2 : Int) ≠ (2 : Int)) => ?_) (fun (c_337 : (2 : Int) = (2 : Int)) => ?_)
    · exact absurd c_337 (by decide)
    refine Go.iconst (pc' := 102) (v := (1 : Int32)) at_101 rfl rfl ?_
    refine Go.goto (pc' := 106) at_102 (by decide) (by decide) ?_
    refine Go.istore (pc' := 108) (Ls' := #[.val (.int x0), .val (.int x1), .val (.int x2), .val (.int k0), .val (.int (3 : Int32)), .val (.ref a_242), .val (.int x2), .val (.int x2), .val (.int (1 : Int32)), .unset, .unset]) at_106 rfl rfl ?_
    refine Go.iload (pc' := 110) at_108 rfl rfl ?_
    refine Go.iconst (pc' := 111) (v := (2 : Int32)) at_110 rfl rfl ?_
    refine Go.icmp (pc1 := 191) (pc2 := 114) at_111 (by decide) (by decide) rfl (fun (c_338 : (3 : Int) < (2 : Int)) => ?_) (fun (c_338 : (2 : Int) ≤ (3 : Int)) => ?_)
    · exact absurd c_338 (by decide)
    refine Go.iload (pc' := 116) at_114 rfl rfl ?_
    refine Go.iconst (pc' := 117) (v := (2 : Int32)) at_116 rfl rfl ?_
    refine Go.icmp (pc1 := 124) (pc2 := 120) at_117 (by decide) (by decide) rfl (fun (c_339 : (3 : Int) ≠ (2 : Int)) => ?_) (fun (c_339 : (3 : Int) = (2 : Int)) => ?_)
    rotate_left
    · exact absurd c_339 (by decide)
    refine Go.iloadN (pc' := 125) at_124 rfl rfl ?_
    refine Go.istore (pc' := 127) (Ls' := #[.val (.int x0), .val (.int x1), .val (.int x2), .val (.int k0), .val (.int (3 : Int32)), .val (.ref a_242), .val (.int x2), .val (.int x2), .val (.int (1 : Int32)), .val (.int x1), .unset]) at_125 rfl rfl ?_
    refine Go.iload (pc' := 129) at_127 rfl rfl ?_
    refine Go.ifc (pc1 := 150) (pc2 := 132) at_129 (by decide) (by decide) rfl (fun (c_340 : (1 : Int) = 0) => ?_) (fun (c_340 : (1 : Int) ≠ 0) => ?_)
    · exact absurd c_340 (by decide)
    refine Go.aload (pc' := 134) at_132 rfl rfl rfl ?_
    refine Go.iload (pc' := 136) at_134 rfl rfl ?_
    refine Go.iconst (pc' := 137) (v := (2 : Int32)) at_136 rfl rfl ?_
    refine Go.isub (pc' := 138) at_137 rfl ?_
    show (Go false l room_1 Z x code maxLocals ret n0 16 128 (fun v h => v = some (.int 1))) h_321 (0 + 1 + 1 + 0 + 0 + 0 + 0 + 0) (0 + 2 + 8 + 0 + 0 + 0 + 0 + 0) 138 #[.val (.int x0), .val (.int x1), .val (.int x2), .val (.int k0), .val (.int (3 : Int32)), .val (.ref a_242), .val (.int x2), .val (.int x2), .val (.int (1 : Int32)), .val (.int x1), .unset] [(.int (1 : Int32)), (.ref a_242)]
    refine Go.callV (pc' := 141) (argsL := [(.int (1 : Int32))]) (rest := []) (W := 0) (hw _ (List.mem_of_getElem? (i := 31) rfl)) (hw _ (List.mem_of_getElem? (i := 32) rfl)) (hw _ (List.mem_of_getElem? (i := 34) rfl)) (hw _ (List.mem_of_getElem? (i := 33) rfl)) (hw _ (List.mem_of_getElem? (i := 2) rfl)) (hw _ (List.mem_of_getElem? (i := 35) rfl)) (by decide) f_327 (m_g l Z a0 hw a_242 e_255 (1 : Int32) (2 : Int32) x1 1 [(.int x0), (.int x1), (.int x2), (.int (0 : Int32)), (.int (0 : Int32)), (.int (0 : Int32)), (.int (0 : Int32)), (.int (0 : Int32))] h_321 n0 z_334 f_327 F_324 G_325 f_331 f_328 rfl rfl) at_138 rfl pd3 rfl rfl (Nat.le_of_eq rfl) (by decide) (by decide) (by decide) (by decide) rfl ?_
    rintro _ _ ⟨rfl, rfl⟩
    show (Go false l room_1 Z x code maxLocals ret n0 16 128 (fun v h => v = some (.int 1))) h_321 (0 + 1 + 1 + 0 + 0 + 0 + 0 + 0 + 0) (0 + 2 + 8 + 0 + 0 + 0 + 0 + 0 + 0) 141 #[.val (.int x0), .val (.int x1), .val (.int x2), .val (.int k0), .val (.int (3 : Int32)), .val (.ref a_242), .val (.int x2), .val (.int x2), .val (.int (1 : Int32)), .val (.int x1), .unset] [(.int x1)]
    refine Go.iload (pc' := 143) at_141 rfl rfl ?_
    refine Go.icmp (pc1 := 150) (pc2 := 146) at_143 (by decide) (by decide) rfl (fun (c_341 : x1.toInt ≠ x1.toInt) => ?_) (fun (c_341 : x1.toInt = x1.toInt) => ?_)
    · exact absurd rfl c_341
    refine Go.iconst (pc' := 147) (v := (1 : Int32)) at_146 rfl rfl ?_
    refine Go.goto (pc' := 151) at_147 (by decide) (by decide) ?_
    refine Go.istore (pc' := 153) (Ls' := #[.val (.int x0), .val (.int x1), .val (.int x2), .val (.int k0), .val (.int (3 : Int32)), .val (.ref a_242), .val (.int x2), .val (.int x2), .val (.int (1 : Int32)), .val (.int x1), .unset]) at_151 rfl rfl ?_
    refine Go.aload (pc' := 155) at_153 rfl rfl rfl ?_
    refine Go.callV (pc' := 158) (argsL := []) (rest := []) (W := 0) (hw _ (List.mem_of_getElem? (i := 19) rfl)) (hw _ (List.mem_of_getElem? (i := 20) rfl)) (hw _ (List.mem_of_getElem? (i := 22) rfl)) (hw _ (List.mem_of_getElem? (i := 21) rfl)) (hw _ (List.mem_of_getElem? (i := 2) rfl)) (hw _ (List.mem_of_getElem? (i := 23) rfl)) (by decide) f_327 (m_r l Z a0 hw a_242 e_255 (2 : Int32) x1 1 [(.int x0), (.int x1), (.int x2), (.int (0 : Int32)), (.int (0 : Int32)), (.int (0 : Int32)), (.int (0 : Int32)), (.int (0 : Int32))] h_321 n0 z_334 f_327 F_324 G_325 f_331 f_328 rfl rfl n_263 g_247 g_264) at_155 rfl pd2 rfl rfl (Nat.le_of_eq rfl) (by decide) (by decide) (by decide) (by decide) rfl ?_
    rintro _ h_342 ⟨rfl, K_343, E_344, F_345, G_346, A_347⟩
    have f_348 : Exa Z h_342 a_242 "com/example/forward_planner/forwardplanner/heuristic/IntList" := f_327.keep K_343
    have f_349 : Ary Z h_342 e_255 .int [(.int x0), (.int x1), (.int x2), (.int (0 : Int32)), (.int (0 : Int32)), (.int (0 : Int32)), (.int (0 : Int32)), (.int (0 : Int32))] := f_331.sm (Sm.keep K_343 (ninS n_263.symm nin0))
    have t_353 : a_242 < h_342.size := Nat.lt_of_lt_of_le t_332 K_343.1
    have t_354 : e_255 < h_342.size := Nat.lt_of_lt_of_le t_333 K_343.1
    have z_355 : n0 ≤ h_342.size := Nat.le_trans z_334 K_343.1
    have O_356 : Old Z n0 h_342 := O_335.keep K_343 (allS g_247 all0)
    have f_350 : Sta Z h_342 "com/example/forward_planner/forwardplanner/heuristic/IntList" "$assertionsDisabled" "Z" (.int (1 : Int32)) := Sta.ext O_356.2 hS
    change Fld Z h_342 a_242 "com/example/forward_planner/forwardplanner/heuristic/IntList" "size" "I" (.int (1 : Int32)) at G_346
    show (Go false l room_1 Z x code maxLocals ret n0 16 128 (fun v h => v = some (.int 1))) h_342 (0 + 1 + 1 + 0 + 0 + 0 + 0 + 0 + 0 + 0) (0 + 2 + 8 + 0 + 0 + 0 + 0 + 0 + 0 + 0) 158 #[.val (.int x0), .val (.int x1), .val (.int x2), .val (.int k0), .val (.int (3 : Int32)), .val (.ref a_242), .val (.int x2), .val (.int x2), .val (.int (1 : Int32)), .val (.int x1), .unset] [(.int x1)]
    refine Go.istore (pc' := 160) (Ls' := #[.val (.int x0), .val (.int x1), .val (.int x2), .val (.int k0), .val (.int (3 : Int32)), .val (.ref a_242), .val (.int x2), .val (.int x2), .val (.int (1 : Int32)), .val (.int x1), .val (.int x1)]) at_158 rfl rfl ?_
    refine Go.iload (pc' := 162) at_160 rfl rfl ?_
    refine Go.ifc (pc1 := 188) (pc2 := 165) at_162 (by decide) (by decide) rfl (fun (c_357 : (1 : Int) = 0) => ?_) (fun (c_357 : (1 : Int) ≠ 0) => ?_)
    · exact absurd c_357 (by decide)
    refine Go.iload (pc' := 167) at_165 rfl rfl ?_
    refine Go.iload (pc' := 169) at_167 rfl rfl ?_
    refine Go.icmp (pc1 := 188) (pc2 := 172) at_169 (by decide) (by decide) rfl (fun (c_358 : x1.toInt ≠ x1.toInt) => ?_) (fun (c_358 : x1.toInt = x1.toInt) => ?_)
    · exact absurd rfl c_358
    refine Go.aload (pc' := 174) at_172 rfl rfl rfl ?_
    refine Go.callV (pc' := 177) (argsL := []) (rest := []) (W := 0) (hw _ (List.mem_of_getElem? (i := 26) rfl)) (hw _ (List.mem_of_getElem? (i := 27) rfl)) (hw _ (List.mem_of_getElem? (i := 29) rfl)) (hw _ (List.mem_of_getElem? (i := 28) rfl)) (hw _ (List.mem_of_getElem? (i := 2) rfl)) (hw _ (List.mem_of_getElem? (i := 30) rfl)) (by decide) f_348 (m_s l Z a0 hw a_242 (1 : Int32) h_342 n0 z_355 G_346) at_174 rfl pd2 rfl rfl (Nat.le_of_eq rfl) (by decide) (by decide) (by decide) (by decide) rfl ?_
    rintro _ _ ⟨rfl, rfl⟩
    show (Go false l room_1 Z x code maxLocals ret n0 16 128 (fun v h => v = some (.int 1))) h_342 (0 + 1 + 1 + 0 + 0 + 0 + 0 + 0 + 0 + 0 + 0) (0 + 2 + 8 + 0 + 0 + 0 + 0 + 0 + 0 + 0 + 0) 177 #[.val (.int x0), .val (.int x1), .val (.int x2), .val (.int k0), .val (.int (3 : Int32)), .val (.ref a_242), .val (.int x2), .val (.int x2), .val (.int (1 : Int32)), .val (.int x1), .val (.int x1)] [(.int (1 : Int32))]
    refine Go.iload (pc' := 179) at_177 rfl rfl ?_
    refine Go.iconst (pc' := 180) (v := (2 : Int32)) at_179 rfl rfl ?_
    refine Go.isub (pc' := 181) at_180 rfl ?_
    show (Go false l room_1 Z x code maxLocals ret n0 16 128 (fun v h => v = some (.int 1))) h_342 (0 + 1 + 1 + 0 + 0 + 0 + 0 + 0 + 0 + 0 + 0) (0 + 2 + 8 + 0 + 0 + 0 + 0 + 0 + 0 + 0 + 0) 181 #[.val (.int x0), .val (.int x1), .val (.int x2), .val (.int k0), .val (.int (3 : Int32)), .val (.ref a_242), .val (.int x2), .val (.int x2), .val (.int (1 : Int32)), .val (.int x1), .val (.int x1)] [(.int (1 : Int32)), (.int (1 : Int32))]
    refine Go.icmp (pc1 := 188) (pc2 := 184) at_181 (by decide) (by decide) rfl (fun (c_359 : (1 : Int) ≠ (1 : Int)) => ?_) (fun (c_359 : (1 : Int) = (1 : Int)) => ?_)
    · exact absurd c_359 (by decide)
    refine Go.iconst (pc' := 185) (v := (1 : Int32)) at_184 rfl rfl ?_
    refine Go.goto (pc' := 189) at_185 (by decide) (by decide) ?_
    refine Go.istore (pc' := 191) (Ls' := #[.val (.int x0), .val (.int x1), .val (.int x2), .val (.int k0), .val (.int (3 : Int32)), .val (.ref a_242), .val (.int x2), .val (.int x2), .val (.int (1 : Int32)), .val (.int x1), .val (.int x1)]) at_189 rfl rfl ?_
    refine Go.iload (pc' := 193) at_191 rfl rfl ?_
    exact Go.retN (t := .boolean) at_193 rfl (by simp) rfl rfl (by decide) (by decide)
set_option maxRecDepth 65536 in
set_option maxHeartbeats 40000000 in
theorem comes_1 {Post : Tables → Env → Array Value → State → Outcome → State → Prop} (hpost : ∀ tb e args s v u, (limb_1_1.after args s (.returned v) u = true ∧ limb_1_2.after args s (.returned v) u = true ∧ True) → FrameEnd s (.returned v) u (Jvm.fieldLocs frame_1_writes args s ++ Jvm.arrayLocs frame_1_arrays args s ++ Jvm.staticLocs frame_1_statics s) 16 128 → Post tb e args s (.returned v) u) :
    ArmFor flags0 classFile x code maxLocals ret World_1 tables_1 room_1 Calls_1 rest_1 Pre_1 Post := by
  intro l hfl _ _ p e ha hc hk s m args below hf hA hF happ hP
  obtain ⟨hcalls, hrest, hpre⟩ := hP
  obtain ⟨-, -, -, hnamed, -, -, -, hat⟩ := (Spec.applies_iff hf).mp happ
  obtain ⟨hg, hn⟩ := and_e (Cond.before_iff.mp (show (Jvm.Cond.and given_1 narrow_1).before args s = true from hpre))
  obtain ⟨h1, hg1⟩ := and_e hg
  obtain ⟨w0, w1, w2, w3, rfl⟩ : ∃ w0 w1 w2 w3 : Value, args = #[w0, w1, w2, w3] := by
    have hs : args.size = 4 := by simpa [Cond.value, given_1] using h1
    obtain ⟨L⟩ := args
    match L, hs with
    | [w0, w1, w2, w3], _ => exact ⟨w0, w1, w2, w3, rfl⟩
  have hw := fun d (hd : d ∈ tables_1) => atoms_spec (ws := Jvm.Cond.code x code maxLocals ret :: tables_1) hat d (List.mem_cons_of_mem _ hd)
  have hfit : Fit s := fun {y c} hc i hi => by
    obtain ⟨ha, rfl⟩ := Array.getElem?_eq_some_iff.mp hc
    have q := List.all_eq_true.mp ((Array.all_eq_true_iff_forall_mem.mp hF) _ (Array.getElem_mem ha)) i (List.mem_range.mpr hi)
    simpa [Array.getElem?_eq_getElem hi] using q
  obtain ⟨b0, hg2⟩ := and_e hg1
  obtain ⟨i0, e0⟩ := is_v b0
  obtain rfl : w0 = (.int i0) := Option.some.inj e0
  obtain ⟨b1, hg3⟩ := and_e hg2
  obtain ⟨i1, e1⟩ := is_v b1
  obtain rfl : w1 = (.int i1) := Option.some.inj e1
  obtain ⟨b2, hg4⟩ := and_e hg3
  obtain ⟨i2, e2⟩ := is_v b2
  obtain rfl : w2 = (.int i2) := Option.some.inj e2
  obtain ⟨i3, e3⟩ := is_v hg4
  obtain rfl : w3 = (.int i3) := Option.some.inj e3
  have S1 := Sta.start (own_eqI hn) (Or.inr ⟨(hw _ (List.mem_of_getElem? (i := 2) rfl)), (hw _ (List.mem_of_getElem? (i := 25) rfl))⟩)
  obtain ⟨n, o, h1, h2, h3, _, L, rfl, ⟨⟨rfl, -⟩, N⟩, hq⟩ := rm1 l s _ hw tables_1 i0 i1 i2 i3 s.heap s.heap.size (Nat.le_refl _) (Old.start s) S1 p e ha hc hk s m _ below hf ((Spec.applies_iff_loose hf).mp happ).1 ⟨rfl, State.Warmed39.refl s, rfl⟩ trivial
  refine ⟨n, _, h1, h2, h3, hpost _ _ _ _ _ _ ⟨Cond.after_iff.mpr rfl, Cond.after_iff.mpr (eq_i res_at (Term.int_eval (1)) rfl), trivial⟩ ⟨hq.1, hq.2.1, (hq.2.2.sift fun y hy => Or.inr (N y hy)).mono (by decide) (by decide)⟩⟩
theorem main_1_1 : Claimed_1_1 := comes_1 fun _ _ _ _ _ _ h hF => ⟨h.1, hF⟩
theorem main_1_2 : Claimed_1_2 := comes_1 fun _ _ _ _ _ _ h hF => ⟨h.2.1, hF⟩
end Jvm.Pilot.@@N@@
namespace Jvm.Pilot.@@N@@
open Jvm Jvm.ClassFile Sem Op Lib Jvm.Free Jvm.Stand Jvm.Pilot.@@N@@.Jvm.D
/-! MADE BY PROGRAM (witnessworld.py) out of the Statement's table words and the real class files: 9 classes; the members and pool entries that the words name. The judged class is class 1, her method 1. -/
namespace start1
open Jvm.ClassFile
def u (s : String) : CpInfo := .utf8 (stringToUtf16 s)
/-- a pool by its gaps: so many unusable entries, then the entry; so many at the end -/
def gap : Nat → List CpInfo → List CpInfo
  | 0, r => r
  | n + 1, r => .unusable :: gap n r
def poolList (es : List (Nat × CpInfo)) (last : Nat) : List CpInfo := es.foldr (fun e r => gap e.1 (e.2 :: r)) (gap last [])
def pool (es : List (Nat × CpInfo)) (last : Nat) : Array CpInfo := ⟨poolList es last⟩
def fileOf (pool : Array CpInfo) (this : Nat) (attrs : Array Attribute := #[]) (ms : Array MethodInfo := #[]) (fl : Nat := 33) (sup : Nat := 0) (ifs : Array Nat := #[]) (fds : Array FieldInfo := #[]) : ClassFile where
  minorVersion := 0
  majorVersion := 65
  constantPool := pool
  accessFlags := fl
  thisClass := this
  superClass := sup
  interfaces := ifs
  fields := fds
  methods := ms
  attributes := attrs
def plain (name : String) (sup : Option ClassId) : Class where
  name := name
  kind := .ordinary
  loader := none
  accessFlags := 33
  super := sup
  interfaces := #[]
  cf := none
  fields := #[]
  methods := #[]
  instanceTypes := #[]
  staticTypes := #[]
  resolved := #[]
  callSites := []
  init := .initialized
  statics := none
  mirror := none

def pool0 : Array CpInfo := pool [(5, u "<init>"), (0, u "()V"), (1, .class_ 10), (1, u "java/lang/Object")] 113

def k0c0 : Code := { maxStack := 0, maxLocals := 1, code := object_method_1_code, exceptionTable := #[], attributes := #[] }
def k0m0 : Method := { name := "<init>", desc := "()V", sig := { parameters := [], returnType := none }, accessFlags := 1, code := some k0c0 }
/-- java/lang/Object -/
def k0 : Class := { plain "java/lang/Object" none with
  accessFlags := 33
  interfaces := #[]
  cf := some (fileOf pool0 8 #[] #[{ accessFlags := 1, nameIndex := 5, descriptorIndex := 6, attributes := #[] }] 33 0 #[] #[])
  fields := #[]
  methods := #[k0m0]
  instanceTypes := #[]
  staticTypes := #[]
  resolved := Array.replicate 124 none
  statics := none }

def pool1 : Array CpInfo := pool [(2, .class_ 4), (0, .nameAndType 5 6), (0, u "java/lang/Object"), (0, u "<init>"), (0, u "()V"), (0, .class_ 8), (0, u "com/example/forward_planner/forwardplanner/heuristic/IntList"), (0, .methodref 7 3), (0, .methodref 7 11), (0, .nameAndType 12 13), (0, u "add"), (0, u "(I)V"), (0, .methodref 7 15), (0, .nameAndType 16 17), (0, u "removeLast"), (0, u "()I"), (0, .methodref 7 19), (0, .nameAndType 20 17), (0, u "size"), (0, .methodref 7 22), (0, .nameAndType 23 24), (0, u "get"), (0, u "(I)I"), (0, .class_ 26), (0, u "com/example/forward_planner/forwardplanner/heuristic/IntListRemoveLastPinLaw"), (2, u "law"), (0, u "(IIII)Z")] 3

def k1m0 : Method := { name := "<init>", desc := "()V", sig := { parameters := [], returnType := none }, accessFlags := 1, code := none }
def k1c1 : Code := { maxStack := 3, maxLocals := 11, code := code, exceptionTable := #[], attributes := #[] }
def k1m1 : Method := { name := "law", desc := "(IIII)Z", sig := { parameters := [.int, .int, .int, .int], returnType := some .boolean }, accessFlags := 9, code := some k1c1 }
/-- com/example/forward_planner/forwardplanner/heuristic/IntListRemoveLastPinLaw -/
def k1 : Class := { plain "com/example/forward_planner/forwardplanner/heuristic/IntListRemoveLastPinLaw" (some 0) with
  accessFlags := 49
  interfaces := #[]
  cf := some (fileOf pool1 25 #[] #[{ accessFlags := 1, nameIndex := 5, descriptorIndex := 6, attributes := #[] }, { accessFlags := 9, nameIndex := 29, descriptorIndex := 30, attributes := #[] }] 49 2 #[] #[])
  fields := #[]
  methods := #[k1m0, k1m1]
  instanceTypes := #[]
  staticTypes := #[]
  resolved := Array.replicate 34 none
  statics := none }

def pool2 : Array CpInfo := pool [(1, .methodref 2 3), (0, .class_ 4), (0, .nameAndType 5 6), (0, u "java/lang/Object"), (0, u "<init>"), (0, u "()V"), (0, .fieldref 8 9), (0, .class_ 10), (0, .nameAndType 11 12), (0, u "com/example/forward_planner/forwardplanner/heuristic/IntList"), (0, u "elements"), (0, u "[I"), (0, .fieldref 8 14), (0, .nameAndType 15 16), (0, u "size"), (0, u "I"), (0, .fieldref 8 18), (0, .nameAndType 19 20), (0, u "$assertionsDisabled"), (0, u "Z"), (17, u "()I"), (0, u "get"), (0, u "(I)I"), (1, u "add"), (0, u "(I)V"), (0, u "removeLast")] 6

def k2c0 : Code := { maxStack := 2, maxLocals := 1, code := prog_22_method_1_code, exceptionTable := #[], attributes := #[] }
def k2m0 : Method := { name := "<init>", desc := "()V", sig := { parameters := [], returnType := none }, accessFlags := 0, code := some k2c0 }
def k2c1 : Code := { maxStack := 1, maxLocals := 1, code := prog_22_method_2_code, exceptionTable := #[], attributes := #[] }
def k2m1 : Method := { name := "size", desc := "()I", sig := { parameters := [], returnType := some .int }, accessFlags := 0, code := some k2c1 }
def k2c2 : Code := { maxStack := 2, maxLocals := 2, code := prog_22_method_3_code, exceptionTable := #[], attributes := #[] }
def k2m2 : Method := { name := "get", desc := "(I)I", sig := { parameters := [.int], returnType := some .int }, accessFlags := 0, code := some k2c2 }
def k2c3 : Code := { maxStack := 5, maxLocals := 2, code := prog_22_method_4_code, exceptionTable := #[], attributes := #[] }
def k2m3 : Method := { name := "add", desc := "(I)V", sig := { parameters := [.int], returnType := none }, accessFlags := 0, code := some k2c3 }
def k2c4 : Code := { maxStack := 4, maxLocals := 1, code := prog_22_method_5_code, exceptionTable := #[], attributes := #[] }
def k2m4 : Method := { name := "removeLast", desc := "()I", sig := { parameters := [], returnType := some .int }, accessFlags := 0, code := some k2c4 }
/-- com/example/forward_planner/forwardplanner/heuristic/IntList -/
def k2 : Class := { plain "com/example/forward_planner/forwardplanner/heuristic/IntList" (some 0) with
  accessFlags := 48
  interfaces := #[]
  cf := some (fileOf pool2 8 #[] #[{ accessFlags := 0, nameIndex := 5, descriptorIndex := 6, attributes := #[] }, { accessFlags := 0, nameIndex := 15, descriptorIndex := 38, attributes := #[] }, { accessFlags := 0, nameIndex := 39, descriptorIndex := 40, attributes := #[] }, { accessFlags := 0, nameIndex := 42, descriptorIndex := 43, attributes := #[] }, { accessFlags := 0, nameIndex := 44, descriptorIndex := 38, attributes := #[] }] 48 2 #[] #[{ accessFlags := 2, nameIndex := 11, descriptorIndex := 12, attributes := #[] }, { accessFlags := 2, nameIndex := 15, descriptorIndex := 16, attributes := #[] }, { accessFlags := 4120, nameIndex := 19, descriptorIndex := 20, attributes := #[] }])
  fields := #[{ name := "elements", type := (.array .int), accessFlags := 2, slot := 0, constantValue := 0 }, { name := "size", type := .int, accessFlags := 2, slot := 1, constantValue := 0 }, { name := "$assertionsDisabled", type := .boolean, accessFlags := 4120, slot := 0, constantValue := 0 }]
  methods := #[k2m0, k2m1, k2m2, k2m3, k2m4]
  instanceTypes := #[(.array .int), .int]
  staticTypes := #[.boolean]
  resolved := Array.replicate 51 none
  statics := some 0 }

def pool3 : Array CpInfo := pool [(1, u "java/lang/Cloneable"), (0, .class_ 1), (0, u "java/lang/Object"), (0, .class_ 3)] 3

/-- java/lang/Cloneable -/
def k3 : Class := { plain "java/lang/Cloneable" (some 0) with
  accessFlags := 1537
  interfaces := #[]
  cf := some (fileOf pool3 2 #[] #[] 1537 4 #[] #[])
  fields := #[]
  methods := #[]
  instanceTypes := #[]
  staticTypes := #[]
  resolved := Array.replicate 8 none
  statics := none }

def pool4 : Array CpInfo := pool [(1, u "java/io/Serializable"), (0, .class_ 1), (0, u "java/lang/Object"), (0, .class_ 3)] 3

/-- java/io/Serializable -/
def k4 : Class := { plain "java/io/Serializable" (some 0) with
  accessFlags := 1537
  interfaces := #[]
  cf := some (fileOf pool4 2 #[] #[] 1537 4 #[] #[])
  fields := #[]
  methods := #[]
  instanceTypes := #[]
  staticTypes := #[]
  resolved := Array.replicate 8 none
  statics := none }

/-- the primitive byte -/
def k5 : Class := { plain "byte" none with kind := .primitive 'B', accessFlags := 0x411 }
/-- [B -/
def k6 : Class := { plain "[B" (some 0) with kind := .array 5 .byte, interfaces := #[3, 4], accessFlags := 1041 }

/-- the primitive int -/
def k7 : Class := { plain "int" none with kind := .primitive 'I', accessFlags := 0x411 }
/-- [I -/
def k8 : Class := { plain "[I" (some 0) with kind := .array 7 .int, interfaces := #[3, 4], accessFlags := 1041 }

def heap : Heap := #[{ cls := 2, slots := #[.int 1], vm := .statics 2 }]
def classes : Array Class := #[k0, k1, k2, k3, k4, k5, k6, k7, k8]
def interned : List (Array UInt16 × Addr) := []
def slotsUsed : Nat := 1
def theMethod : MethodId := ⟨1, 1⟩
def args0 : Array Value := #[.int 5, .int 6, .int 7, .int 8]
def aboutOver (below : List Frame) : State where
  vm := { classes := classes, interned := interned.toArray }
  heap := heap
  slotsUsed := slotsUsed
  threads := #[{ frames := .invoking theMethod args0 :: below }]
def below0 : List Frame := [.native { method := ⟨0, 0⟩, args := #[] }]
def about1 : State := aboutOver below0
def p0 : Program := .bare "" "" ""
def e0 : Env := launch0.env 0 0 0
theorem w_frames : about1.frames = Frame.invoking theMethod args0 :: below0 := rfl
set_option maxRecDepth 65536 in
theorem w_args : argsFit about1.vm theMethod args0 = true := by decide +kernel
set_option maxRecDepth 65536 in
theorem w_heap : heapFits about1 = true := by decide +kernel
set_option maxRecDepth 65536 in
theorem w_runnable : about1.curStatus? = some .runnable := by decide +kernel
set_option maxRecDepth 65536 in
theorem w_alone : about1.alone = true := by decide +kernel
set_option maxRecDepth 65536 in
theorem w_named : about1.methodNamed? x = some theMethod := by decide +kernel
set_option maxRecDepth 65536 in
theorem w_hears : about1.hears theMethod below0 = true := by decide +kernel
set_option maxRecDepth 65536 in
theorem w_ripe : about1.ripe theMethod args0 below0 = true := by decide +kernel
theorem w_running : about1.status = .running := rfl
set_option maxRecDepth 65536 in
theorem w_room : about1.hasRoom e0.platform room_1 = true :=
  launch0.hasRoom_least _ room_1 (by decide +kernel) (by decide +kernel) (by decide +kernel) (by decide +kernel) (by decide +kernel) (by decide +kernel)
theorem allAtoms_all (ts : List Jvm.Cond) (a : Array Jvm.Value) (st : Jvm.State) : (allAtoms ts).before a st = ts.all (fun c => c.before a st) := by
  induction ts with
  | nil => rfl
  | cons c t ih =>
    show (Jvm.Cond.and c (allAtoms t)).before a st = _
    rw [Jvm.Cond.before_and, ih, List.all_cons]
def words1 : List Jvm.Cond := Jvm.Cond.code x code maxLocals ret :: tables_1
/-- a 'code' word, met by the world's own term for the bytes: nothing is compared byte by byte -/
theorem code_word {y : MethodName} {bytes : ByteArray} {mx : Nat} {rt : Option FieldType} {a : Array Value} {s : State} {m : MethodId} {meth : Method} {c : Code} (h1 : s.methodNamed? y = some m) (h2 : s.vm.method? m = some meth) (h3 : meth.code = some c) (h4 : c.code = bytes)
    (h5 : (c.maxLocals == mx && c.exceptionTable.isEmpty && decide (c.maxStack ≤ mostOperands) && decide (meth.sig.returnType = rt) && !meth.locks && decide (parseMethodDescriptor y.desc = some meth.sig)) = true) : (Jvm.Cond.code y bytes mx rt).before a s = true := by
  simp only [Bool.and_eq_true, beq_iff_eq, Bool.not_eq_true', decide_eq_true_eq] at h5
  obtain ⟨⟨⟨⟨⟨g1, g2⟩, g3⟩, g4⟩, g5⟩, g6⟩ := h5
  simp [Cond.before, Cond.holds, Cond.value, h1, h2, h3, h4, g1, g2, g3, g4, g5, g6]
def isCode : Jvm.Cond → Bool
  | .code _ _ _ _ => true
  | _ => false
theorem all_split {L : List Jvm.Cond} {P : Jvm.Cond → Bool} (h1 : L.all (fun c => isCode c || P c) = true) (h2 : ∀ c ∈ L.filter isCode, P c = true) : L.all P = true := by
  refine List.all_eq_true.mpr fun c hc => ?_
  have h := List.all_eq_true.mp h1 c hc
  rcases Bool.eq_false_or_eq_true (isCode c) with hi | hi
  · exact h2 c (List.mem_filter.mpr ⟨hc, hi⟩)
  · simpa [hi] using h
set_option maxRecDepth 65536 in
theorem w_c0 : (Jvm.Cond.code x code maxLocals ret).before args0 about1 = true := code_word (m := ⟨1, 1⟩) (meth := k1m1) (c := k1c1) (by decide +kernel) rfl rfl rfl (by decide +kernel)
set_option maxRecDepth 65536 in
theorem w_c1 : (Jvm.Cond.code ({ cls := "com/example/forward_planner/forwardplanner/heuristic/IntList", name := "<init>", desc := "()V" } : Jvm.MethodName) prog_22_method_1_code (1 : Nat) (Option.none : Option Jvm.ClassFile.FieldType)).before args0 about1 = true := code_word (m := ⟨2, 0⟩) (meth := k2m0) (c := k2c0) (by decide +kernel) rfl rfl rfl (by decide +kernel)
set_option maxRecDepth 65536 in
theorem w_c2 : (Jvm.Cond.code ({ cls := "java/lang/Object", name := "<init>", desc := "()V" } : Jvm.MethodName) object_method_1_code (1 : Nat) (Option.none : Option Jvm.ClassFile.FieldType)).before args0 about1 = true := code_word (m := ⟨0, 0⟩) (meth := k0m0) (c := k0c0) (by decide +kernel) rfl rfl rfl (by decide +kernel)
set_option maxRecDepth 65536 in
theorem w_c3 : (Jvm.Cond.code ({ cls := "com/example/forward_planner/forwardplanner/heuristic/IntList", name := "add", desc := "(I)V" } : Jvm.MethodName) prog_22_method_4_code (2 : Nat) (Option.none : Option Jvm.ClassFile.FieldType)).before args0 about1 = true := code_word (m := ⟨2, 3⟩) (meth := k2m3) (c := k2c3) (by decide +kernel) rfl rfl rfl (by decide +kernel)
set_option maxRecDepth 65536 in
theorem w_c4 : (Jvm.Cond.code ({ cls := "com/example/forward_planner/forwardplanner/heuristic/IntList", name := "removeLast", desc := "()I" } : Jvm.MethodName) prog_22_method_5_code (1 : Nat) (Option.some Jvm.ClassFile.FieldType.int)).before args0 about1 = true := code_word (m := ⟨2, 4⟩) (meth := k2m4) (c := k2c4) (by decide +kernel) rfl rfl rfl (by decide +kernel)
set_option maxRecDepth 65536 in
theorem w_c5 : (Jvm.Cond.code ({ cls := "com/example/forward_planner/forwardplanner/heuristic/IntList", name := "size", desc := "()I" } : Jvm.MethodName) prog_22_method_2_code (1 : Nat) (Option.some Jvm.ClassFile.FieldType.int)).before args0 about1 = true := code_word (m := ⟨2, 1⟩) (meth := k2m1) (c := k2c1) (by decide +kernel) rfl rfl rfl (by decide +kernel)
set_option maxRecDepth 65536 in
theorem w_c6 : (Jvm.Cond.code ({ cls := "com/example/forward_planner/forwardplanner/heuristic/IntList", name := "get", desc := "(I)I" } : Jvm.MethodName) prog_22_method_3_code (2 : Nat) (Option.some Jvm.ClassFile.FieldType.int)).before args0 about1 = true := code_word (m := ⟨2, 2⟩) (meth := k2m2) (c := k2c2) (by decide +kernel) rfl rfl rfl (by decide +kernel)
def codes1 : List Jvm.Cond := [Jvm.Cond.code x code maxLocals ret, Jvm.Cond.code ({ cls := "com/example/forward_planner/forwardplanner/heuristic/IntList", name := "<init>", desc := "()V" } : Jvm.MethodName) prog_22_method_1_code (1 : Nat) (Option.none : Option Jvm.ClassFile.FieldType), Jvm.Cond.code ({ cls := "java/lang/Object", name := "<init>", desc := "()V" } : Jvm.MethodName) object_method_1_code (1 : Nat) (Option.none : Option Jvm.ClassFile.FieldType), Jvm.Cond.code ({ cls := "com/example/forward_planner/forwardplanner/heuristic/IntList", name := "add", desc := "(I)V" } : Jvm.MethodName) prog_22_method_4_code (2 : Nat) (Option.none : Option Jvm.ClassFile.FieldType), Jvm.Cond.code ({ cls := "com/example/forward_planner/forwardplanner/heuristic/IntList", name := "removeLast", desc := "()I" } : Jvm.MethodName) prog_22_method_5_code (1 : Nat) (Option.some Jvm.ClassFile.FieldType.int), Jvm.Cond.code ({ cls := "com/example/forward_planner/forwardplanner/heuristic/IntList", name := "size", desc := "()I" } : Jvm.MethodName) prog_22_method_2_code (1 : Nat) (Option.some Jvm.ClassFile.FieldType.int), Jvm.Cond.code ({ cls := "com/example/forward_planner/forwardplanner/heuristic/IntList", name := "get", desc := "(I)I" } : Jvm.MethodName) prog_22_method_3_code (2 : Nat) (Option.some Jvm.ClassFile.FieldType.int)]
set_option maxRecDepth 65536 in
theorem codes_eq : words1.filter isCode = codes1 := rfl
theorem w_codes : ∀ c ∈ words1.filter isCode, c.before args0 about1 = true := by
  rw [codes_eq]
  intro c hc
  simp only [codes1, List.mem_cons, List.not_mem_nil, or_false] at hc
  rcases hc with rfl | rfl | rfl | rfl | rfl | rfl | rfl
  · exact w_c0
  · exact w_c1
  · exact w_c2
  · exact w_c3
  · exact w_c4
  · exact w_c5
  · exact w_c6
set_option maxRecDepth 65536 in
theorem w_t1 : (words1.take 24).all (fun c => isCode c || c.before args0 about1) = true := by decide +kernel
set_option maxRecDepth 65536 in
theorem w_t2 : (words1.drop 24).all (fun c => isCode c || c.before args0 about1) = true := by decide +kernel
theorem w_tables : (allAtoms (Jvm.Cond.code x code maxLocals ret :: tables_1)).before args0 about1 = true := by
  rw [allAtoms_all]
  show words1.all (fun c => c.before args0 about1) = true
  refine all_split ?_ w_codes
  rw [← List.take_append_drop 24 words1, List.all_append, w_t1, w_t2]
  rfl
set_option maxRecDepth 65536 in
theorem w_case : (Jvm.Cond.and given_1 narrow_1).before args0 about1 = true := by decide +kernel
theorem w_applies : (headSpec (Jvm.Cond.code x code maxLocals ret :: tables_1) room_1).applies x e0.platform about1 = true :=
  (Spec.applies_iff w_frames).mpr ⟨w_running, w_runnable, w_alone, w_named, w_hears, w_ripe, w_room, w_tables⟩
theorem atStart : AtStart classFile x code maxLocals ret World_1 tables_1 room_1 Calls_1 rest_1 Pre_1 launch0 p0 e0 about1 theMethod args0 below0 :=
  ⟨lists_1, trivial, launch0.admits_env _ _ _, launch0.least_env, fairChoices_fair.cas, fairChoices_fair.clock, w_frames, w_args, w_heap, w_applies, trivial, trivial, w_case⟩
end start1
theorem witness_1 : WitnessClaimed_1 := ⟨start1.p0, start1.e0, start1.about1, start1.theMethod, start1.args0, start1.below0, start1.atStart⟩
end Jvm.Pilot.@@N@@
