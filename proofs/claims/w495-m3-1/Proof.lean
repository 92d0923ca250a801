import JvmDerived
import JvmDerived.Pilot.@@N@@Statement
import JvmDerived.Pilot.@@N@@Code
set_option linter.unusedVariables false
set_option linter.unusedSimpArgs false
namespace Jvm.RoadKit
open Sem ClassFile Op Lib Jvm.Stand Jvm.Free Jvm.LawKit
/-- what a walk knows of the method that it walks -/
def Own (Z : State) (y : MethodName) (bytes : ByteArray) (maxL : Nat) (ret : Option FieldType) (p : Program) (s : State) (m : MethodId) (meth : Method) (c : Code) : Prop :=
  p.tables.exec = Jvm.exec ∧ c.code = bytes ∧ c.maxLocals = maxL ∧ s.vm.findClass y.cls = some m.cls ∧ meth.name = y.name ∧ Z.Warmed39 s.vm ∧ meth.sig.returnType = ret ∧ meth.locks = false
/-- how the start s over which the walk stands belongs to the true start s0 (wd: strings may have been interned since) -/
def GoRel (wd : Bool) (s0 s : State) (k : Nat) : Prop := match wd with
  | false => s0 = s
  | true => ∃ (vm0 : Vm) (k0 : Nat), s = s0.setVm vm0 ∧ s0.Since vm0 k0 ∧ k0 ≤ k
/-- the frame of the end -/
def GoEnd (wd : Bool) (s0 : State) (o : Outcome) (t : State) (L : List Loc) (K N : Nat) : Prop := match wd with
  | false => FrameEnd s0 o t L K N
  | true => ReturnedEndW s0 o t L K N
theorem GoRel.mono {wd : Bool} {s0 s : State} {k k' : Nat} (h : GoRel wd s0 s k) (q : k ≤ k') : GoRel wd s0 s k' := by
  cases wd
  · exact h
  · obtain ⟨vm0, k0, h1, h2, h3⟩ := h; exact ⟨vm0, k0, h1, h2, Nat.le_trans h3 q⟩
theorem GoRel.refl (wd : Bool) (s : State) (k : Nat) : GoRel wd s s k := by
  cases wd
  · rfl
  · exact ⟨s.vm, 0, rfl, (State.WarmedH.refl s).since 0, Nat.zero_le _⟩
theorem GoEnd.grow {wd : Bool} {s0 t : State} {o : Outcome} {L : List Loc} {K N : Nat} (h : GoEnd wd s0 o t L K N) : s0.heap.size ≤ t.heap.size := by
  cases wd
  · exact h.2.2.2.1
  · exact h.2.2.2.2.1
theorem GoRel.ended {wd : Bool} {s0 s : State} {v : Option Value} {U : State} {locs : List Loc} {c k c' k' : Nat} (h : GoRel wd s0 s U.heap.size) (hW : s.WarmedH U.vm) (hs : s.sameButNew ({ U with vm := s.vm } : State) locs c k) (hc : c ≤ c') (hk : k ≤ k') : GoEnd wd s0 (.returned v) U locs c' k' := by
  cases wd
  · obtain rfl : s0 = s := h
    exact ⟨⟨_, rfl⟩, hW, hs.mono hc hk⟩
  · obtain ⟨vm0, k0, rfl, h2, h3⟩ := h
    obtain ⟨q1, q2, q3⟩ := h2.ended hW h3 hs
    exact ⟨⟨_, rfl⟩, q1, q2, q3.mono hc hk⟩
/-- from pc, Ls, st over the heap h (so many cells and slots made so far) the walk comes to its end, and Q holds of what it returns and of the heap there; what it wrote lies at or above n0 -/
def Go (wd : Bool) (l : Launch) (R : Room) (Z : State) (y : MethodName) (bytes : ByteArray) (maxL : Nat) (ret : Option FieldType) (n0 K N : Nat) (Q : Option Value → Heap → Prop) (h : Heap) (cells slots pc : Nat) (Ls : Array Slot) (st : List Value) : Prop :=
  ∀ (p : Program) (e : Env) (s0 s : State) (m : MethodId) (args : Array Value) (below : List Frame) (meth : Method) (c : Code) (T : State) (locs : List Loc),
    GoRel wd s0 s h.size → Own Z y bytes maxL ret p s m meth c → Stand p l e R s m args below meth c T locs cells slots → T.heap = h → Fr n0 locs →
    ∃ s₂ o, Steps p.tables e below (T.setTop (mkF m pc Ls st)) s₂ ∧ s₂.status = .running ∧ Ended s₂ below o ∧ ∃ v L, o = .returned v ∧ (Q v s₂.heap ∧ Fr n0 L) ∧ GoEnd wd s0 o s₂ L K N
section GoLaws
variable {wd : Bool} {l : Launch} {R : Room} {Z : State} {y : MethodName} {bytes : ByteArray} {maxL : Nat} {ret : Option FieldType} {n0 K N : Nat} {Q : Option Value → Heap → Prop} {h : Heap} {cells slots pc pc' : Nat} {Ls Ls' : Array Slot} {st st' : List Value} {a0 : Array Value}
theorem Go.of (k : Go wd l R Z y bytes maxL ret n0 K N Q h cells slots pc' Ls' st')
    (q : ∀ (p : Program) (e : Env) (s : State) (m : MethodId) (args : Array Value) (below : List Frame) (meth : Method) (c : Code) (T : State) (locs : List Loc), Own Z y bytes maxL ret p s m meth c → Stand p l e R s m args below meth c T locs cells slots → T.heap = h →
      ∀ target, Steps p.tables e below (T.setTop (mkF m pc' Ls' st')) target → Steps p.tables e below (T.setTop (mkF m pc Ls st)) target) : Go wd l R Z y bytes maxL ret n0 K N Q h cells slots pc Ls st := by
  intro p e s0 s m args below meth c T locs hR O X eT F
  obtain ⟨s₂, o, h1, r⟩ := k p e s0 s m args below meth c T locs hR O X eT F
  exact ⟨s₂, o, q p e s m args below meth c T locs O X eT _ h1, r⟩
theorem Go.weaken {Q' : Option Value → Heap → Prop} (hQ : ∀ v h, Q' v h → Q v h) (k : Go wd l R Z y bytes maxL ret n0 K N Q' h cells slots pc Ls st) : Go wd l R Z y bytes maxL ret n0 K N Q h cells slots pc Ls st := by
  intro p e s0 s m args below meth c T locs hR O X eT F
  obtain ⟨s₂, o, h1, h2, h3, v, L, h4, h5, h6⟩ := k p e s0 s m args below meth c T locs hR O X eT F
  exact ⟨s₂, o, h1, h2, h3, v, L, h4, ⟨hQ _ _ h5.1, h5.2⟩, h6⟩
/-! plain steps -/
theorem Go.iload {k : Nat} {v : Int32} (hd : decode bytes pc = .ok (.iload k, 2)) (hl : Ls[k]? = some (.val (.int v))) (hp : pc + 2 = pc') (q : Go wd l R Z y bytes maxL ret n0 K N Q h cells slots pc' Ls (.int v :: st)) : Go wd l R Z y bytes maxL ret n0 K N Q h cells slots pc Ls st := by
  subst hp; exact Go.of q fun p e s m args below meth c T locs O X eT t hr => XS.iload X.here O.1 rfl (hb O.2.1 hd) hl hr
theorem Go.iloadN {k : Fin 4} {v : Int32} (hd : decode bytes pc = .ok (.iload_n k, 1)) (hl : Ls[k.val]? = some (.val (.int v))) (hp : pc + 1 = pc') (q : Go wd l R Z y bytes maxL ret n0 K N Q h cells slots pc' Ls (.int v :: st)) : Go wd l R Z y bytes maxL ret n0 K N Q h cells slots pc Ls st := by
  subst hp; exact Go.of q fun p e s m args below meth c T locs O X eT t hr => XS.iloadN X.here O.1 rfl (hb O.2.1 hd) hl hr
theorem Go.lload {k : Nat} {v : Int64} (hd : decode bytes pc = .ok (.lload k, 2)) (hl : Ls[k]? = some (.val (.long v))) (hp : pc + 2 = pc') (q : Go wd l R Z y bytes maxL ret n0 K N Q h cells slots pc' Ls (.long v :: st)) : Go wd l R Z y bytes maxL ret n0 K N Q h cells slots pc Ls st := by
  subst hp; exact Go.of q fun p e s m args below meth c T locs O X eT t hr => XS.lload X.here O.1 rfl (hb O.2.1 hd) hl hr
theorem Go.lloadN {k : Fin 4} {v : Int64} (hd : decode bytes pc = .ok (.lload_n k, 1)) (hl : Ls[k.val]? = some (.val (.long v))) (hp : pc + 1 = pc') (q : Go wd l R Z y bytes maxL ret n0 K N Q h cells slots pc' Ls (.long v :: st)) : Go wd l R Z y bytes maxL ret n0 K N Q h cells slots pc Ls st := by
  subst hp; exact Go.of q fun p e s m args below meth c T locs O X eT t hr => XS.lloadN X.here O.1 rfl (hb O.2.1 hd) hl hr
theorem Go.aload {k : Nat} {v : Value} (hd : decode bytes pc = .ok (.aload k, 2)) (hl : Ls[k]? = some (.val v)) (hv : v.isRef = true) (hp : pc + 2 = pc') (q : Go wd l R Z y bytes maxL ret n0 K N Q h cells slots pc' Ls (v :: st)) : Go wd l R Z y bytes maxL ret n0 K N Q h cells slots pc Ls st := by
  subst hp; exact Go.of q fun p e s m args below meth c T locs O X eT t hr => XS.aload X.here O.1 rfl (hb O.2.1 hd) hl hv hr
theorem Go.aloadN {k : Fin 4} {v : Value} (hd : decode bytes pc = .ok (.aload_n k, 1)) (hl : Ls[k.val]? = some (.val v)) (hv : v.isRef = true) (hp : pc + 1 = pc') (q : Go wd l R Z y bytes maxL ret n0 K N Q h cells slots pc' Ls (v :: st)) : Go wd l R Z y bytes maxL ret n0 K N Q h cells slots pc Ls st := by
  subst hp; exact Go.of q fun p e s m args below meth c T locs O X eT t hr => XS.aloadN X.here O.1 rfl (hb O.2.1 hd) hl hv hr
theorem Go.istore {k : Nat} {v : Int32} (hd : decode bytes pc = .ok (.istore k, 2)) (hl : storeLocals Ls k (.int v) = some Ls') (hp : pc + 2 = pc') (q : Go wd l R Z y bytes maxL ret n0 K N Q h cells slots pc' Ls' st) : Go wd l R Z y bytes maxL ret n0 K N Q h cells slots pc Ls (.int v :: st) := by
  subst hp; exact Go.of q fun p e s m args below meth c T locs O X eT t hr => XS.istore X.here O.1 rfl (hb O.2.1 hd) rfl hl hr
theorem Go.istoreN {k : Fin 4} {v : Int32} (hd : decode bytes pc = .ok (.istore_n k, 1)) (hl : storeLocals Ls k.val (.int v) = some Ls') (hp : pc + 1 = pc') (q : Go wd l R Z y bytes maxL ret n0 K N Q h cells slots pc' Ls' st) : Go wd l R Z y bytes maxL ret n0 K N Q h cells slots pc Ls (.int v :: st) := by
  subst hp; exact Go.of q fun p e s m args below meth c T locs O X eT t hr => XS.istoreN X.here O.1 rfl (hb O.2.1 hd) rfl hl hr
theorem Go.lstore {k : Nat} {v : Int64} (hd : decode bytes pc = .ok (.lstore k, 2)) (hl : storeLocals Ls k (.long v) = some Ls') (hp : pc + 2 = pc') (q : Go wd l R Z y bytes maxL ret n0 K N Q h cells slots pc' Ls' st) : Go wd l R Z y bytes maxL ret n0 K N Q h cells slots pc Ls (.long v :: st) := by
  subst hp; exact Go.of q fun p e s m args below meth c T locs O X eT t hr => XS.lstore X.here O.1 rfl (hb O.2.1 hd) rfl hl hr
theorem Go.lstoreN {k : Fin 4} {v : Int64} (hd : decode bytes pc = .ok (.lstore_n k, 1)) (hl : storeLocals Ls k.val (.long v) = some Ls') (hp : pc + 1 = pc') (q : Go wd l R Z y bytes maxL ret n0 K N Q h cells slots pc' Ls' st) : Go wd l R Z y bytes maxL ret n0 K N Q h cells slots pc Ls (.long v :: st) := by
  subst hp; exact Go.of q fun p e s m args below meth c T locs O X eT t hr => XS.lstoreN X.here O.1 rfl (hb O.2.1 hd) rfl hl hr
theorem Go.astore {k : Nat} {v : Value} (hd : decode bytes pc = .ok (.astore k, 2)) (hv : v.isRef = true) (hl : storeLocals Ls k v = some Ls') (hp : pc + 2 = pc') (q : Go wd l R Z y bytes maxL ret n0 K N Q h cells slots pc' Ls' st) : Go wd l R Z y bytes maxL ret n0 K N Q h cells slots pc Ls (v :: st) := by
  subst hp; exact Go.of q fun p e s m args below meth c T locs O X eT t hr => XS.astore X.here O.1 rfl (hb O.2.1 hd) rfl hv hl hr
theorem Go.astoreN {k : Fin 4} {v : Value} (hd : decode bytes pc = .ok (.astore_n k, 1)) (hv : v.isRef = true) (hl : storeLocals Ls k.val v = some Ls') (hp : pc + 1 = pc') (q : Go wd l R Z y bytes maxL ret n0 K N Q h cells slots pc' Ls' st) : Go wd l R Z y bytes maxL ret n0 K N Q h cells slots pc Ls (v :: st) := by
  subst hp; exact Go.of q fun p e s m args below meth c T locs O X eT t hr => XS.astoreN X.here O.1 rfl (hb O.2.1 hd) rfl hv hl hr
theorem Go.iinc {k : Nat} {cst : Int} {v w : Int32} (hd : decode bytes pc = .ok (.iinc k cst, 3)) (hl : Ls[k]? = some (.val (.int v))) (hw : v + Int32.ofInt cst = w) (hl' : storeLocals Ls k (.int w) = some Ls') (hp : pc + 3 = pc') (q : Go wd l R Z y bytes maxL ret n0 K N Q h cells slots pc' Ls' st) : Go wd l R Z y bytes maxL ret n0 K N Q h cells slots pc Ls st := by
  subst hp hw; exact Go.of q fun p e s m args below meth c T locs O X eT t hr => XS.iinc X.here O.1 rfl (hb O.2.1 hd) hl hl' hr
theorem Go.iconst {i : Int} {v : Int32} (hd : decode bytes pc = .ok (.iconst i, 1)) (hv : Int32.ofInt i = v) (hp : pc + 1 = pc') (q : Go wd l R Z y bytes maxL ret n0 K N Q h cells slots pc' Ls (.int v :: st)) : Go wd l R Z y bytes maxL ret n0 K N Q h cells slots pc Ls st := by
  subst hp hv; exact Go.of q fun p e s m args below meth c T locs O X eT t hr => XS.iconst X.here O.1 rfl (hb O.2.1 hd) hr
theorem Go.bipush {i : Int} {v : Int32} (hd : decode bytes pc = .ok (.bipush i, 2)) (hv : (Int8.ofInt i).toInt32 = v) (hp : pc + 2 = pc') (q : Go wd l R Z y bytes maxL ret n0 K N Q h cells slots pc' Ls (.int v :: st)) : Go wd l R Z y bytes maxL ret n0 K N Q h cells slots pc Ls st := by
  subst hp hv; exact Go.of q fun p e s m args below meth c T locs O X eT t hr => XS.bipush X.here O.1 rfl (hb O.2.1 hd) hr
theorem Go.sipush {i : Int} {v : Int32} (hd : decode bytes pc = .ok (.sipush i, 3)) (hv : (Int16.ofInt i).toInt32 = v) (hp : pc + 3 = pc') (q : Go wd l R Z y bytes maxL ret n0 K N Q h cells slots pc' Ls (.int v :: st)) : Go wd l R Z y bytes maxL ret n0 K N Q h cells slots pc Ls st := by
  subst hp hv; exact Go.of q fun p e s m args below meth c T locs O X eT t hr => XS.sipush X.here O.1 rfl (hb O.2.1 hd) hr
theorem Go.lconst {k : Fin 2} {v : Int64} (hd : decode bytes pc = .ok (.lconst k, 1)) (hv : Int64.ofNat k = v) (hp : pc + 1 = pc') (q : Go wd l R Z y bytes maxL ret n0 K N Q h cells slots pc' Ls (.long v :: st)) : Go wd l R Z y bytes maxL ret n0 K N Q h cells slots pc Ls st := by
  subst hp hv; exact Go.of q fun p e s m args below meth c T locs O X eT t hr => XS.lconst X.here O.1 rfl (hb O.2.1 hd) hr
theorem Go.aconstNull (hd : decode bytes pc = .ok (.aconst_null, 1)) (hp : pc + 1 = pc') (q : Go wd l R Z y bytes maxL ret n0 K N Q h cells slots pc' Ls (.null :: st)) : Go wd l R Z y bytes maxL ret n0 K N Q h cells slots pc Ls st := by
  subst hp; exact Go.of q fun p e s m args below meth c T locs O X eT t hr => XS.aconstNull X.here O.1 rfl (hb O.2.1 hd) hr
theorem Go.dup {v : Value} (hd : decode bytes pc = .ok (.dup, 1)) (hv : v.category = 1) (hp : pc + 1 = pc') (q : Go wd l R Z y bytes maxL ret n0 K N Q h cells slots pc' Ls (v :: v :: st)) : Go wd l R Z y bytes maxL ret n0 K N Q h cells slots pc Ls (v :: st) := by
  subst hp; exact Go.of q fun p e s m args below meth c T locs O X eT t hr => XS.dup X.here O.1 rfl (hb O.2.1 hd) rfl hv hr
theorem Go.dupX1 {v w : Value} (hd : decode bytes pc = .ok (.dup_x1, 1)) (hv : v.category = 1) (hw : w.category = 1) (hp : pc + 1 = pc') (q : Go wd l R Z y bytes maxL ret n0 K N Q h cells slots pc' Ls (v :: w :: v :: st)) : Go wd l R Z y bytes maxL ret n0 K N Q h cells slots pc Ls (v :: w :: st) := by
  subst hp; exact Go.of q fun p e s m args below meth c T locs O X eT t hr => XS.dupX1 X.here O.1 rfl (hb O.2.1 hd) rfl hv hw hr
theorem Go.dup2 {v w : Value} (hd : decode bytes pc = .ok (.dup2, 1)) (hv : v.category = 1) (hw : w.category = 1) (hp : pc + 1 = pc') (q : Go wd l R Z y bytes maxL ret n0 K N Q h cells slots pc' Ls (v :: w :: v :: w :: st)) : Go wd l R Z y bytes maxL ret n0 K N Q h cells slots pc Ls (v :: w :: st) := by
  subst hp; exact Go.of q fun p e s m args below meth c T locs O X eT t hr => XT.dup2 X.here O.1 rfl (hb O.2.1 hd) rfl hv hw hr
theorem Go.pop {v : Value} (hd : decode bytes pc = .ok (.pop, 1)) (hv : v.category = 1) (hp : pc + 1 = pc') (q : Go wd l R Z y bytes maxL ret n0 K N Q h cells slots pc' Ls st) : Go wd l R Z y bytes maxL ret n0 K N Q h cells slots pc Ls (v :: st) := by
  subst hp; exact Go.of q fun p e s m args below meth c T locs O X eT t hr => XS.pop X.here O.1 rfl (hb O.2.1 hd) rfl hv hr
theorem Go.goto {o : Int} (hd : decode bytes pc = .ok (.goto o, 3)) (ho : 0 ≤ (pc : Int) + o) (hp : ((pc : Int) + o).toNat = pc') (q : Go wd l R Z y bytes maxL ret n0 K N Q h cells slots pc' Ls st) : Go wd l R Z y bytes maxL ret n0 K N Q h cells slots pc Ls st :=
  Go.of q fun p e s m args below meth c T locs O X eT t hr => XS.goto X.here O.1 rfl (pc0 := pc) rfl (hb O.2.1 hd) ho hp hr
theorem Go.iadd {a : Int32} {b : Int32} (hd : decode bytes pc = .ok (.iadd, 1)) (hp : pc + 1 = pc') (q : Go wd l R Z y bytes maxL ret n0 K N Q h cells slots pc' Ls (.int (a + b) :: st)) : Go wd l R Z y bytes maxL ret n0 K N Q h cells slots pc Ls (.int b :: .int a :: st) := by
  subst hp; exact Go.of q fun p e s m args below meth c T locs O X eT t hr => XS.iadd X.here O.1 rfl (hb O.2.1 hd) rfl hr
theorem Go.isub {a : Int32} {b : Int32} (hd : decode bytes pc = .ok (.isub, 1)) (hp : pc + 1 = pc') (q : Go wd l R Z y bytes maxL ret n0 K N Q h cells slots pc' Ls (.int (a - b) :: st)) : Go wd l R Z y bytes maxL ret n0 K N Q h cells slots pc Ls (.int b :: .int a :: st) := by
  subst hp; exact Go.of q fun p e s m args below meth c T locs O X eT t hr => XS.isub X.here O.1 rfl (hb O.2.1 hd) rfl hr
theorem Go.imul {a : Int32} {b : Int32} (hd : decode bytes pc = .ok (.imul, 1)) (hp : pc + 1 = pc') (q : Go wd l R Z y bytes maxL ret n0 K N Q h cells slots pc' Ls (.int (a * b) :: st)) : Go wd l R Z y bytes maxL ret n0 K N Q h cells slots pc Ls (.int b :: .int a :: st) := by
  subst hp; exact Go.of q fun p e s m args below meth c T locs O X eT t hr => XS.imul X.here O.1 rfl (hb O.2.1 hd) rfl hr
theorem Go.iand {a : Int32} {b : Int32} (hd : decode bytes pc = .ok (.iand, 1)) (hp : pc + 1 = pc') (q : Go wd l R Z y bytes maxL ret n0 K N Q h cells slots pc' Ls (.int (a &&& b) :: st)) : Go wd l R Z y bytes maxL ret n0 K N Q h cells slots pc Ls (.int b :: .int a :: st) := by
  subst hp; exact Go.of q fun p e s m args below meth c T locs O X eT t hr => XS.iand X.here O.1 rfl (hb O.2.1 hd) rfl hr
theorem Go.ior {a : Int32} {b : Int32} (hd : decode bytes pc = .ok (.ior, 1)) (hp : pc + 1 = pc') (q : Go wd l R Z y bytes maxL ret n0 K N Q h cells slots pc' Ls (.int (a ||| b) :: st)) : Go wd l R Z y bytes maxL ret n0 K N Q h cells slots pc Ls (.int b :: .int a :: st) := by
  subst hp; exact Go.of q fun p e s m args below meth c T locs O X eT t hr => XS.ior X.here O.1 rfl (hb O.2.1 hd) rfl hr
theorem Go.ixor {a : Int32} {b : Int32} (hd : decode bytes pc = .ok (.ixor, 1)) (hp : pc + 1 = pc') (q : Go wd l R Z y bytes maxL ret n0 K N Q h cells slots pc' Ls (.int (a ^^^ b) :: st)) : Go wd l R Z y bytes maxL ret n0 K N Q h cells slots pc Ls (.int b :: .int a :: st) := by
  subst hp; exact Go.of q fun p e s m args below meth c T locs O X eT t hr => XS.ixor X.here O.1 rfl (hb O.2.1 hd) rfl hr
theorem Go.ishl {a : Int32} {b : Int32} (hd : decode bytes pc = .ok (.ishl, 1)) (hp : pc + 1 = pc') (q : Go wd l R Z y bytes maxL ret n0 K N Q h cells slots pc' Ls (.int (a <<< (b &&& 31)) :: st)) : Go wd l R Z y bytes maxL ret n0 K N Q h cells slots pc Ls (.int b :: .int a :: st) := by
  subst hp; exact Go.of q fun p e s m args below meth c T locs O X eT t hr => XS.ishl X.here O.1 rfl (hb O.2.1 hd) rfl hr
theorem Go.ishr {a : Int32} {b : Int32} (hd : decode bytes pc = .ok (.ishr, 1)) (hp : pc + 1 = pc') (q : Go wd l R Z y bytes maxL ret n0 K N Q h cells slots pc' Ls (.int (a >>> (b &&& 31)) :: st)) : Go wd l R Z y bytes maxL ret n0 K N Q h cells slots pc Ls (.int b :: .int a :: st) := by
  subst hp; exact Go.of q fun p e s m args below meth c T locs O X eT t hr => XS.ishr X.here O.1 rfl (hb O.2.1 hd) rfl hr
theorem Go.iushr {a : Int32} {b : Int32} (hd : decode bytes pc = .ok (.iushr, 1)) (hp : pc + 1 = pc') (q : Go wd l R Z y bytes maxL ret n0 K N Q h cells slots pc' Ls (.int ((a.toUInt32 >>> (b &&& 31).toUInt32).toInt32) :: st)) : Go wd l R Z y bytes maxL ret n0 K N Q h cells slots pc Ls (.int b :: .int a :: st) := by
  subst hp; exact Go.of q fun p e s m args below meth c T locs O X eT t hr => XS.iushr X.here O.1 rfl (hb O.2.1 hd) rfl hr
theorem Go.idiv {a : Int32} {b : Int32} (hd : decode bytes pc = .ok (.idiv, 1)) (hy : b ≠ 0) (hp : pc + 1 = pc') (q : Go wd l R Z y bytes maxL ret n0 K N Q h cells slots pc' Ls (.int (a / b) :: st)) : Go wd l R Z y bytes maxL ret n0 K N Q h cells slots pc Ls (.int b :: .int a :: st) := by
  subst hp; exact Go.of q fun p e s m args below meth c T locs O X eT t hr => XS.idiv X.here O.1 rfl (hb O.2.1 hd) rfl hy hr
theorem Go.ladd {a : Int64} {b : Int64} (hd : decode bytes pc = .ok (.ladd, 1)) (hp : pc + 1 = pc') (q : Go wd l R Z y bytes maxL ret n0 K N Q h cells slots pc' Ls (.long (a + b) :: st)) : Go wd l R Z y bytes maxL ret n0 K N Q h cells slots pc Ls (.long b :: .long a :: st) := by
  subst hp; exact Go.of q fun p e s m args below meth c T locs O X eT t hr => XS.ladd X.here O.1 rfl (hb O.2.1 hd) rfl hr
theorem Go.lsub {a : Int64} {b : Int64} (hd : decode bytes pc = .ok (.lsub, 1)) (hp : pc + 1 = pc') (q : Go wd l R Z y bytes maxL ret n0 K N Q h cells slots pc' Ls (.long (a - b) :: st)) : Go wd l R Z y bytes maxL ret n0 K N Q h cells slots pc Ls (.long b :: .long a :: st) := by
  subst hp; exact Go.of q fun p e s m args below meth c T locs O X eT t hr => XS.lsub X.here O.1 rfl (hb O.2.1 hd) rfl hr
theorem Go.lmul {a : Int64} {b : Int64} (hd : decode bytes pc = .ok (.lmul, 1)) (hp : pc + 1 = pc') (q : Go wd l R Z y bytes maxL ret n0 K N Q h cells slots pc' Ls (.long (a * b) :: st)) : Go wd l R Z y bytes maxL ret n0 K N Q h cells slots pc Ls (.long b :: .long a :: st) := by
  subst hp; exact Go.of q fun p e s m args below meth c T locs O X eT t hr => XS.lmul X.here O.1 rfl (hb O.2.1 hd) rfl hr
theorem Go.land {a : Int64} {b : Int64} (hd : decode bytes pc = .ok (.land, 1)) (hp : pc + 1 = pc') (q : Go wd l R Z y bytes maxL ret n0 K N Q h cells slots pc' Ls (.long (a &&& b) :: st)) : Go wd l R Z y bytes maxL ret n0 K N Q h cells slots pc Ls (.long b :: .long a :: st) := by
  subst hp; exact Go.of q fun p e s m args below meth c T locs O X eT t hr => XS.land X.here O.1 rfl (hb O.2.1 hd) rfl hr
theorem Go.lor {a : Int64} {b : Int64} (hd : decode bytes pc = .ok (.lor, 1)) (hp : pc + 1 = pc') (q : Go wd l R Z y bytes maxL ret n0 K N Q h cells slots pc' Ls (.long (a ||| b) :: st)) : Go wd l R Z y bytes maxL ret n0 K N Q h cells slots pc Ls (.long b :: .long a :: st) := by
  subst hp; exact Go.of q fun p e s m args below meth c T locs O X eT t hr => XS.lor X.here O.1 rfl (hb O.2.1 hd) rfl hr
theorem Go.lxor {a : Int64} {b : Int64} (hd : decode bytes pc = .ok (.lxor, 1)) (hp : pc + 1 = pc') (q : Go wd l R Z y bytes maxL ret n0 K N Q h cells slots pc' Ls (.long (a ^^^ b) :: st)) : Go wd l R Z y bytes maxL ret n0 K N Q h cells slots pc Ls (.long b :: .long a :: st) := by
  subst hp; exact Go.of q fun p e s m args below meth c T locs O X eT t hr => XS.lxor X.here O.1 rfl (hb O.2.1 hd) rfl hr
theorem Go.lshl {a : Int64} {b : Int32} (hd : decode bytes pc = .ok (.lshl, 1)) (hp : pc + 1 = pc') (q : Go wd l R Z y bytes maxL ret n0 K N Q h cells slots pc' Ls (.long (a <<< (b &&& 0x3f).toInt64) :: st)) : Go wd l R Z y bytes maxL ret n0 K N Q h cells slots pc Ls (.int b :: .long a :: st) := by
  subst hp; exact Go.of q fun p e s m args below meth c T locs O X eT t hr => XS.lshl X.here O.1 rfl (hb O.2.1 hd) rfl hr
theorem Go.lshr {a : Int64} {b : Int32} (hd : decode bytes pc = .ok (.lshr, 1)) (hp : pc + 1 = pc') (q : Go wd l R Z y bytes maxL ret n0 K N Q h cells slots pc' Ls (.long (a >>> (b &&& 0x3f).toInt64) :: st)) : Go wd l R Z y bytes maxL ret n0 K N Q h cells slots pc Ls (.int b :: .long a :: st) := by
  subst hp; exact Go.of q fun p e s m args below meth c T locs O X eT t hr => XS.lshr X.here O.1 rfl (hb O.2.1 hd) rfl hr
theorem Go.lushr {a : Int64} {b : Int32} (hd : decode bytes pc = .ok (.lushr, 1)) (hp : pc + 1 = pc') (q : Go wd l R Z y bytes maxL ret n0 K N Q h cells slots pc' Ls (.long ((a.toUInt64 >>> (b &&& 0x3f).toInt64.toUInt64).toInt64) :: st)) : Go wd l R Z y bytes maxL ret n0 K N Q h cells slots pc Ls (.int b :: .long a :: st) := by
  subst hp; exact Go.of q fun p e s m args below meth c T locs O X eT t hr => XS.lushr X.here O.1 rfl (hb O.2.1 hd) rfl hr
theorem Go.ldiv {a : Int64} {b : Int64} (hd : decode bytes pc = .ok (.ldiv, 1)) (hy : b ≠ 0) (hp : pc + 1 = pc') (q : Go wd l R Z y bytes maxL ret n0 K N Q h cells slots pc' Ls (.long (a / b) :: st)) : Go wd l R Z y bytes maxL ret n0 K N Q h cells slots pc Ls (.long b :: .long a :: st) := by
  subst hp; exact Go.of q fun p e s m args below meth c T locs O X eT t hr => XS.ldiv X.here O.1 rfl (hb O.2.1 hd) rfl hy hr
theorem Go.i2b {a : Int32} (hd : decode bytes pc = .ok (.i2b, 1)) (hp : pc + 1 = pc') (q : Go wd l R Z y bytes maxL ret n0 K N Q h cells slots pc' Ls (.int (a.toInt8.toInt32) :: st)) : Go wd l R Z y bytes maxL ret n0 K N Q h cells slots pc Ls (.int a :: st) := by
  subst hp; exact Go.of q fun p e s m args below meth c T locs O X eT t hr => XS.i2b X.here O.1 rfl (hb O.2.1 hd) rfl hr
theorem Go.i2c {a : Int32} (hd : decode bytes pc = .ok (.i2c, 1)) (hp : pc + 1 = pc') (q : Go wd l R Z y bytes maxL ret n0 K N Q h cells slots pc' Ls (.int (a.toUInt32.toUInt16.toUInt32.toInt32) :: st)) : Go wd l R Z y bytes maxL ret n0 K N Q h cells slots pc Ls (.int a :: st) := by
  subst hp; exact Go.of q fun p e s m args below meth c T locs O X eT t hr => XS.i2c X.here O.1 rfl (hb O.2.1 hd) rfl hr
theorem Go.i2s {a : Int32} (hd : decode bytes pc = .ok (.i2s, 1)) (hp : pc + 1 = pc') (q : Go wd l R Z y bytes maxL ret n0 K N Q h cells slots pc' Ls (.int (a.toInt16.toInt32) :: st)) : Go wd l R Z y bytes maxL ret n0 K N Q h cells slots pc Ls (.int a :: st) := by
  subst hp; exact Go.of q fun p e s m args below meth c T locs O X eT t hr => XS.i2s X.here O.1 rfl (hb O.2.1 hd) rfl hr
theorem Go.i2l {a : Int32} (hd : decode bytes pc = .ok (.i2l, 1)) (hp : pc + 1 = pc') (q : Go wd l R Z y bytes maxL ret n0 K N Q h cells slots pc' Ls (.long (a.toInt64) :: st)) : Go wd l R Z y bytes maxL ret n0 K N Q h cells slots pc Ls (.int a :: st) := by
  subst hp; exact Go.of q fun p e s m args below meth c T locs O X eT t hr => XS.i2l X.here O.1 rfl (hb O.2.1 hd) rfl hr
theorem Go.l2i {a : Int64} (hd : decode bytes pc = .ok (.l2i, 1)) (hp : pc + 1 = pc') (q : Go wd l R Z y bytes maxL ret n0 K N Q h cells slots pc' Ls (.int (a.toInt32) :: st)) : Go wd l R Z y bytes maxL ret n0 K N Q h cells slots pc Ls (.long a :: st) := by
  subst hp; exact Go.of q fun p e s m args below meth c T locs O X eT t hr => XS.l2i X.here O.1 rfl (hb O.2.1 hd) rfl hr
theorem Go.lneg {a : Int64} (hd : decode bytes pc = .ok (.lneg, 1)) (hp : pc + 1 = pc') (q : Go wd l R Z y bytes maxL ret n0 K N Q h cells slots pc' Ls (.long (-a) :: st)) : Go wd l R Z y bytes maxL ret n0 K N Q h cells slots pc Ls (.long a :: st) := by
  subst hp; exact Go.of q fun p e s m args below meth c T locs O X eT t hr => XS.lneg X.here O.1 rfl (hb O.2.1 hd) rfl hr
theorem Go.ineg {a : Int32} (hd : decode bytes pc = .ok (.ineg, 1)) (hp : pc + 1 = pc') (q : Go wd l R Z y bytes maxL ret n0 K N Q h cells slots pc' Ls (.int (-a) :: st)) : Go wd l R Z y bytes maxL ret n0 K N Q h cells slots pc Ls (.int a :: st) := by
  subst hp; exact Go.of q fun p e s m args below meth c T locs O X eT t hr => XS.ineg X.here O.1 rfl (hb O.2.1 hd) rfl hr
theorem Go.irem {a b : Int32} (hd : decode bytes pc = .ok (.irem, 1)) (hy : b ≠ 0) (hp : pc + 1 = pc') (q : Go wd l R Z y bytes maxL ret n0 K N Q h cells slots pc' Ls (.int (a % b) :: st)) : Go wd l R Z y bytes maxL ret n0 K N Q h cells slots pc Ls (.int b :: .int a :: st) := by
  subst hp; exact Go.of q fun p e s m args below meth c T locs O X eT t hr => iremM X O.1 rfl (hb O.2.1 hd) rfl hy hr
theorem Go.lrem {a b : Int64} (hd : decode bytes pc = .ok (.lrem, 1)) (hy : b ≠ 0) (hp : pc + 1 = pc') (q : Go wd l R Z y bytes maxL ret n0 K N Q h cells slots pc' Ls (.long (a % b) :: st)) : Go wd l R Z y bytes maxL ret n0 K N Q h cells slots pc Ls (.long b :: .long a :: st) := by
  subst hp; rw [← lrem_mod] at q; exact Go.of q fun p e s m args below meth c T locs O X eT t hr => XS.lrem X.here O.1 rfl (hb O.2.1 hd) rfl hy hr
theorem c_lremM (x y : Int64) (d : Int) (hy : y.toInt = d) : (0 ≤ x.toInt → (x % y).toInt = x.toInt % d) ∧ (x.toInt < 0 → (x % y).toInt = -((-x.toInt) % d)) := by rw [Int64.toInt_mod, hy]; exact tr _ _
/-! branches -/
def jc : ClassFile.Cond → Int32 → Int32 → Prop
  | .eq, x, y => x.toInt = y.toInt
  | .ne, x, y => x.toInt ≠ y.toInt
  | .lt, x, y => x.toInt < y.toInt
  | .ge, x, y => y.toInt ≤ x.toInt
  | .gt, x, y => y.toInt < x.toInt
  | .le, x, y => x.toInt ≤ y.toInt
def jn : ClassFile.Cond → Int32 → Int32 → Prop
  | .eq, x, y => x.toInt ≠ y.toInt
  | .ne, x, y => x.toInt = y.toInt
  | .lt, x, y => y.toInt ≤ x.toInt
  | .ge, x, y => x.toInt < y.toInt
  | .gt, x, y => x.toInt ≤ y.toInt
  | .le, x, y => y.toInt < x.toInt
def zc : ClassFile.Cond → Int32 → Prop
  | .eq, x => x.toInt = 0
  | .ne, x => x.toInt ≠ 0
  | .lt, x => x.toInt < 0
  | .ge, x => 0 ≤ x.toInt
  | .gt, x => 0 < x.toInt
  | .le, x => x.toInt ≤ 0
def zn : ClassFile.Cond → Int32 → Prop
  | .eq, x => x.toInt ≠ 0
  | .ne, x => x.toInt = 0
  | .lt, x => 0 ≤ x.toInt
  | .ge, x => x.toInt < 0
  | .gt, x => x.toInt ≤ 0
  | .le, x => 0 < x.toInt
def wc : ClassFile.Cond → Int64 → Int64 → Prop
  | .eq, x, y => x.toInt = y.toInt
  | .ne, x, y => x.toInt ≠ y.toInt
  | .lt, x, y => x.toInt < y.toInt
  | .ge, x, y => y.toInt ≤ x.toInt
  | .gt, x, y => y.toInt < x.toInt
  | .le, x, y => x.toInt ≤ y.toInt
def wn : ClassFile.Cond → Int64 → Int64 → Prop
  | .eq, x, y => x.toInt ≠ y.toInt
  | .ne, x, y => x.toInt = y.toInt
  | .lt, x, y => y.toInt ≤ x.toInt
  | .ge, x, y => x.toInt < y.toInt
  | .gt, x, y => x.toInt ≤ y.toInt
  | .le, x, y => y.toInt < x.toInt
theorem jc_or (cd : ClassFile.Cond) (x y : Int32) : (if_icmp.holds cd x y = true ∧ jc cd x y) ∨ (if_icmp.holds cd x y = false ∧ jn cd x y) := by
  have i : x = y ↔ x.toInt = y.toInt := Int32.toInt_inj.symm
  cases cd <;> simp only [if_icmp.holds, jc, jn, beq_iff_eq, bne_iff_ne, beq_eq_false_iff_ne, bne_eq_false_iff_eq, decide_eq_true_eq, decide_eq_false_iff_not, Int32.lt_iff_toInt_lt, Int32.le_iff_toInt_le, ge_iff_le, gt_iff_lt, ne_eq, i] <;> omega
theorem zc_or (cd : ClassFile.Cond) (x : Int32) : (ifCond.holds cd x = true ∧ zc cd x) ∨ (ifCond.holds cd x = false ∧ zn cd x) := by
  have z : (0 : Int32).toInt = 0 := rfl
  rcases jc_or cd x 0 with ⟨q, r⟩ | ⟨q, r⟩
  · left; rw [if0]; refine ⟨q, ?_⟩; cases cd <;> simp only [jc, zc, z] at r ⊢ <;> exact r
  · right; rw [if0]; refine ⟨q, ?_⟩; cases cd <;> simp only [jn, zn, z] at r ⊢ <;> exact r
theorem wc_or (cd : ClassFile.Cond) (x y : Int64) : (ifCond.holds cd (lcmpW x y) = true ∧ wc cd x y) ∨ (ifCond.holds cd (lcmpW x y) = false ∧ wn cd x y) := by
  have e := c_lcmp x y
  rcases zc_or cd (lcmpW x y) with ⟨q, r⟩ | ⟨q, r⟩
  · left; refine ⟨q, ?_⟩; cases cd <;> simp only [zc, wc, ne_eq] at r ⊢ <;> omega
  · right; refine ⟨q, ?_⟩; cases cd <;> simp only [zn, wn, ne_eq] at r ⊢ <;> omega
theorem Go.icmp {cd : ClassFile.Cond} {o : Int} {x z : Int32} {pc1 pc2 : Nat} (hd : decode bytes pc = .ok (.if_icmp cd o, 3)) (ho : 0 ≤ (pc : Int) + o) (hp : ((pc : Int) + o).toNat = pc1) (hp2 : pc + 3 = pc2)
    (q1 : jc cd x z → Go wd l R Z y bytes maxL ret n0 K N Q h cells slots pc1 Ls st) (q2 : jn cd x z → Go wd l R Z y bytes maxL ret n0 K N Q h cells slots pc2 Ls st) : Go wd l R Z y bytes maxL ret n0 K N Q h cells slots pc Ls (.int z :: .int x :: st) := by
  rcases jc_or cd x z with ⟨hc, r⟩ | ⟨hc, r⟩
  · exact Go.of (q1 r) fun p e s m args below meth c T locs O X eT t hr => XS.icmpYes X.here O.1 rfl (pc0 := pc) rfl (hb O.2.1 hd) rfl hc ho hp hr
  · subst hp2; exact Go.of (q2 r) fun p e s m args below meth c T locs O X eT t hr => XS.icmpNo X.here O.1 rfl (hb O.2.1 hd) rfl hc hr
theorem Go.ifc {cd : ClassFile.Cond} {o : Int} {x : Int32} {pc1 pc2 : Nat} (hd : decode bytes pc = .ok (.ifCond cd o, 3)) (ho : 0 ≤ (pc : Int) + o) (hp : ((pc : Int) + o).toNat = pc1) (hp2 : pc + 3 = pc2)
    (q1 : zc cd x → Go wd l R Z y bytes maxL ret n0 K N Q h cells slots pc1 Ls st) (q2 : zn cd x → Go wd l R Z y bytes maxL ret n0 K N Q h cells slots pc2 Ls st) : Go wd l R Z y bytes maxL ret n0 K N Q h cells slots pc Ls (.int x :: st) := by
  rcases zc_or cd x with ⟨hc, r⟩ | ⟨hc, r⟩
  · exact Go.of (q1 r) fun p e s m args below meth c T locs O X eT t hr => XS.ifYes X.here O.1 rfl (pc0 := pc) rfl (hb O.2.1 hd) rfl hc ho hp hr
  · subst hp2; exact Go.of (q2 r) fun p e s m args below meth c T locs O X eT t hr => XS.ifNo X.here O.1 rfl (hb O.2.1 hd) rfl hc hr
theorem Go.lcmp {a b : Int64} (hd : decode bytes pc = .ok (.lcmp, 1)) (hp : pc + 1 = pc') (q : Go wd l R Z y bytes maxL ret n0 K N Q h cells slots pc' Ls (.int (lcmpW a b) :: st)) : Go wd l R Z y bytes maxL ret n0 K N Q h cells slots pc Ls (.long b :: .long a :: st) := by
  subst hp; exact Go.of q fun p e s m args below meth c T locs O X eT t hr => XS.lcmp X.here O.1 rfl (hb O.2.1 hd) rfl hr
theorem Go.ifw {cd : ClassFile.Cond} {o : Int} {a b : Int64} {pc1 pc2 : Nat} (hd : decode bytes pc = .ok (.ifCond cd o, 3)) (ho : 0 ≤ (pc : Int) + o) (hp : ((pc : Int) + o).toNat = pc1) (hp2 : pc + 3 = pc2)
    (q1 : wc cd a b → Go wd l R Z y bytes maxL ret n0 K N Q h cells slots pc1 Ls st) (q2 : wn cd a b → Go wd l R Z y bytes maxL ret n0 K N Q h cells slots pc2 Ls st) : Go wd l R Z y bytes maxL ret n0 K N Q h cells slots pc Ls (.int (lcmpW a b) :: st) := by
  rcases wc_or cd a b with ⟨hc, r⟩ | ⟨hc, r⟩
  · exact Go.of (q1 r) fun p e s m args below meth c T locs O X eT t hr => XS.ifYes X.here O.1 rfl (pc0 := pc) rfl (hb O.2.1 hd) rfl hc ho hp hr
  · subst hp2; exact Go.of (q2 r) fun p e s m args below meth c T locs O X eT t hr => XS.ifNo X.here O.1 rfl (hb O.2.1 hd) rfl hc hr
theorem Go.nonnullYes {o : Int} {a : Addr} (hd : decode bytes pc = .ok (.ifnonnull o, 3)) (ho : 0 ≤ (pc : Int) + o) (hp : ((pc : Int) + o).toNat = pc') (q : Go wd l R Z y bytes maxL ret n0 K N Q h cells slots pc' Ls st) : Go wd l R Z y bytes maxL ret n0 K N Q h cells slots pc Ls (.ref a :: st) :=
  Go.of q fun p e s m args below meth c T locs O X eT t hr => XS.ifnonnullYes X.here O.1 rfl (pc0 := pc) rfl (hb O.2.1 hd) rfl ho hp hr
theorem Go.nonnullNo {o : Int} (hd : decode bytes pc = .ok (.ifnonnull o, 3)) (hp : pc + 3 = pc') (q : Go wd l R Z y bytes maxL ret n0 K N Q h cells slots pc' Ls st) : Go wd l R Z y bytes maxL ret n0 K N Q h cells slots pc Ls (.null :: st) := by
  subst hp; exact Go.of q fun p e s m args below meth c T locs O X eT t hr => XS.ifnonnullNo X.here O.1 rfl (hb O.2.1 hd) rfl hr
theorem Go.nullYes {o : Int} (hd : decode bytes pc = .ok (.ifnull o, 3)) (ho : 0 ≤ (pc : Int) + o) (hp : ((pc : Int) + o).toNat = pc') (q : Go wd l R Z y bytes maxL ret n0 K N Q h cells slots pc' Ls st) : Go wd l R Z y bytes maxL ret n0 K N Q h cells slots pc Ls (.null :: st) :=
  Go.of q fun p e s m args below meth c T locs O X eT t hr => XS.ifnullYes X.here O.1 rfl (pc0 := pc) rfl (hb O.2.1 hd) rfl ho hp hr
theorem Go.nullNo {o : Int} {a : Addr} (hd : decode bytes pc = .ok (.ifnull o, 3)) (hp : pc + 3 = pc') (q : Go wd l R Z y bytes maxL ret n0 K N Q h cells slots pc' Ls st) : Go wd l R Z y bytes maxL ret n0 K N Q h cells slots pc Ls (.ref a :: st) := by
  subst hp; exact Go.of q fun p e s m args below meth c T locs O X eT t hr => XS.ifnullNo X.here O.1 rfl (hb O.2.1 hd) rfl hr
/-- if_acmp: q1 where they are the same, q2 where they aren't -/
theorem Go.acmp {cd : ACond} {o : Int} {u w : Value} {pc1 pc2 : Nat} (hd : decode bytes pc = .ok (.if_acmp cd o, 3)) (hu : u.isRef = true) (hw : w.isRef = true) (ho : 0 ≤ (pc : Int) + o) (hp : (if acV cd true = true then ((pc : Int) + o).toNat else pc + 3) = pc1) (hp2 : (if acV cd false = true then ((pc : Int) + o).toNat else pc + 3) = pc2)
    (q1 : u = w → Go wd l R Z y bytes maxL ret n0 K N Q h cells slots pc1 Ls st) (q2 : u ≠ w → Go wd l R Z y bytes maxL ret n0 K N Q h cells slots pc2 Ls st) : Go wd l R Z y bytes maxL ret n0 K N Q h cells slots pc Ls (w :: u :: st) := by
  by_cases r : u = w
  · exact Go.of (q1 r) fun p e s m args below meth c T locs O X eT t hr => RoadKit.acmp X O.1 rfl hu hw (pc0 := pc) (same := true) rfl (hb O.2.1 hd) rfl (decide_eq_true r) ho hp.symm hr
  · exact Go.of (q2 r) fun p e s m args below meth c T locs O X eT t hr => RoadKit.acmp X O.1 rfl hu hw (pc0 := pc) (same := false) rfl (hb O.2.1 hd) rfl (decide_eq_false r) ho hp2.symm hr
/-! constants of the pool -/
theorem Go.ldcI {i : Nat} {v : Int32} (w : (Cond.constant y.cls i v).before a0 Z = true) (hd : decode bytes pc = .ok (.ldc i, 2)) (hp : pc + 2 = pc') (q : Go wd l R Z y bytes maxL ret n0 K N Q h cells slots pc' Ls (.int v :: st)) : Go wd l R Z y bytes maxL ret n0 K N Q h cells slots pc Ls st := by
  subst hp; exact Go.of q fun p e s m args below meth c T locs O X eT t hr => X.ldcInt O.1 O.2.2.2.1 (mvT O.2.2.2.2.2.1 w) (g := mkF m pc Ls st) rfl (hb O.2.1 hd) t hr
theorem Go.ldcW {i : Nat} {v : Int32} (w : (Cond.constant y.cls i v).before a0 Z = true) (hd : decode bytes pc = .ok (.ldc_w i, 3)) (hp : pc + 3 = pc') (q : Go wd l R Z y bytes maxL ret n0 K N Q h cells slots pc' Ls (.int v :: st)) : Go wd l R Z y bytes maxL ret n0 K N Q h cells slots pc Ls st := by
  subst hp; exact Go.of q fun p e s m args below meth c T locs O X eT t hr => X.ldcwInt O.1 O.2.2.2.1 (mvT O.2.2.2.2.2.1 w) (g := mkF m pc Ls st) rfl (hb O.2.1 hd) t hr
theorem Go.ldcL {i : Nat} {v : Int64} (w : (Cond.constantLong y.cls i v).before a0 Z = true) (hd : decode bytes pc = .ok (.ldc2_w i, 3)) (hp : pc + 3 = pc') (q : Go wd l R Z y bytes maxL ret n0 K N Q h cells slots pc' Ls (.long v :: st)) : Go wd l R Z y bytes maxL ret n0 K N Q h cells slots pc Ls st := by
  subst hp; exact Go.of q fun p e s m args below meth c T locs O X eT t hr => X.ldc2Long O.1 O.2.2.2.1 (mvT O.2.2.2.2.2.1 w) (g := mkF m pc Ls st) rfl (hb O.2.1 hd) t hr
/-! the ends -/
theorem Go.leave {v : Option Value} (hv : ret = none → v = none) (hQ : Q v h) (hk : cells ≤ K) (hn : slots ≤ N)
    (q : ∀ (p : Program) (e : Env) (s : State) (m : MethodId) (args : Array Value) (below : List Frame) (meth : Method) (c : Code) (T : State) (locs : List Loc) (fs : List Frame), Own Z y bytes maxL ret p s m meth c → Stand p l e R s m args below meth c T locs cells slots →
      (∀ (f : JFrame) (acts : List Action), f.method = m → f.locked = none → f.entered = [] → (doReturn e (T.setTop f) acts v).1 = T.setFrames fs) → Steps p.tables e below (T.setTop (mkF m pc Ls st)) (T.setFrames fs)) : Go wd l R Z y bytes maxL ret n0 K N Q h cells slots pc Ls st := by
  intro p e s0 s m args below meth c T locs hR O X eT F
  obtain ⟨fs, hr, hrun, hended, hW, hsame⟩ := X.leave (v := v) (fun r => hv (by rw [← O.2.2.2.2.2.2.1]; exact r)) O.2.2.2.2.2.2.2
  have hE : GoEnd wd s0 (.returned v) (T.setFrames fs) locs K N := GoRel.ended (U := T.setFrames fs) (by show GoRel wd s0 s T.heap.size; rw [eT]; exact hR) hW hsame hk hn
  refine ⟨_, _, q p e s m args below meth c T locs fs O X hr, hrun, hended, v, locs, rfl, ⟨?_, F⟩, hE⟩
  show Q v T.heap
  rw [eT]; exact hQ
theorem Go.ret0 (hd : decode bytes pc = .ok (.return_, 1)) (hr : ret = none) (hQ : Q none h) (hk : cells ≤ K) (hn : slots ≤ N) : Go wd l R Z y bytes maxL ret n0 K N Q h cells slots pc Ls [] :=
  Go.leave (v := none) (fun _ => rfl) hQ hk hn fun p e s m args below meth c T locs fs O X hl => X.returnOut O.1 (O.2.2.2.2.2.2.1.trans hr) (hb O.2.1 hd) hl
theorem Go.retI {v : Int32} (hd : decode bytes pc = .ok (.ireturn, 1)) (hr : ret = some .int) (hQ : Q (some (.int v)) h) (hk : cells ≤ K) (hn : slots ≤ N) : Go wd l R Z y bytes maxL ret n0 K N Q h cells slots pc Ls (.int v :: st) :=
  Go.leave (v := some (.int v)) (fun r => by rw [hr] at r; cases r) hQ hk hn fun p e s m args below meth c T locs fs O X hl => retOut X O.1 (O.2.2.2.2.2.2.1.trans hr) rfl (Or.inl ⟨rfl, Or.inl rfl, _, rfl⟩) (hb O.2.1 hd) hl
theorem Go.retN {v : Int32} {t : FieldType} (hd : decode bytes pc = .ok (.ireturn, 1)) (hr : ret = some t) (ht : t = .boolean ∨ t = .byte ∨ t = .char ∨ t = .short) (hv : nar t v = v) (hQ : Q (some (.int v)) h) (hk : cells ≤ K) (hn : slots ≤ N) : Go wd l R Z y bytes maxL ret n0 K N Q h cells slots pc Ls (.int v :: st) :=
  Go.leave (v := some (.int v)) (fun r => by rw [hr] at r; cases r) hQ hk hn fun p e s m args below meth c T locs fs O X hl => RoadKit.retN X O.1 (O.2.2.2.2.2.2.1.trans hr) ht (hb O.2.1 hd) (by rw [hv]; exact hl)
theorem Go.retL {v : Int64} (hd : decode bytes pc = .ok (.lreturn, 1)) (hr : ret = some .long) (hQ : Q (some (.long v)) h) (hk : cells ≤ K) (hn : slots ≤ N) : Go wd l R Z y bytes maxL ret n0 K N Q h cells slots pc Ls (.long v :: st) :=
  Go.leave (v := some (.long v)) (fun r => by rw [hr] at r; cases r) hQ hk hn fun p e s m args below meth c T locs fs O X hl => retOut X O.1 (O.2.2.2.2.2.2.1.trans hr) rfl (Or.inr (Or.inl ⟨rfl, rfl, _, rfl⟩)) (hb O.2.1 hd) hl
theorem Go.retA {v : Value} {t : FieldType} (hd : decode bytes pc = .ok (.areturn, 1)) (hr : ret = some t) (ht : t.isReference = true) (hv : v.isRef = true) (hQ : Q (some v) h) (hk : cells ≤ K) (hn : slots ≤ N) : Go wd l R Z y bytes maxL ret n0 K N Q h cells slots pc Ls (v :: st) :=
  Go.leave (v := some v) (fun r => by rw [hr] at r; cases r) hQ hk hn fun p e s m args below meth c T locs fs O X hl => retOut X O.1 (O.2.2.2.2.2.2.1.trans hr) (by cases t <;> first | rfl | (cases ht; done)) (Or.inr (Or.inr (Or.inr (Or.inr ⟨rfl, ht, hv⟩)))) (hb O.2.1 hd) hl
/-! the heap -/
theorem Go.newO {C : String} {i n : Nat} (w1 : (Cond.classLink y.cls i C).before a0 Z = true) (w2 : (Cond.instantiable C n).before a0 Z = true) (w3 : (Cond.initialized C).before a0 Z = true) (hd : decode bytes pc = .ok (.new i, 3)) (hc : cells + 1 ≤ R.cells) (hs : slots + n ≤ R.slots) (hp : pc + 3 = pc')
    (q : ∀ (h' : Heap) (a : Addr), a = h.size → Ext h h' → Exa Z h' a C → (∀ {O nm d : String} {ty : FieldType}, Laid Z a0 C O nm d → parseFieldDescriptor d = some ty → Fld Z h' a O nm d (defaultValue ty)) → Go wd l R Z y bytes maxL ret n0 K N Q h' (cells + 1) (slots + n) pc' Ls (.ref a :: st)) : Go wd l R Z y bytes maxL ret n0 K N Q h cells slots pc Ls st := by
  subst hp
  intro p e s0 s m args below meth c T locs hR O X eT F
  obtain ⟨T2, h2, X2, e2, E2, A2, D2, -, st2⟩ := RoadKit.newO X O.1 O.2.2.2.2.2.1 O.2.2.2.1 w1 w2 w3 eT (g := mkF m pc Ls st) rfl (hb O.2.1 hd) hc hs
  obtain ⟨s₂, o, h1, r⟩ := q h2 _ rfl E2 A2 D2 p e s0 s m args below meth c T2 locs (hR.mono E2.1) O X2 e2 F
  exact ⟨s₂, o, st2 _ h1, r⟩
theorem Go.initO {i W : Nat} {a : Addr} (w1 : (Cond.methodLink y.cls i Lib.objectInit).before a0 Z = true) (w2 : (Cond.instanceMethod Lib.objectInit).before a0 Z = true) (w3 : (Cond.code Lib.objectInit ⟨#[0xb1]⟩ 1 none).before a0 Z = true) (hd : decode bytes pc = .ok (.invokespecial i, 3)) (hz : Ls.size = maxL)
    (hf : 1 ≤ R.frames) (hW : (st.map fun v => v.category).sum ≤ W) (hl : W + 12 ≤ R.locals) (hp : pc + 3 = pc') (q : Go wd l R Z y bytes maxL ret n0 K N Q h cells slots pc' Ls st) : Go wd l R Z y bytes maxL ret n0 K N Q h cells slots pc Ls (.ref a :: st) := by
  subst hp
  intro p e s0 s m args below meth c T locs hR O X eT F
  obtain ⟨T2, X2, e2, st2⟩ := RoadKit.initO X O.1 O.2.2.2.2.2.1 O.2.2.2.1 w1 w2 w3 eT (g := mkF m pc Ls (.ref a :: st)) rfl (hz.trans O.2.2.1.symm) rfl (hb O.2.1 hd) hf (W := W) (by show 2 * 0 + _ ≤ _; omega) hl
  obtain ⟨s₂, o, h1, r⟩ := q p e s0 s m args below meth c T2 locs hR O X2 e2 F
  exact ⟨s₂, o, st2 _ h1, r⟩
theorem Go.getF {C n d : String} {i : Nat} {a : Addr} {v : Value} (w : (Cond.fieldLink y.cls i C n d).before a0 Z = true) (hF : Fld Z h a C n d v) (hd : decode bytes pc = .ok (.getfield i, 3)) (hp : pc + 3 = pc') (q : Go wd l R Z y bytes maxL ret n0 K N Q h cells slots pc' Ls (v :: st)) : Go wd l R Z y bytes maxL ret n0 K N Q h cells slots pc Ls (.ref a :: st) := by
  subst hp
  intro p e s0 s m args below meth c T locs hR O X eT F
  obtain ⟨T2, X2, e2, st2⟩ := RoadKit.getF X O.1 O.2.2.2.2.2.1 O.2.2.2.1 (host := "") (Or.inl w) Via.refl eT hF (g := mkF m pc Ls (.ref a :: st)) rfl rfl (hb O.2.1 hd)
  obtain ⟨s₂, o, h1, r⟩ := q p e s0 s m args below meth c T2 locs hR O X2 e2 F
  exact ⟨s₂, o, st2 _ h1, r⟩
theorem Go.getS {C n d : String} {i : Nat} {v : Value} (w : (Cond.fieldLink y.cls i C n d).before a0 Z = true) (hF : Sta Z h C n d v) (hd : decode bytes pc = .ok (.getstatic i, 3)) (hp : pc + 3 = pc') (q : Go wd l R Z y bytes maxL ret n0 K N Q h cells slots pc' Ls (v :: st)) : Go wd l R Z y bytes maxL ret n0 K N Q h cells slots pc Ls st := by
  subst hp
  intro p e s0 s m args below meth c T locs hR O X eT F
  obtain ⟨T2, X2, e2, st2⟩ := RoadKit.getS2 X O.1 O.2.2.2.2.2.1 O.2.2.2.1 (host := "") (Or.inl w) Via.refl eT hF (g := mkF m pc Ls st) rfl (hb O.2.1 hd)
  obtain ⟨s₂, o, h1, r⟩ := q p e s0 s m args below meth c T2 locs hR O X2 e2 F
  exact ⟨s₂, o, st2 _ h1, r⟩
theorem Go.putF {C n d : String} {i kk : Nat} {ty : FieldType} {a : Addr} {v old : Value} (w : (Cond.fieldLink y.cls i C n d).before a0 Z = true) (hF : Fld Z h a C n d old) (hE : Exa Z h a C) (hL : (Cond.lays C C n d).before a0 Z = true ∨ ((Cond.laysFinal C C n d).before a0 Z = true ∧ y.cls = C ∧ y.name = "<init>")) (wi : (Cond.instantiable C kk).before a0 Z = true)
    (hty : parseFieldDescriptor d = some ty) (hn : narrow ty v = v) (hf : fits ty v = true) (hd : decode bytes pc = .ok (.putfield i, 3)) (ha : n0 ≤ a) (hp : pc + 3 = pc') (q : ∀ h', Wr h h' a (slotOf Z C n d) v → Go wd l R Z y bytes maxL ret n0 K N Q h' cells slots pc' Ls st) : Go wd l R Z y bytes maxL ret n0 K N Q h cells slots pc Ls (v :: .ref a :: st) := by
  subst hp
  intro p e s0 s m args below meth c T locs hR O X eT F
  obtain ⟨T2, h2, X2, e2, W2, st2⟩ := RoadKit.putF X O.1 O.2.2.2.2.2.1 O.2.2.2.1 (host := "") (Or.inl w) Via.refl eT hF hE (hL.imp_right fun r => ⟨r.1, r.2.1, O.2.2.2.2.1.trans r.2.2⟩) wi hty hn hf (g := mkF m pc Ls (v :: .ref a :: st)) rfl rfl (hb O.2.1 hd)
  obtain ⟨s₂, o, h1, r⟩ := q h2 W2 p e s0 s m args below meth c T2 _ (hR.mono (Nat.le_of_eq W2.size.symm)) O X2 e2 (Fr.snoc X2 F ha)
  exact ⟨s₂, o, st2 _ h1, r⟩
/-! facts carried from heap to heap -/
def Sm (h h' : Heap) (a : Addr) : Prop := ∀ c : Cell, h[a]? = some c → h'[a]? = some c
theorem Sm.ext {h h' : Heap} {a : Addr} (E : Ext h h') : Sm h h' a := fun c q => E.2 a c q
theorem Sm.keep {h h' : Heap} {a : Addr} {ws : List Addr} (E : Keep h h' ws) (q : a ∉ ws) : Sm h h' a := fun c r => E.2.1 a c r q
theorem Sm.wr {h h' : Heap} {a b : Addr} {sl : Nat} {v : Value} (W : Wr h h' b sl v) (q : a ≠ b) : Sm h h' a := Sm.keep (Keep.of_wr W) (by simpa using q)
theorem Sm.trans {h h' h'' : Heap} {a : Addr} (A : Sm h h' a) (B : Sm h' h'' a) : Sm h h'' a := fun c r => B c (A c r)
theorem Fld.sm {h h' : Heap} {a : Addr} {C n d : String} {v : Value} (F : Fld Z h a C n d v) (S : Sm h h' a) : Fld Z h' a C n d v := by
  obtain ⟨cell, cf, k, i, f, h1, r⟩ := F; exact ⟨cell, cf, k, i, f, S _ h1, r⟩
theorem Exa.sm {h h' : Heap} {a : Addr} {C : String} (F : Exa Z h a C) (S : Sm h h' a) : Exa Z h' a C := by
  obtain ⟨cell, k, h1, r⟩ := F; exact ⟨cell, k, S _ h1, r⟩
theorem Arr.sm {h h' : Heap} {a : Addr} {c : Cell} {ty : FieldType} (F : Arr Z h a c ty) (S : Sm h h' a) : Arr Z h' a c ty := ⟨S _ F.1, F.2⟩
/-- the array at a holds just these values -/
def Ary (Z : State) (h : Heap) (a : Addr) (ty : FieldType) (vs : List Value) : Prop := ∃ c : Cell, Arr Z h a c ty ∧ c.slots = vs.toArray
theorem Ary.sm {h h' : Heap} {a : Addr} {ty : FieldType} {vs : List Value} (F : Ary Z h a ty vs) (S : Sm h h' a) : Ary Z h' a ty vs := by
  obtain ⟨c, A, r⟩ := F; exact ⟨c, A.sm S, r⟩
theorem Ary.lt {h : Heap} {a : Addr} {ty : FieldType} {vs : List Value} (F : Ary Z h a ty vs) : a < h.size := by
  obtain ⟨c, A, r⟩ := F; exact A.lt
theorem Ary.eq {h : Heap} {a : Addr} {ty : FieldType} {vs vs' : List Value} (F : Ary Z h a ty vs) (q : vs = vs') : Ary Z h a ty vs' := q ▸ F
theorem Ary.set {h h' : Heap} {a : Addr} {ty : FieldType} {vs : List Value} {k : Nat} {v : Value} (F : Ary Z h a ty vs) (W : Wr h h' a k v) : Ary Z h' a ty (vs.set k v) := by
  obtain ⟨c, A, r⟩ := F
  refine ⟨_, A.same W, ?_⟩
  show c.slots.setIfInBounds k v = _
  rw [r]; simp
theorem clamp_of {j : Int32} {k : Nat} (hj : j.toInt = (k : Int)) : j.toNatClampNeg = k := by
  show j.toInt.toNat = k; omega
theorem inb {j : Int32} {k : Nat} {c : Cell} {vs : List Value} (hj : j.toInt = (k : Int)) (hc : c.slots = vs.toArray) (hk : k < vs.length) : ¬ (j < 0 ∨ c.slots.size ≤ j.toNatClampNeg) := by
  have z : (0 : Int32).toInt = 0 := rfl
  rw [clamp_of hj, hc, Int32.lt_iff_toInt_lt, z]; simp; omega
theorem lt_of_get {vs : List Value} {k : Nat} {v : Value} (h : vs[k]? = some v) : k < vs.length := (List.getElem?_eq_some_iff.mp h).1
theorem Go.newA {aty : ArrayType} {n : Int32} {k : Nat} {ty : FieldType} (w : (Cond.arrayClass ty).before a0 Z = true) (hty : newarray.typeOf aty = ty) (hn : n.toInt = (k : Int)) {cap : Nat} (hcap : k ≤ cap) (hb8 : cap * 8 ≤ 536870912) (hd : decode bytes pc = .ok (.newarray aty, 2)) (hc : cells + 1 ≤ R.cells) (hs : slots + cap ≤ R.slots) (hp : pc + 2 = pc')
    (q : ∀ (h' : Heap) (a : Addr), a = h.size → Ext h h' → Ary Z h' a ty (List.replicate k (defaultValue ty)) → Go wd l R Z y bytes maxL ret n0 K N Q h' (cells + 1) (slots + cap) pc' Ls (.ref a :: st)) : Go wd l R Z y bytes maxL ret n0 K N Q h cells slots pc Ls (.int n :: st) := by
  subst hp hty
  intro p e s0 s m args below meth c T locs hR O X eT F
  have z : (0 : Int32).toInt = 0 := rfl
  have hn0 : ¬ n < 0 := by rw [Int32.lt_iff_toInt_lt, z]; omega
  obtain ⟨T2, h2, cA, X2, e2, E2, A2, st2⟩ := RoadKit.newP X O.1 O.2.2.2.2.2.1 w eT (g := mkF m pc Ls (.int n :: st)) rfl (hb O.2.1 hd) rfl hn0 (cap := cap) (by rw [clamp_of hn]; exact hcap) hb8 hc hs
  obtain ⟨s₂, o, h1, r⟩ := q h2 _ rfl E2 ⟨_, A2, by simp [newA, clamp_of hn]⟩ p e s0 s m args below meth c T2 locs (hR.mono E2.1) O X2 e2 F
  exact ⟨s₂, o, st2 _ h1, r⟩
theorem Go.alen {a : Addr} {ty : FieldType} {vs : List Value} {z : Int32} (hA : Ary Z h a ty vs) (hz : z.toInt = (vs.length : Int)) (hd : decode bytes pc = .ok (.arraylength, 1)) (hp : pc + 1 = pc') (q : Go wd l R Z y bytes maxL ret n0 K N Q h cells slots pc' Ls (.int z :: st)) : Go wd l R Z y bytes maxL ret n0 K N Q h cells slots pc Ls (.ref a :: st) := by
  subst hp
  obtain ⟨cl, A, r⟩ := hA
  have e1 : cl.slots.size.toInt32 = z := by
    have := z.toInt_lt
    rw [r]; apply Int32.toInt_inj.mp
    rw [hz]
    have q1 : vs.toArray.size = vs.length := by simp
    rw [q1]; exact len_toInt (by omega)
  exact Go.of q fun p e s m args below meth c T locs O X eT t hr => X.arraylength O.1 (cell := cl) (by rw [eT]; exact A.1) (State.isArrayOf_alike O.2.2.2.2.2.1.alike A.2.1) (g := mkF m pc Ls (.ref a :: st)) rfl (rest := st) rfl (hb O.2.1 hd) _ (by rw [e1]; exact hr)
theorem Go.ldI {a : Addr} {vs : List Value} {j : Int32} {k : Nat} {v : Value} (hA : Ary Z h a .int vs) (hj : j.toInt = (k : Int)) (hv : vs[k]? = some v) (hd : decode bytes pc = .ok (.iaload, 1)) (hp : pc + 1 = pc') (q : Go wd l R Z y bytes maxL ret n0 K N Q h cells slots pc' Ls (v :: st)) : Go wd l R Z y bytes maxL ret n0 K N Q h cells slots pc Ls (.int j :: .ref a :: st) := by
  subst hp
  obtain ⟨cl, A, r⟩ := hA
  exact Go.of q fun p e s m args below meth c T locs O X eT t hr => X.iaload O.1 (j := j) (v := v) (by rw [eT]; exact A.1) (State.isArrayOf_alike O.2.2.2.2.2.1.alike A.2.1) A.2.2 (inb hj r (lt_of_get hv)) (by rw [clamp_of hj, r]; simpa using hv) (g := mkF m pc Ls (.int j :: .ref a :: st)) rfl rfl (hb O.2.1 hd) _ hr
theorem Go.ldJ {a : Addr} {vs : List Value} {j : Int32} {k : Nat} {v : Value} (hA : Ary Z h a .long vs) (hj : j.toInt = (k : Int)) (hv : vs[k]? = some v) (hd : decode bytes pc = .ok (.laload, 1)) (hp : pc + 1 = pc') (q : Go wd l R Z y bytes maxL ret n0 K N Q h cells slots pc' Ls (v :: st)) : Go wd l R Z y bytes maxL ret n0 K N Q h cells slots pc Ls (.int j :: .ref a :: st) := by
  subst hp
  obtain ⟨cl, A, r⟩ := hA
  exact Go.of q fun p e s m args below meth c T locs O X eT t hr => X.laload O.1 (j := j) (v := v) (by rw [eT]; exact A.1) (State.isArrayOf_alike O.2.2.2.2.2.1.alike A.2.1) A.2.2 (inb hj r (lt_of_get hv)) (by rw [clamp_of hj, r]; simpa using hv) (g := mkF m pc Ls (.int j :: .ref a :: st)) rfl rfl (hb O.2.1 hd) _ hr
theorem Go.ldC {a : Addr} {vs : List Value} {j : Int32} {k : Nat} {v : Value} (hA : Ary Z h a .char vs) (hj : j.toInt = (k : Int)) (hv : vs[k]? = some v) (hd : decode bytes pc = .ok (.caload, 1)) (hp : pc + 1 = pc') (q : Go wd l R Z y bytes maxL ret n0 K N Q h cells slots pc' Ls (v :: st)) : Go wd l R Z y bytes maxL ret n0 K N Q h cells slots pc Ls (.int j :: .ref a :: st) := by
  subst hp
  obtain ⟨cl, A, r⟩ := hA
  exact Go.of q fun p e s m args below meth c T locs O X eT t hr => X.caload O.1 (j := j) (v := v) (by rw [eT]; exact A.1) (State.isArrayOf_alike O.2.2.2.2.2.1.alike A.2.1) A.2.2 (inb hj r (lt_of_get hv)) (by rw [clamp_of hj, r]; simpa using hv) (g := mkF m pc Ls (.int j :: .ref a :: st)) rfl rfl (hb O.2.1 hd) _ hr
theorem Go.ldA {a : Addr} {ty : FieldType} {vs : List Value} {j : Int32} {k : Nat} {v : Value} (hA : Ary Z h a ty vs) (hty : ty.isReference = true) (hj : j.toInt = (k : Int)) (hv : vs[k]? = some v) (hd : decode bytes pc = .ok (.aaload, 1)) (hp : pc + 1 = pc') (q : Go wd l R Z y bytes maxL ret n0 K N Q h cells slots pc' Ls (v :: st)) : Go wd l R Z y bytes maxL ret n0 K N Q h cells slots pc Ls (.int j :: .ref a :: st) := by
  subst hp
  obtain ⟨cl, A, r⟩ := hA
  exact Go.of q fun p e s m args below meth c T locs O X eT t hr => X.aaload O.1 (j := j) (v := v) (by rw [eT]; exact A.1) (State.isArrayOf_alike O.2.2.2.2.2.1.alike A.2.1) hty A.2.2 (inb hj r (lt_of_get hv)) (by rw [clamp_of hj, r]; simpa using hv) (g := mkF m pc Ls (.int j :: .ref a :: st)) rfl rfl (hb O.2.1 hd) _ hr
theorem Go.stI {a : Addr} {vs : List Value} {j v : Int32} {k : Nat} (hA : Ary Z h a .int vs) (hj : j.toInt = (k : Int)) (hk : k < vs.length) (hd : decode bytes pc = .ok (.iastore, 1)) (ha : n0 ≤ a) (hp : pc + 1 = pc')
    (q : ∀ h', Wr h h' a k (.int v) → Ary Z h' a .int (vs.set k (.int v)) → Go wd l R Z y bytes maxL ret n0 K N Q h' cells slots pc' Ls st) : Go wd l R Z y bytes maxL ret n0 K N Q h cells slots pc Ls (.int v :: .int j :: .ref a :: st) := by
  subst hp
  have hA' := hA
  obtain ⟨cl, A, r⟩ := hA
  intro p e s0 s m args below meth c T locs hR O X eT F
  obtain ⟨T2, h2, X2, e2, W2, st2⟩ := RoadKit.stI X O.1 O.2.2.2.2.2.1 eT A (j := j) (x := v) (inb hj r hk) (g := mkF m pc Ls (.int v :: .int j :: .ref a :: st)) rfl rfl (hb O.2.1 hd)
  rw [clamp_of hj] at X2 W2
  obtain ⟨s₂, o, h1, r⟩ := q h2 W2 (hA'.set W2) p e s0 s m args below meth c T2 _ (hR.mono (Nat.le_of_eq W2.size.symm)) O X2 e2 (Fr.snoc X2 F ha)
  exact ⟨s₂, o, st2 _ h1, r⟩
theorem Go.stJ {a : Addr} {vs : List Value} {j : Int32} {v : Int64} {k : Nat} (hA : Ary Z h a .long vs) (hj : j.toInt = (k : Int)) (hk : k < vs.length) (hd : decode bytes pc = .ok (.lastore, 1)) (ha : n0 ≤ a) (hp : pc + 1 = pc')
    (q : ∀ h', Wr h h' a k (.long v) → Ary Z h' a .long (vs.set k (.long v)) → Go wd l R Z y bytes maxL ret n0 K N Q h' cells slots pc' Ls st) : Go wd l R Z y bytes maxL ret n0 K N Q h cells slots pc Ls (.long v :: .int j :: .ref a :: st) := by
  subst hp
  have hA' := hA
  obtain ⟨cl, A, r⟩ := hA
  intro p e s0 s m args below meth c T locs hR O X eT F
  obtain ⟨T2, h2, X2, e2, W2, st2⟩ := RoadKit.stJ X O.1 O.2.2.2.2.2.1 eT A (j := j) (x := v) (inb hj r hk) (g := mkF m pc Ls (.long v :: .int j :: .ref a :: st)) rfl rfl (hb O.2.1 hd)
  rw [clamp_of hj] at X2 W2
  obtain ⟨s₂, o, h1, r⟩ := q h2 W2 (hA'.set W2) p e s0 s m args below meth c T2 _ (hR.mono (Nat.le_of_eq W2.size.symm)) O X2 e2 (Fr.snoc X2 F ha)
  exact ⟨s₂, o, st2 _ h1, r⟩
theorem Go.stC {a : Addr} {vs : List Value} {j v : Int32} {k : Nat} (hA : Ary Z h a .char vs) (hj : j.toInt = (k : Int)) (hk : k < vs.length) (hd : decode bytes pc = .ok (.castore, 1)) (ha : n0 ≤ a) (hp : pc + 1 = pc')
    (q : ∀ h', Wr h h' a k (.int (nar .char v)) → Ary Z h' a .char (vs.set k (.int (nar .char v))) → Go wd l R Z y bytes maxL ret n0 K N Q h' cells slots pc' Ls st) : Go wd l R Z y bytes maxL ret n0 K N Q h cells slots pc Ls (.int v :: .int j :: .ref a :: st) := by
  subst hp
  have hA' := hA
  obtain ⟨cl, A, r⟩ := hA
  intro p e s0 s m args below meth c T locs hR O X eT F
  obtain ⟨T2, h2, X2, e2, W2, st2⟩ := RoadKit.stC X O.1 O.2.2.2.2.2.1 eT A (j := j) (x := v) (inb hj r hk) (g := mkF m pc Ls (.int v :: .int j :: .ref a :: st)) rfl rfl (hb O.2.1 hd)
  rw [clamp_of hj] at X2 W2
  obtain ⟨s₂, o, h1, r⟩ := q h2 W2 (hA'.set W2) p e s0 s m args below meth c T2 _ (hR.mono (Nat.le_of_eq W2.size.symm)) O X2 e2 (Fr.snoc X2 F ha)
  exact ⟨s₂, o, st2 _ h1, r⟩
/-! a method by its contract -/
def Mt (wd : Bool) (l : Launch) (Z : State) (y : MethodName) (bytes : ByteArray) (maxL : Nat) (ret : Option FieldType) (rm : Room) (n0 : Nat) (Q : Option Value → Heap → Prop) (h : Heap) (as' : Array Value) : Prop :=
  MetFree l y (head1 [Cond.code y bytes maxL ret] rm) (fun a U => a = as' ∧ Z.Warmed39 U.vm ∧ U.heap = h) (fun _ _ _ _ _ => True) (fun _ U o U' => ∃ v L, o = .returned v ∧ ((Q v U'.heap ∧ h.size ≤ U'.heap.size) ∧ Fr n0 L) ∧ GoEnd wd U o U' L rm.cells rm.slots)
theorem met_go {rm : Room} {ws : List Jvm.Cond} {as' : Array Value} (hp : plainName y.cls = true) (hef : ∀ m, entryFrame m as' maxL = mkF m 0 Ls []) (g : Go wd l rm Z y bytes maxL ret n0 K N Q h 0 0 0 Ls []) :
    MetFree l y (head1 (Jvm.Cond.code y bytes maxL ret :: ws) rm) (fun a U => a = as' ∧ Z.Warmed39 U.vm ∧ U.heap = h) (fun _ _ _ _ _ => True) (fun _ U o U' => ∃ v L, o = .returned v ∧ ((Q v U'.heap ∧ h.size ≤ U'.heap.size) ∧ Fr n0 L) ∧ GoEnd wd U o U' L K N) := by
  refine MetFree.of_bodySF (plainFor_of_name hp) hisR ?_
  intro p e s m args below meth c s₁ Bd hml0 hP hK
  obtain ⟨rfl, hZ, hh⟩ := hP
  have O : Own Z y bytes maxL ret p s m meth c := ⟨Bd.exec, Bd.bytes, hml0, findClass_of_methodNamed Bd.named, (name_of_methodNamed Bd.named Bd.method).1, hZ, Bd.returns, Bd.notSynchronized⟩
  have X0 : Stand p l e rm s m args below meth c s₁ [] 0 0 := Stand.of_body Bd
  have e0 : s₁.heap = h := by rw [← hh, Bd.state]; rfl
  obtain ⟨s₂, o, h1, h2, h3, v, L, h4, h5, h6⟩ := g p e s s m args below meth c s₁ [] (GoRel.refl _ _ _) O X0 e0 (Fr.nil n0)
  exact ⟨s₂, o, castTop (hef m) h1, h2, h3, v, L, h4, ⟨⟨h5.1, hh ▸ h6.grow⟩, h5.2⟩, h6⟩
theorem Mt.go {rm : Room} {as' : Array Value} (hp : plainName y.cls = true) (hef : ∀ m, entryFrame m as' maxL = mkF m 0 Ls []) (g : Go wd l rm Z y bytes maxL ret n0 rm.cells rm.slots Q h 0 0 0 Ls []) : Mt wd l Z y bytes maxL ret rm n0 Q h as' := met_go (ws := []) hp hef g
variable {y2 : MethodName} {bytes2 : ByteArray} {maxL2 : Nat} {ret2 : Option FieldType} {rm : Room} {i W : Nat} {as' : Array Value} {argsL rest : List Value} {Q2 : Option Value → Heap → Prop} {ps : List FieldType} {r2 : Option FieldType}
theorem Go.callS (w1 : (Cond.methodLink y.cls i y2).before a0 Z = true) (w2 : (Cond.static y2).before a0 Z = true) (w3 : (Cond.initialized y2.cls).before a0 Z = true) (w4 : (Cond.code y2 bytes2 maxL2 ret2).before a0 Z = true) (hy : y2.cls ≠ "java/lang/invoke/MethodHandle" ∧ y2.cls ≠ "java/lang/invoke/VarHandle")
    (hM : Mt false l Z y2 bytes2 maxL2 ret2 rm n0 Q2 h argsL.toArray) (hd : decode bytes pc = .ok (.invokestatic i, 3)) (hz : Ls.size = maxL) (hpd : parseMethodDescriptor y2.desc = some ⟨ps, r2⟩) (hlen : argsL.length = ps.length) (hst : st = argsL.reverse ++ rest)
    (hW : (rest.map fun v => v.category).sum ≤ W) (hf : rm.frames + 1 ≤ R.frames) (hl : W + (maxL2 + 11) + rm.locals ≤ R.locals) (hc : cells + rm.cells ≤ R.cells) (hs : slots + rm.slots ≤ R.slots) (hp : pc + 3 = pc')
    (q : ∀ v h', Q2 v h' → Go wd l R Z y bytes maxL ret n0 K N Q h' (cells + rm.cells) (slots + rm.slots) pc' Ls (v.toList ++ rest)) : Go wd l R Z y bytes maxL ret n0 K N Q h cells slots pc Ls st := by
  subst hp hst
  intro p e s0 s m args below meth c T locs hR O X eT F
  obtain ⟨v, vm₁, ⟨T2, L2, k2, n2⟩, -, X2, ⟨Lc, hQ, l2, y2, z2⟩, st2⟩ := Jvm.LawKit.callS X O.1 (y := y2) O.2.2.2.1 (mvT O.2.2.2.2.2.1 w1) (mvT O.2.2.2.2.2.1 w2) (mvT O.2.2.2.2.2.1 w3) (mvT O.2.2.2.2.2.1 w4) hy
    (backOf (W := W) (Q := fun v h' L => (Q2 v h' ∧ h.size ≤ h'.size) ∧ Fr n0 L) hM O.2.2.2.2.2.1 w4 w3 hf hl) (g := mkF m pc Ls (argsL.reverse ++ rest)) rfl (hz.trans O.2.2.1.symm) (argsL := argsL) (rest := rest) (lenOf hpd hlen) rfl (by show 2 * 0 + _ ≤ _; omega) (hb O.2.1 hd) (fun _ _ => ⟨rfl, eT, hc, hs⟩)
  dsimp only [Pt.U, Pt.locs, Pt.cells, Pt.slots] at X2 l2 y2 z2 st2 hQ
  subst l2 y2 z2
  obtain ⟨s₂, o, h1, r⟩ := q v T2.heap hQ.1.1 p e s0 s m args below meth c T2 _ (hR.mono hQ.1.2) O X2 rfl (Fr.app F hQ.2)
  exact ⟨s₂, o, st2 _ h1, r⟩
theorem Go.callN {a : Addr} (hy1 : y2.name = "<init>") (w1 : (Cond.methodLink y.cls i y2).before a0 Z = true) (w2 : (Cond.instanceMethod y2).before a0 Z = true) (w3 : (Cond.initialized y2.cls).before a0 Z = true) (w4 : (Cond.code y2 bytes2 maxL2 none).before a0 Z = true) (hy : y2.cls ≠ "java/lang/invoke/MethodHandle" ∧ y2.cls ≠ "java/lang/invoke/VarHandle")
    (hM : Mt false l Z y2 bytes2 maxL2 none rm n0 Q2 h (.ref a :: argsL).toArray) (hd : decode bytes pc = .ok (.invokespecial i, 3)) (hz : Ls.size = maxL) (hpd : parseMethodDescriptor y2.desc = some ⟨ps, r2⟩) (hlen : argsL.length = ps.length) (hst : st = argsL.reverse ++ .ref a :: rest)
    (hW : (rest.map fun v => v.category).sum ≤ W) (hf : rm.frames + 1 ≤ R.frames) (hl : W + (maxL2 + 11) + rm.locals ≤ R.locals) (hc : cells + rm.cells ≤ R.cells) (hs : slots + rm.slots ≤ R.slots) (hp : pc + 3 = pc')
    (q : ∀ v h', Q2 v h' → Go wd l R Z y bytes maxL ret n0 K N Q h' (cells + rm.cells) (slots + rm.slots) pc' Ls (v.toList ++ rest)) : Go wd l R Z y bytes maxL ret n0 K N Q h cells slots pc Ls st := by
  subst hp hst
  intro p e s0 s m args below meth c T locs hR O X eT F
  obtain ⟨v, vm₁, ⟨T2, L2, k2, n2⟩, -, X2, ⟨Lc, hQ, l2, y2, z2⟩, st2⟩ := X.specialBack O.1 (y := y2) hy1 O.2.2.2.1 (mvT O.2.2.2.2.2.1 w1) (mvT O.2.2.2.2.2.1 w2) (mvT O.2.2.2.2.2.1 w4) hy
    (backOf (W := W) (Q := fun v h' L => (Q2 v h' ∧ h.size ≤ h'.size) ∧ Fr n0 L) hM O.2.2.2.2.2.1 w4 w3 hf hl) (g := mkF m pc Ls (argsL.reverse ++ .ref a :: rest)) rfl (hz.trans O.2.2.1.symm) (Steps.refl _) (a := a) (argsL := argsL) (rest := rest) (lenOf hpd hlen) rfl (by show 2 * 0 + _ ≤ _; omega) (hb O.2.1 hd) (fun _ _ => ⟨rfl, eT, hc, hs⟩)
  dsimp only [Pt.U, Pt.locs, Pt.cells, Pt.slots] at X2 l2 y2 z2 st2 hQ
  subst l2 y2 z2
  obtain ⟨s₂, o, h1, r⟩ := q v T2.heap hQ.1.1 p e s0 s m args below meth c T2 _ (hR.mono hQ.1.2) O X2 rfl (Fr.app F hQ.2)
  exact ⟨s₂, o, st2.trans h1, r⟩
theorem Go.callV {a : Addr} {C : String} (w1 : (Cond.methodLink y.cls i y2).before a0 Z = true) (w2 : (Cond.declares y2).before a0 Z = true) (w5 : (Cond.selects C y2 y2).before a0 Z = true) (w6 : (Cond.instanceMethod y2).before a0 Z = true) (w3 : (Cond.initialized y2.cls).before a0 Z = true) (w4 : (Cond.code y2 bytes2 maxL2 ret2).before a0 Z = true)
    (hy : y2.cls ≠ "java/lang/invoke/MethodHandle" ∧ y2.cls ≠ "java/lang/invoke/VarHandle") (hE : Exa Z h a C)
    (hM : Mt false l Z y2 bytes2 maxL2 ret2 rm n0 Q2 h (.ref a :: argsL).toArray) (hd : decode bytes pc = .ok (.invokevirtual i, 3)) (hz : Ls.size = maxL) (hpd : parseMethodDescriptor y2.desc = some ⟨ps, r2⟩) (hlen : argsL.length = ps.length) (hst : st = argsL.reverse ++ .ref a :: rest)
    (hW : (rest.map fun v => v.category).sum ≤ W) (hf : rm.frames + 1 ≤ R.frames) (hl : W + (maxL2 + 11) + rm.locals ≤ R.locals) (hc : cells + rm.cells ≤ R.cells) (hs : slots + rm.slots ≤ R.slots) (hp : pc + 3 = pc')
    (q : ∀ v h', Q2 v h' → Go wd l R Z y bytes maxL ret n0 K N Q h' (cells + rm.cells) (slots + rm.slots) pc' Ls (v.toList ++ rest)) : Go wd l R Z y bytes maxL ret n0 K N Q h cells slots pc Ls st := by
  subst hp hst
  intro p e s0 s m args below meth c T locs hR O X eT F
  obtain ⟨cq, kq, qa, qb, qc⟩ := isOf (T := T) O.2.2.2.2.2.1 eT hE
  obtain ⟨v, vm₁, ⟨T2, L2, k2, n2⟩, -, X2, ⟨Lc, hQ, l2, y2, z2⟩, st2⟩ := X.virtualBack O.1 (y := y2) (z := y2) O.2.2.2.1 (mvT O.2.2.2.2.2.1 w1) (mvT O.2.2.2.2.2.1 w2) (notFace_of_selects (args := #[]) (mvT O.2.2.2.2.2.1 w5)) (mvT O.2.2.2.2.2.1 w5) (mvT O.2.2.2.2.2.1 w6) hy
    (backOf (W := W) (Q := fun v h' L => (Q2 v h' ∧ h.size ≤ h'.size) ∧ Fr n0 L) hM O.2.2.2.2.2.1 w4 w3 hf hl) qa qc (g := mkF m pc Ls (argsL.reverse ++ .ref a :: rest)) rfl (hz.trans O.2.2.1.symm) (Steps.refl _) (argsL := argsL) (rest := rest) (lenOf hpd hlen) rfl (by show 2 * 0 + _ ≤ _; omega) (hb O.2.1 hd) (fun _ _ => ⟨rfl, eT, hc, hs⟩)
  dsimp only [Pt.U, Pt.locs, Pt.cells, Pt.slots] at X2 l2 y2 z2 st2 hQ
  subst l2 y2 z2
  obtain ⟨s₂, o, h1, r⟩ := q v T2.heap hQ.1.1 p e s0 s m args below meth c T2 _ (hR.mono hQ.1.2) O X2 rfl (Fr.app F hQ.2)
  exact ⟨s₂, o, st2.trans h1, r⟩
end GoLaws
end Jvm.RoadKit
namespace Jvm.Pilot.@@N@@
open Jvm Jvm.ClassFile Sem Op Lib Jvm.Free Jvm.Stand Jvm.LawKit Jvm.RoadKit Bundle Jvm.Pilot.@@N@@.Jvm.D
theorem d1_0 : decode prog_22_method_1_code 0 = .ok (.aload_n 0, 1) := by decide +kernel
theorem d1_1 : decode prog_22_method_1_code 1 = .ok (.invokespecial 1, 3) := by decide +kernel
theorem d1_4 : decode prog_22_method_1_code 4 = .ok (.aload_n 0, 1) := by decide +kernel
theorem d1_5 : decode prog_22_method_1_code 5 = .ok (.bipush 8, 2) := by decide +kernel
theorem d1_7 : decode prog_22_method_1_code 7 = .ok (.newarray .int, 2) := by decide +kernel
theorem d1_9 : decode prog_22_method_1_code 9 = .ok (.putfield 7, 3) := by decide +kernel
theorem d1_12 : decode prog_22_method_1_code 12 = .ok (.return_, 1) := by decide +kernel
theorem d3_0 : decode prog_22_method_4_code 0 = .ok (.aload_n 0, 1) := by decide +kernel
theorem d3_1 : decode prog_22_method_4_code 1 = .ok (.getfield 13, 3) := by decide +kernel
theorem d3_4 : decode prog_22_method_4_code 4 = .ok (.aload_n 0, 1) := by decide +kernel
theorem d3_5 : decode prog_22_method_4_code 5 = .ok (.getfield 7, 3) := by decide +kernel
theorem d3_8 : decode prog_22_method_4_code 8 = .ok (.arraylength, 1) := by decide +kernel
theorem d3_9 : decode prog_22_method_4_code 9 = .ok (.if_icmp .ne 20, 3) := by decide +kernel
theorem d3_29 : decode prog_22_method_4_code 29 = .ok (.aload_n 0, 1) := by decide +kernel
theorem d3_30 : decode prog_22_method_4_code 30 = .ok (.getfield 7, 3) := by decide +kernel
theorem d3_33 : decode prog_22_method_4_code 33 = .ok (.aload_n 0, 1) := by decide +kernel
theorem d3_34 : decode prog_22_method_4_code 34 = .ok (.dup, 1) := by decide +kernel
theorem d3_35 : decode prog_22_method_4_code 35 = .ok (.getfield 13, 3) := by decide +kernel
theorem d3_38 : decode prog_22_method_4_code 38 = .ok (.dup_x1, 1) := by decide +kernel
theorem d3_39 : decode prog_22_method_4_code 39 = .ok (.iconst 1, 1) := by decide +kernel
theorem d3_40 : decode prog_22_method_4_code 40 = .ok (.iadd, 1) := by decide +kernel
theorem d3_41 : decode prog_22_method_4_code 41 = .ok (.putfield 13, 3) := by decide +kernel
theorem d3_44 : decode prog_22_method_4_code 44 = .ok (.iload_n 1, 1) := by decide +kernel
theorem d3_45 : decode prog_22_method_4_code 45 = .ok (.iastore, 1) := by decide +kernel
theorem d3_46 : decode prog_22_method_4_code 46 = .ok (.return_, 1) := by decide +kernel
theorem d4_0 : decode prog_22_method_3_code 0 = .ok (.getstatic 17, 3) := by decide +kernel
theorem d4_3 : decode prog_22_method_3_code 3 = .ok (.ifCond .ne 24, 3) := by decide +kernel
theorem d4_27 : decode prog_22_method_3_code 27 = .ok (.aload_n 0, 1) := by decide +kernel
theorem d4_28 : decode prog_22_method_3_code 28 = .ok (.getfield 7, 3) := by decide +kernel
theorem d4_31 : decode prog_22_method_3_code 31 = .ok (.iload_n 1, 1) := by decide +kernel
theorem d4_32 : decode prog_22_method_3_code 32 = .ok (.iaload, 1) := by decide +kernel
theorem d4_33 : decode prog_22_method_3_code 33 = .ok (.ireturn, 1) := by decide +kernel
theorem d5_0 : decode prog_22_method_2_code 0 = .ok (.aload_n 0, 1) := by decide +kernel
theorem d5_1 : decode prog_22_method_2_code 1 = .ok (.getfield 13, 3) := by decide +kernel
theorem d5_4 : decode prog_22_method_2_code 4 = .ok (.ireturn, 1) := by decide +kernel
theorem d6_0 : decode prog_22_method_5_code 0 = .ok (.getstatic 17, 3) := by decide +kernel
theorem d6_3 : decode prog_22_method_5_code 3 = .ok (.ifCond .ne 18, 3) := by decide +kernel
theorem d6_21 : decode prog_22_method_5_code 21 = .ok (.aload_n 0, 1) := by decide +kernel
theorem d6_22 : decode prog_22_method_5_code 22 = .ok (.getfield 7, 3) := by decide +kernel
theorem d6_25 : decode prog_22_method_5_code 25 = .ok (.aload_n 0, 1) := by decide +kernel
theorem d6_26 : decode prog_22_method_5_code 26 = .ok (.dup, 1) := by decide +kernel
theorem d6_27 : decode prog_22_method_5_code 27 = .ok (.getfield 13, 3) := by decide +kernel
theorem d6_30 : decode prog_22_method_5_code 30 = .ok (.iconst 1, 1) := by decide +kernel
theorem d6_31 : decode prog_22_method_5_code 31 = .ok (.isub, 1) := by decide +kernel
theorem d6_32 : decode prog_22_method_5_code 32 = .ok (.dup_x1, 1) := by decide +kernel
theorem d6_33 : decode prog_22_method_5_code 33 = .ok (.putfield 13, 3) := by decide +kernel
theorem d6_36 : decode prog_22_method_5_code 36 = .ok (.iaload, 1) := by decide +kernel
theorem d6_37 : decode prog_22_method_5_code 37 = .ok (.ireturn, 1) := by decide +kernel
theorem pd0 : parseMethodDescriptor "()V" = some ⟨[], none⟩ := by decide +kernel
theorem pd1 : parseMethodDescriptor "(I)V" = some ⟨[.int], none⟩ := by decide +kernel
theorem pd2 : parseMethodDescriptor "(I)I" = some ⟨[.int], (some .int)⟩ := by decide +kernel
theorem pd3 : parseMethodDescriptor "()I" = some ⟨[], (some .int)⟩ := by decide +kernel
theorem pn0 : plainName "com/example/forward_planner/forwardplanner/heuristic/IntList" = true := by first | (simp [plainName, overriddenIn]; done) | decide +kernel
theorem pn1 : plainName "com/example/forward_planner/forwardplanner/heuristic/IntListGetPinLaw" = true := by first | (simp [plainName, overriddenIn]; done) | decide +kernel

theorem own_eqI {args : Array Value} {s : State} {t : Term} {n : Int32} (h : (Jvm.Cond.eq t (.int n)).value args s none s [] = some true) : t.eval args s none [] s = some (.int n) := by
  obtain ⟨x, y, e1, e2, k, k'⟩ := cmp_v (Or.inl h)
  obtain rfl : y = .int n := (Option.some.inj (e2.symm.trans (Term.int_eval n)))
  obtain ⟨z, rfl⟩ : ∃ z, x = .int z := k'
  have q : (Jvm.Cond.eq t (.int n)).value args s none s [] = some (decide (z = n)) := by simp [Cond.value, e1, e2]
  rw [q] at h
  rw [e1, of_decide_eq_true (Option.some.inj h)]

set_option maxRecDepth 65536 in
set_option maxHeartbeats 40000000 in
theorem m_i (l : Launch) (Z : State) (a0 : Array Value) (hw : ∀ d ∈ tables_1, d.before a0 Z = true) (a : Addr) (h0 : Heap) (n0 : Nat) (z0 : n0 ≤ h0.size) (hE : Exa Z h0 a "com/example/forward_planner/forwardplanner/heuristic/IntList") (hF : Fld Z h0 a "com/example/forward_planner/forwardplanner/heuristic/IntList" "elements" "[I" .null) (hG : Fld Z h0 a "com/example/forward_planner/forwardplanner/heuristic/IntList" "size" "I" (.int (0 : Int32))) (hg : n0 ≤ a) : Mt false l Z (⟨"com/example/forward_planner/forwardplanner/heuristic/IntList", "<init>", "()V"⟩ : MethodName) prog_22_method_1_code 1 none ({ frames := 1, cells := 1, slots := 8, locals := 12 } : Room) n0 (fun v h => v = none ∧ ∃ e, Keep h0 h [a] ∧ Exa Z h a "com/example/forward_planner/forwardplanner/heuristic/IntList" ∧ Fld Z h a "com/example/forward_planner/forwardplanner/heuristic/IntList" "elements" "[I" (.ref e) ∧ Fld Z h a "com/example/forward_planner/forwardplanner/heuristic/IntList" "size" "I" (.int (0 : Int32)) ∧ Ary Z h e .int [.int (0 : Int32), .int (0 : Int32), .int (0 : Int32), .int (0 : Int32), .int (0 : Int32), .int (0 : Int32), .int (0 : Int32), .int (0 : Int32)] ∧ h0.size ≤ e ∧ e < h.size) h0 #[(.ref a)] := by
  refine Mt.go (Ls := #[.val (.ref a)]) pn0 (fun m => by rfl) ?_
  show (Go false l ({ frames := 1, cells := 1, slots := 8, locals := 12 } : Room) Z (⟨"com/example/forward_planner/forwardplanner/heuristic/IntList", "<init>", "()V"⟩ : MethodName) prog_22_method_1_code 1 none n0 1 8 (fun v h => v = none ∧ ∃ e, Keep h0 h [a] ∧ Exa Z h a "com/example/forward_planner/forwardplanner/heuristic/IntList" ∧ Fld Z h a "com/example/forward_planner/forwardplanner/heuristic/IntList" "elements" "[I" (.ref e) ∧ Fld Z h a "com/example/forward_planner/forwardplanner/heuristic/IntList" "size" "I" (.int (0 : Int32)) ∧ Ary Z h e .int [.int (0 : Int32), .int (0 : Int32), .int (0 : Int32), .int (0 : Int32), .int (0 : Int32), .int (0 : Int32), .int (0 : Int32), .int (0 : Int32)] ∧ h0.size ≤ e ∧ e < h.size)) h0 0 0 0 #[.val (.ref a)] []
  refine Go.aloadN (pc' := 1) d1_0 rfl rfl rfl ?_
  refine Go.initO (pc' := 4) (W := 0) (hw _ (List.mem_of_getElem? (i := 6) rfl)) (hw _ (List.mem_of_getElem? (i := 7) rfl)) (hw _ (List.mem_of_getElem? (i := 8) rfl)) d1_1 rfl (by decide) (Nat.le_of_eq rfl) (by decide) rfl ?_
  refine Go.aloadN (pc' := 5) d1_4 rfl rfl rfl ?_
  refine Go.bipush (pc' := 7) (v := (8 : Int32)) d1_5 rfl rfl ?_
  refine Go.newA (pc' := 9) (k := 8) (ty := .int) (cap := 8) (hw _ (List.mem_of_getElem? (i := 9) rfl)) rfl rfl (by decide) (by decide) d1_7 (by decide) (by decide) rfl ?_
  intro h_1 a_2 q_3 E_4 A_5
  have n_7 : a ≠ a_2 := Nat.ne_of_lt (q_3 ▸ hE.lt)
  have g_8 : n0 ≤ a_2 := q_3 ▸ z0
  have g_9 : h0.size ≤ a_2 := q_3 ▸ (Nat.le_refl _)
  have f_10 : Exa Z h_1 a "com/example/forward_planner/forwardplanner/heuristic/IntList" := hE.sm (Sm.ext E_4)
  have f_11 : Fld Z h_1 a "com/example/forward_planner/forwardplanner/heuristic/IntList" "elements" "[I" .null := hF.sm (Sm.ext E_4)
  have f_12 : Fld Z h_1 a "com/example/forward_planner/forwardplanner/heuristic/IntList" "size" "I" (.int (0 : Int32)) := hG.sm (Sm.ext E_4)
  have t_13 : a < h_1.size := Nat.lt_of_lt_of_le hE.lt E_4.1
  have z_14 : n0 ≤ h_1.size := Nat.le_trans z0 E_4.1
  have b_15 : h0.size ≤ h_1.size := Nat.le_trans (Nat.le_refl _) E_4.1
  have K_16 : Keep h0 h_1 [a] := (Keep.refl _ _).ext E_4
  have t_17 : a_2 < h_1.size := A_5.lt
  change Ary Z h_1 a_2 .int [(.int (0 : Int32)), (.int (0 : Int32)), (.int (0 : Int32)), (.int (0 : Int32)), (.int (0 : Int32)), (.int (0 : Int32)), (.int (0 : Int32)), (.int (0 : Int32))] at A_5
  refine Go.putF (pc' := 12) (ty := (.array .int)) (hw _ (List.mem_of_getElem? (i := 10) rfl)) f_11 f_10 (Or.inl (hw _ (List.mem_of_getElem? (i := 11) rfl))) (hw _ (List.mem_of_getElem? (i := 1) rfl)) (by decide) rfl rfl d1_9 hg rfl ?_
  intro h_18 W_19
  have f_20 : Exa Z h_18 a "com/example/forward_planner/forwardplanner/heuristic/IntList" := Exa.wr W_19 f_10
  have f_21 : Ary Z h_18 a_2 .int [(.int (0 : Int32)), (.int (0 : Int32)), (.int (0 : Int32)), (.int (0 : Int32)), (.int (0 : Int32)), (.int (0 : Int32)), (.int (0 : Int32)), (.int (0 : Int32))] := A_5.sm (Sm.wr W_19 n_7.symm)
  have t_22 : a < h_18.size := Nat.lt_of_lt_of_le t_13 (Nat.le_of_eq W_19.size.symm)
  have t_23 : a_2 < h_18.size := Nat.lt_of_lt_of_le t_17 (Nat.le_of_eq W_19.size.symm)
  have z_24 : n0 ≤ h_18.size := Nat.le_trans z_14 (Nat.le_of_eq W_19.size.symm)
  have b_25 : h0.size ≤ h_18.size := Nat.le_trans b_15 (Nat.le_of_eq W_19.size.symm)
  have K_26 : Keep h0 h_18 [a] := K_16.wr W_19 (Or.inl (List.mem_of_getElem? (i := 0) rfl))
  have f_27 : Fld Z h_18 a "com/example/forward_planner/forwardplanner/heuristic/IntList" "elements" "[I" (.ref a_2) := Fld.same W_19 f_11
  have f_28 : Fld Z h_18 a "com/example/forward_planner/forwardplanner/heuristic/IntList" "size" "I" (.int (0 : Int32)) := Fld.other W_19 f_12 (Or.inr (slot_ne (Or.inl (hw _ (List.mem_of_getElem? (i := 18) rfl))) (Or.inl (hw _ (List.mem_of_getElem? (i := 11) rfl))) (by decide) (t := .int) (t' := (.array .int)) (by decide) (by decide)))
  exact Go.ret0 d1_12 rfl ⟨rfl, a_2, K_26, f_20, f_27, f_28, f_21, g_9, t_23⟩ (by decide) (by decide)
set_option maxRecDepth 65536 in
set_option maxHeartbeats 40000000 in
theorem m_a (l : Launch) (Z : State) (a0 : Array Value) (hw : ∀ d ∈ tables_1, d.before a0 Z = true) (a e : Addr) (x n : Int32) (k : Nat) (vs : List Value) (h0 : Heap) (n0 : Nat) (z0 : n0 ≤ h0.size) (hE : Exa Z h0 a "com/example/forward_planner/forwardplanner/heuristic/IntList") (hF : Fld Z h0 a "com/example/forward_planner/forwardplanner/heuristic/IntList" "elements" "[I" (.ref e)) (hG : Fld Z h0 a "com/example/forward_planner/forwardplanner/heuristic/IntList" "size" "I" (.int n)) (hA : Ary Z h0 e .int vs) (hk : n.toInt = (k : Int)) (hk8 : k < 8) (hv : vs.length = 8) (hne : a ≠ e) (hg : n0 ≤ a) (hg2 : n0 ≤ e) : Mt false l Z (⟨"com/example/forward_planner/forwardplanner/heuristic/IntList", "add", "(I)V"⟩ : MethodName) prog_22_method_4_code 2 none ({ frames := 0, cells := 0, slots := 0, locals := 0 } : Room) n0 (fun v h => v = none ∧ Keep h0 h [a, e] ∧ Exa Z h a "com/example/forward_planner/forwardplanner/heuristic/IntList" ∧ Fld Z h a "com/example/forward_planner/forwardplanner/heuristic/IntList" "elements" "[I" (.ref e) ∧ Fld Z h a "com/example/forward_planner/forwardplanner/heuristic/IntList" "size" "I" (.int (n + 1)) ∧ Ary Z h e .int (vs.set k (.int x))) h0 #[(.ref a), (.int x)] := by
  refine Mt.go (Ls := #[.val (.ref a), .val (.int x)]) pn0 (fun m => by rfl) ?_
  show (Go false l ({ frames := 0, cells := 0, slots := 0, locals := 0 } : Room) Z (⟨"com/example/forward_planner/forwardplanner/heuristic/IntList", "add", "(I)V"⟩ : MethodName) prog_22_method_4_code 2 none n0 0 0 (fun v h => v = none ∧ Keep h0 h [a, e] ∧ Exa Z h a "com/example/forward_planner/forwardplanner/heuristic/IntList" ∧ Fld Z h a "com/example/forward_planner/forwardplanner/heuristic/IntList" "elements" "[I" (.ref e) ∧ Fld Z h a "com/example/forward_planner/forwardplanner/heuristic/IntList" "size" "I" (.int (n + 1)) ∧ Ary Z h e .int (vs.set k (.int x)))) h0 0 0 0 #[.val (.ref a), .val (.int x)] []
  refine Go.aloadN (pc' := 1) d3_0 rfl rfl rfl ?_
  refine Go.getF (pc' := 4) (hw _ (List.mem_of_getElem? (i := 17) rfl)) hG d3_1 rfl ?_
  refine Go.aloadN (pc' := 5) d3_4 rfl rfl rfl ?_
  refine Go.getF (pc' := 8) (hw _ (List.mem_of_getElem? (i := 10) rfl)) hF d3_5 rfl ?_
  refine Go.alen (pc' := 9) (z := (8 : Int32)) hA (by rw [hv]; rfl) d3_8 rfl ?_
  refine Go.icmp (pc1 := 29) (pc2 := 12) d3_9 (by decide) (by decide) rfl (fun (c_29 : n.toInt ≠ (8 : Int)) => ?_) (fun (c_29 : n.toInt = (8 : Int)) => ?_)
  rotate_left
  · exfalso; omega
  refine Go.aloadN (pc' := 30) d3_29 rfl rfl rfl ?_
  refine Go.getF (pc' := 33) (hw _ (List.mem_of_getElem? (i := 10) rfl)) hF d3_30 rfl ?_
  refine Go.aloadN (pc' := 34) d3_33 rfl rfl rfl ?_
  refine Go.dup (pc' := 35) d3_34 rfl rfl ?_
  refine Go.getF (pc' := 38) (hw _ (List.mem_of_getElem? (i := 17) rfl)) hG d3_35 rfl ?_
  refine Go.dupX1 (pc' := 39) d3_38 rfl rfl rfl ?_
  refine Go.iconst (pc' := 40) (v := (1 : Int32)) d3_39 rfl rfl ?_
  refine Go.iadd (pc' := 41) d3_40 rfl ?_
  refine Go.putF (pc' := 44) (ty := .int) (hw _ (List.mem_of_getElem? (i := 17) rfl)) hG hE (Or.inl (hw _ (List.mem_of_getElem? (i := 18) rfl))) (hw _ (List.mem_of_getElem? (i := 1) rfl)) (by decide) rfl rfl d3_41 hg rfl ?_
  intro h_30 W_31
  have f_32 : Exa Z h_30 a "com/example/forward_planner/forwardplanner/heuristic/IntList" := Exa.wr W_31 hE
  have f_33 : Ary Z h_30 e .int vs := hA.sm (Sm.wr W_31 hne.symm)
  have t_34 : a < h_30.size := Nat.lt_of_lt_of_le hE.lt (Nat.le_of_eq W_31.size.symm)
  have t_35 : e < h_30.size := Nat.lt_of_lt_of_le hA.lt (Nat.le_of_eq W_31.size.symm)
  have z_36 : n0 ≤ h_30.size := Nat.le_trans z0 (Nat.le_of_eq W_31.size.symm)
  have b_37 : h0.size ≤ h_30.size := Nat.le_trans (Nat.le_refl _) (Nat.le_of_eq W_31.size.symm)
  have K_38 : Keep h0 h_30 [a, e] := (Keep.refl _ _).wr W_31 (Or.inl (List.mem_of_getElem? (i := 0) rfl))
  have f_39 : Fld Z h_30 a "com/example/forward_planner/forwardplanner/heuristic/IntList" "elements" "[I" (.ref e) := Fld.other W_31 hF (Or.inr (slot_ne (Or.inl (hw _ (List.mem_of_getElem? (i := 11) rfl))) (Or.inl (hw _ (List.mem_of_getElem? (i := 18) rfl))) (by decide) (t := (.array .int)) (t' := .int) (by decide) (by decide)))
  have f_40 : Fld Z h_30 a "com/example/forward_planner/forwardplanner/heuristic/IntList" "size" "I" (.int (n + (1 : Int32))) := Fld.same W_31 hG
  refine Go.iloadN (pc' := 45) d3_44 rfl rfl ?_
  refine Go.stI (pc' := 46) (k := k) f_33 hk (by omega) d3_45 hg2 rfl ?_
  intro h_41 W_42 A_43
  have f_44 : Exa Z h_41 a "com/example/forward_planner/forwardplanner/heuristic/IntList" := f_32.sm (Sm.wr W_42 hne)
  have f_45 : Fld Z h_41 a "com/example/forward_planner/forwardplanner/heuristic/IntList" "elements" "[I" (.ref e) := f_39.sm (Sm.wr W_42 hne)
  have f_46 : Fld Z h_41 a "com/example/forward_planner/forwardplanner/heuristic/IntList" "size" "I" (.int (n + (1 : Int32))) := f_40.sm (Sm.wr W_42 hne)
  have t_47 : a < h_41.size := Nat.lt_of_lt_of_le t_34 (Nat.le_of_eq W_42.size.symm)
  have t_48 : e < h_41.size := Nat.lt_of_lt_of_le t_35 (Nat.le_of_eq W_42.size.symm)
  have z_49 : n0 ≤ h_41.size := Nat.le_trans z_36 (Nat.le_of_eq W_42.size.symm)
  have b_50 : h0.size ≤ h_41.size := Nat.le_trans b_37 (Nat.le_of_eq W_42.size.symm)
  have K_51 : Keep h0 h_41 [a, e] := K_38.wr W_42 (Or.inl (List.mem_of_getElem? (i := 1) rfl))
  exact Go.ret0 d3_46 rfl ⟨rfl, K_51, f_44, f_45, f_46, A_43⟩ (by decide) (by decide)
set_option maxRecDepth 65536 in
set_option maxHeartbeats 40000000 in
theorem m_r (l : Launch) (Z : State) (a0 : Array Value) (hw : ∀ d ∈ tables_1, d.before a0 Z = true) (a e : Addr) (n x : Int32) (k : Nat) (vs : List Value) (h0 : Heap) (n0 : Nat) (z0 : n0 ≤ h0.size) (hE : Exa Z h0 a "com/example/forward_planner/forwardplanner/heuristic/IntList") (hF : Fld Z h0 a "com/example/forward_planner/forwardplanner/heuristic/IntList" "elements" "[I" (.ref e)) (hG : Fld Z h0 a "com/example/forward_planner/forwardplanner/heuristic/IntList" "size" "I" (.int n)) (hA : Ary Z h0 e .int vs) (hS : Sta Z h0 "com/example/forward_planner/forwardplanner/heuristic/IntList" "$assertionsDisabled" "Z" (.int (1 : Int32))) (hk : n.toInt = (k : Int) + 1) (hx : vs[k]? = some (.int x)) (hne : a ≠ e) (hg : n0 ≤ a) (hg2 : n0 ≤ e) : Mt false l Z (⟨"com/example/forward_planner/forwardplanner/heuristic/IntList", "removeLast", "()I"⟩ : MethodName) prog_22_method_5_code 1 (some .int) ({ frames := 0, cells := 0, slots := 0, locals := 0 } : Room) n0 (fun v h => v = some (.int x) ∧ Keep h0 h [a] ∧ Exa Z h a "com/example/forward_planner/forwardplanner/heuristic/IntList" ∧ Fld Z h a "com/example/forward_planner/forwardplanner/heuristic/IntList" "elements" "[I" (.ref e) ∧ Fld Z h a "com/example/forward_planner/forwardplanner/heuristic/IntList" "size" "I" (.int (n - 1)) ∧ Ary Z h e .int vs) h0 #[(.ref a)] := by
  refine Mt.go (Ls := #[.val (.ref a)]) pn0 (fun m => by rfl) ?_
  show (Go false l ({ frames := 0, cells := 0, slots := 0, locals := 0 } : Room) Z (⟨"com/example/forward_planner/forwardplanner/heuristic/IntList", "removeLast", "()I"⟩ : MethodName) prog_22_method_5_code 1 (some .int) n0 0 0 (fun v h => v = some (.int x) ∧ Keep h0 h [a] ∧ Exa Z h a "com/example/forward_planner/forwardplanner/heuristic/IntList" ∧ Fld Z h a "com/example/forward_planner/forwardplanner/heuristic/IntList" "elements" "[I" (.ref e) ∧ Fld Z h a "com/example/forward_planner/forwardplanner/heuristic/IntList" "size" "I" (.int (n - 1)) ∧ Ary Z h e .int vs)) h0 0 0 0 #[.val (.ref a)] []
  refine Go.getS (pc' := 3) (hw _ (List.mem_of_getElem? (i := 25) rfl)) hS d6_0 rfl ?_
  refine Go.ifc (pc1 := 21) (pc2 := 6) d6_3 (by decide) (by decide) rfl (fun (c_52 : (1 : Int) ≠ 0) => ?_) (fun (c_52 : (1 : Int) = 0) => ?_)
  rotate_left
  · exact absurd c_52 (by decide)
  refine Go.aloadN (pc' := 22) d6_21 rfl rfl rfl ?_
  refine Go.getF (pc' := 25) (hw _ (List.mem_of_getElem? (i := 10) rfl)) hF d6_22 rfl ?_
  refine Go.aloadN (pc' := 26) d6_25 rfl rfl rfl ?_
  refine Go.dup (pc' := 27) d6_26 rfl rfl ?_
  refine Go.getF (pc' := 30) (hw _ (List.mem_of_getElem? (i := 17) rfl)) hG d6_27 rfl ?_
  refine Go.iconst (pc' := 31) (v := (1 : Int32)) d6_30 rfl rfl ?_
  refine Go.isub (pc' := 32) d6_31 rfl ?_
  generalize ev_53 : n - (1 : Int32) = v_53
  have k_54 : v_53.toInt = (k : Int) := by
    rw [← ev_53]
    have : (1 : Int32).toInt = 1 := by decide
    have := c_isub n (1 : Int32)
    have := rng32 (n - (1 : Int32))
    have := rng32 n
    omega
  refine Go.dupX1 (pc' := 33) d6_32 rfl rfl rfl ?_
  refine Go.putF (pc' := 36) (ty := .int) (hw _ (List.mem_of_getElem? (i := 17) rfl)) hG hE (Or.inl (hw _ (List.mem_of_getElem? (i := 18) rfl))) (hw _ (List.mem_of_getElem? (i := 1) rfl)) (by decide) rfl rfl d6_33 hg rfl ?_
  intro h_55 W_56
  have f_57 : Exa Z h_55 a "com/example/forward_planner/forwardplanner/heuristic/IntList" := Exa.wr W_56 hE
  have f_58 : Ary Z h_55 e .int vs := hA.sm (Sm.wr W_56 hne.symm)
  have t_60 : a < h_55.size := Nat.lt_of_lt_of_le hE.lt (Nat.le_of_eq W_56.size.symm)
  have t_61 : e < h_55.size := Nat.lt_of_lt_of_le hA.lt (Nat.le_of_eq W_56.size.symm)
  have z_62 : n0 ≤ h_55.size := Nat.le_trans z0 (Nat.le_of_eq W_56.size.symm)
  have b_63 : h0.size ≤ h_55.size := Nat.le_trans (Nat.le_refl _) (Nat.le_of_eq W_56.size.symm)
  have K_64 : Keep h0 h_55 [a] := (Keep.refl _ _).wr W_56 (Or.inl (List.mem_of_getElem? (i := 0) rfl))
  have f_59 : Sta Z h_55 "com/example/forward_planner/forwardplanner/heuristic/IntList" "$assertionsDisabled" "Z" (.int (1 : Int32)) := Sta.wr W_56 hS
  have f_65 : Fld Z h_55 a "com/example/forward_planner/forwardplanner/heuristic/IntList" "elements" "[I" (.ref e) := Fld.other W_56 hF (Or.inr (slot_ne (Or.inl (hw _ (List.mem_of_getElem? (i := 11) rfl))) (Or.inl (hw _ (List.mem_of_getElem? (i := 18) rfl))) (by decide) (t := (.array .int)) (t' := .int) (by decide) (by decide)))
  have f_66 : Fld Z h_55 a "com/example/forward_planner/forwardplanner/heuristic/IntList" "size" "I" (.int v_53) := Fld.same W_56 hG
  refine Go.ldI (pc' := 37) (k := k) (v := (.int x)) f_58 (by omega) hx d6_36 rfl ?_
  subst ev_53
  exact Go.retI d6_37 rfl ⟨rfl, K_64, f_57, f_65, f_66, f_58⟩ (by decide) (by decide)
set_option maxRecDepth 65536 in
set_option maxHeartbeats 40000000 in
theorem m_s (l : Launch) (Z : State) (a0 : Array Value) (hw : ∀ d ∈ tables_1, d.before a0 Z = true) (a : Addr) (n : Int32) (h0 : Heap) (n0 : Nat) (z0 : n0 ≤ h0.size) (hG : Fld Z h0 a "com/example/forward_planner/forwardplanner/heuristic/IntList" "size" "I" (.int n)) : Mt false l Z (⟨"com/example/forward_planner/forwardplanner/heuristic/IntList", "size", "()I"⟩ : MethodName) prog_22_method_2_code 1 (some .int) ({ frames := 0, cells := 0, slots := 0, locals := 0 } : Room) n0 (fun v h => v = some (.int n) ∧ h0 = h) h0 #[(.ref a)] := by
  refine Mt.go (Ls := #[.val (.ref a)]) pn0 (fun m => by rfl) ?_
  show (Go false l ({ frames := 0, cells := 0, slots := 0, locals := 0 } : Room) Z (⟨"com/example/forward_planner/forwardplanner/heuristic/IntList", "size", "()I"⟩ : MethodName) prog_22_method_2_code 1 (some .int) n0 0 0 (fun v h => v = some (.int n) ∧ h0 = h)) h0 0 0 0 #[.val (.ref a)] []
  refine Go.aloadN (pc' := 1) d5_0 rfl rfl rfl ?_
  refine Go.getF (pc' := 4) (hw _ (List.mem_of_getElem? (i := 17) rfl)) hG d5_1 rfl ?_
  exact Go.retI d5_4 rfl ⟨rfl, rfl⟩ (by decide) (by decide)
set_option maxRecDepth 65536 in
set_option maxHeartbeats 40000000 in
theorem m_g (l : Launch) (Z : State) (a0 : Array Value) (hw : ∀ d ∈ tables_1, d.before a0 Z = true) (a e : Addr) (i n x : Int32) (k : Nat) (vs : List Value) (h0 : Heap) (n0 : Nat) (z0 : n0 ≤ h0.size) (hE : Exa Z h0 a "com/example/forward_planner/forwardplanner/heuristic/IntList") (hF : Fld Z h0 a "com/example/forward_planner/forwardplanner/heuristic/IntList" "elements" "[I" (.ref e)) (hG : Fld Z h0 a "com/example/forward_planner/forwardplanner/heuristic/IntList" "size" "I" (.int n)) (hA : Ary Z h0 e .int vs) (hS : Sta Z h0 "com/example/forward_planner/forwardplanner/heuristic/IntList" "$assertionsDisabled" "Z" (.int (1 : Int32))) (hi : i.toInt = (k : Int)) (hx : vs[k]? = some (.int x)) : Mt false l Z (⟨"com/example/forward_planner/forwardplanner/heuristic/IntList", "get", "(I)I"⟩ : MethodName) prog_22_method_3_code 2 (some .int) ({ frames := 0, cells := 0, slots := 0, locals := 0 } : Room) n0 (fun v h => v = some (.int x) ∧ h0 = h) h0 #[(.ref a), (.int i)] := by
  refine Mt.go (Ls := #[.val (.ref a), .val (.int i)]) pn0 (fun m => by rfl) ?_
  show (Go false l ({ frames := 0, cells := 0, slots := 0, locals := 0 } : Room) Z (⟨"com/example/forward_planner/forwardplanner/heuristic/IntList", "get", "(I)I"⟩ : MethodName) prog_22_method_3_code 2 (some .int) n0 0 0 (fun v h => v = some (.int x) ∧ h0 = h)) h0 0 0 0 #[.val (.ref a), .val (.int i)] []
  refine Go.getS (pc' := 3) (hw _ (List.mem_of_getElem? (i := 25) rfl)) hS d4_0 rfl ?_
  refine Go.ifc (pc1 := 27) (pc2 := 6) d4_3 (by decide) (by decide) rfl (fun (c_67 : (1 : Int) ≠ 0) => ?_) (fun (c_67 : (1 : Int) = 0) => ?_)
  rotate_left
  · exact absurd c_67 (by decide)
  refine Go.aloadN (pc' := 28) d4_27 rfl rfl rfl ?_
  refine Go.getF (pc' := 31) (hw _ (List.mem_of_getElem? (i := 10) rfl)) hF d4_28 rfl ?_
  refine Go.iloadN (pc' := 32) d4_31 rfl rfl ?_
  refine Go.ldI (pc' := 33) (k := k) (v := (.int x)) hA hi hx d4_32 rfl ?_
  exact Go.retI d4_33 rfl ⟨rfl, rfl⟩ (by decide) (by decide)
set_option maxRecDepth 65536 in
set_option maxHeartbeats 40000000 in
theorem rm1 (l : Launch) (Z : State) (a0 : Array Value) (hw : ∀ d ∈ tables_1, d.before a0 Z = true) (ws : List Jvm.Cond) (x0 x1 x2 x3 k0 j0 : Int32) (h0 : Heap) (n0 : Nat) (z0 : n0 ≤ h0.size) (hO : Old Z n0 h0) (hS : Sta Z Z.heap "com/example/forward_planner/forwardplanner/heuristic/IntList" "$assertionsDisabled" "Z" (.int (1 : Int32))) : MetFree l x (head1 (Jvm.Cond.code x code maxLocals ret :: ws) room_1) (fun a U => a = #[(.int x0), (.int x1), (.int x2), (.int x3), (.int k0), (.int j0)] ∧ Z.Warmed39 U.vm ∧ U.heap = h0) (fun _ _ _ _ _ => True) (fun _ U o U' => ∃ v L, o = .returned v ∧ (((fun v h => v = some (.int 1)) v U'.heap ∧ h0.size ≤ U'.heap.size) ∧ Fr n0 L) ∧ GoEnd false U o U' L 16 128) := by
  refine met_go (y := x) (Q := fun v h => v = some (.int 1)) (Ls := #[.val (.int x0), .val (.int x1), .val (.int x2), .val (.int x3), .val (.int k0), .val (.int j0), .unset, .unset, .unset, .unset, .unset]) pn1 (fun m => by first | rfl | (simp [entryFrame, mkF, argsToLocals, Value.category, maxLocals]; done)) ?_
  show (Go false l room_1 Z x code maxLocals ret n0 16 128 (fun v h => v = some (.int 1))) h0 0 0 0 #[.val (.int x0), .val (.int x1), .val (.int x2), .val (.int x3), .val (.int k0), .val (.int j0), .unset, .unset, .unset, .unset, .unset] []
  have hS0 : Sta Z h0 "com/example/forward_planner/forwardplanner/heuristic/IntList" "$assertionsDisabled" "Z" (.int (1 : Int32)) := Sta.ext hO.2 hS
  refine Go.iload (pc' := 2) at_0 rfl rfl ?_
  refine Go.iconst (pc' := 3) (v := (3 : Int32)) at_2 rfl rfl ?_
  refine Go.iand (pc' := 4) at_3 rfl ?_
  refine Go.iconst (pc' := 5) (v := (3 : Int32)) at_4 rfl rfl ?_
  refine Go.irem (pc' := 6) at_5 (by decide) rfl ?_
  refine Go.iconst (pc' := 7) (v := (1 : Int32)) at_6 rfl rfl ?_
  refine Go.iadd (pc' := 8) at_7 rfl ?_
  generalize ec_68 : ((k0 &&& (3 : Int32)) % (3 : Int32)) + (1 : Int32) = c_68
  have k_69 : c_68.toInt = 1 ∨ c_68.toInt = 2 ∨ c_68.toInt = 3 := by
    rw [← ec_68]
    have : (3 : Int32).toInt = 3 := by decide
    have := c_mask k0 (3 : Int32) 2 (by decide) (by decide)
    have := rng32 (k0 &&& (3 : Int32))
    have := rng32 k0
    have := c_irem (k0 &&& (3 : Int32)) (3 : Int32) 3 (by decide)
    have := rng32 ((k0 &&& (3 : Int32)) % (3 : Int32))
    have : (1 : Int32).toInt = 1 := by decide
    have := c_iadd ((k0 &&& (3 : Int32)) % (3 : Int32)) (1 : Int32)
    have := rng32 (((k0 &&& (3 : Int32)) % (3 : Int32)) + (1 : Int32))
    omega
  clear ec_68
  rcases k_69 with k_69 | k_69 | k_69
  · obtain rfl : c_68 = (1 : Int32) := Int32.toInt_inj.mp k_69
    refine Go.istore (pc' := 10) (Ls' := #[.val (.int x0), .val (.int x1), .val (.int x2), .val (.int x3), .val (.int k0), .val (.int j0), .val (.int (1 : Int32)), .unset, .unset, .unset, .unset]) at_8 rfl rfl ?_
    refine Go.iload (pc' := 12) at_10 rfl rfl ?_
    refine Go.iconst (pc' := 13) (v := (4 : Int32)) at_12 rfl rfl ?_
    refine Go.iand (pc' := 14) at_13 rfl ?_
    refine Go.ifc (pc1 := 21) (pc2 := 17) at_14 (by decide) (by decide) rfl (fun (c_70 : (k0 &&& (4 : Int32)).toInt = 0) => ?_) (fun (c_70 : (k0 &&& (4 : Int32)).toInt ≠ 0) => ?_)
    · refine Go.iconst (pc' := 22) (v := (0 : Int32)) at_21 rfl rfl ?_
      refine Go.istore (pc' := 24) (Ls' := #[.val (.int x0), .val (.int x1), .val (.int x2), .val (.int x3), .val (.int k0), .val (.int j0), .val (.int (1 : Int32)), .val (.int (0 : Int32)), .unset, .unset, .unset]) at_22 rfl rfl ?_
      refine Go.newO (pc' := 27) (hw _ (List.mem_of_getElem? (i := 0) rfl)) (hw _ (List.mem_of_getElem? (i := 1) rfl)) (hw _ (List.mem_of_getElem? (i := 2) rfl)) at_24 (by decide) (by decide) rfl ?_
      intro h_71 a_72 q_73 E_74 A_75 D_76
      have g_77 : n0 ≤ a_72 := q_73 ▸ z0
      have z_79 : n0 ≤ h_71.size := Nat.le_trans z0 E_74.1
      have O_80 : Old Z n0 h_71 := hO.ext E_74
      have f_78 : Sta Z h_71 "com/example/forward_planner/forwardplanner/heuristic/IntList" "$assertionsDisabled" "Z" (.int (1 : Int32)) := Sta.ext O_80.2 hS
      have t_81 : a_72 < h_71.size := A_75.lt
      have f_82 : Fld Z h_71 a_72 "com/example/forward_planner/forwardplanner/heuristic/IntList" "elements" "[I" .null := D_76 (Or.inl (hw _ (List.mem_of_getElem? (i := 11) rfl))) (ty := (.array .int)) (by decide)
      have f_83 : Fld Z h_71 a_72 "com/example/forward_planner/forwardplanner/heuristic/IntList" "size" "I" (.int (0 : Int32)) := D_76 (Or.inl (hw _ (List.mem_of_getElem? (i := 18) rfl))) (ty := .int) (by decide)
      refine Go.dup (pc' := 28) at_27 rfl rfl ?_
      refine Go.callN (pc' := 31) (argsL := []) (rest := [(.ref a_72)]) (W := 1) rfl (hw _ (List.mem_of_getElem? (i := 3) rfl)) (hw _ (List.mem_of_getElem? (i := 4) rfl)) (hw _ (List.mem_of_getElem? (i := 2) rfl)) (hw _ (List.mem_of_getElem? (i := 5) rfl)) (by decide) (m_i l Z a0 hw a_72 h_71 n0 z_79 A_75 f_82 f_83 g_77) at_28 rfl pd0 rfl rfl (Nat.le_of_eq rfl) (by decide) (by decide) (by decide) (by decide) rfl ?_
      rintro _ h_84 ⟨rfl, e_85, K_86, E_87, F_88, G_89, A_90, q_91, t_92⟩
      have n_93 : a_72 ≠ e_85 := Nat.ne_of_lt (Nat.lt_of_lt_of_le t_81 q_91)
      have g_94 : n0 ≤ e_85 := Nat.le_trans z_79 q_91
      have f_96 : Exa Z h_84 a_72 "com/example/forward_planner/forwardplanner/heuristic/IntList" := A_75.keep K_86
      have t_99 : a_72 < h_84.size := Nat.lt_of_lt_of_le t_81 K_86.1
      have z_100 : n0 ≤ h_84.size := Nat.le_trans z_79 K_86.1
      have O_101 : Old Z n0 h_84 := O_80.keep K_86 (allS g_77 all0)
      have f_95 : Sta Z h_84 "com/example/forward_planner/forwardplanner/heuristic/IntList" "$assertionsDisabled" "Z" (.int (1 : Int32)) := Sta.ext O_101.2 hS
      show (Go false l room_1 Z x code maxLocals ret n0 16 128 (fun v h => v = some (.int 1))) h_84 (0 + 1 + 1) (0 + 2 + 8) 31 #[.val (.int x0), .val (.int x1), .val (.int x2), .val (.int x3), .val (.int k0), .val (.int j0), .val (.int (1 : Int32)), .val (.int (0 : Int32)), .unset, .unset, .unset] [(.ref a_72)]
      refine Go.astore (pc' := 33) (Ls' := #[.val (.int x0), .val (.int x1), .val (.int x2), .val (.int x3), .val (.int k0), .val (.int j0), .val (.int (1 : Int32)), .val (.int (0 : Int32)), .val (.ref a_72), .unset, .unset]) at_31 rfl rfl rfl ?_
      refine Go.aload (pc' := 35) at_33 rfl rfl rfl ?_
      refine Go.iloadN (pc' := 36) at_35 rfl rfl ?_
      refine Go.callV (pc' := 39) (argsL := [(.int x0)]) (rest := []) (W := 0) (hw _ (List.mem_of_getElem? (i := 12) rfl)) (hw _ (List.mem_of_getElem? (i := 13) rfl)) (hw _ (List.mem_of_getElem? (i := 15) rfl)) (hw _ (List.mem_of_getElem? (i := 14) rfl)) (hw _ (List.mem_of_getElem? (i := 2) rfl)) (hw _ (List.mem_of_getElem? (i := 16) rfl)) (by decide) f_96 (m_a l Z a0 hw a_72 e_85 x0 (0 : Int32) 0 [(.int (0 : Int32)), (.int (0 : Int32)), (.int (0 : Int32)), (.int (0 : Int32)), (.int (0 : Int32)), (.int (0 : Int32)), (.int (0 : Int32)), (.int (0 : Int32))] h_84 n0 z_100 f_96 F_88 G_89 A_90 rfl (by decide) rfl n_93 g_77 g_94) at_36 rfl pd1 rfl rfl (Nat.le_of_eq rfl) (by decide) (by decide) (by decide) (by decide) rfl ?_
      rintro _ h_102 ⟨rfl, K_103, E_104, F_105, G_106, A_107⟩
      have f_108 : Exa Z h_102 a_72 "com/example/forward_planner/forwardplanner/heuristic/IntList" := f_96.keep K_103
      have t_113 : a_72 < h_102.size := Nat.lt_of_lt_of_le t_99 K_103.1
      have t_114 : e_85 < h_102.size := Nat.lt_of_lt_of_le t_92 K_103.1
      have z_115 : n0 ≤ h_102.size := Nat.le_trans z_100 K_103.1
      have O_116 : Old Z n0 h_102 := O_101.keep K_103 (allS g_77 (allS g_94 all0))
      have f_109 : Sta Z h_102 "com/example/forward_planner/forwardplanner/heuristic/IntList" "$assertionsDisabled" "Z" (.int (1 : Int32)) := Sta.ext O_116.2 hS
      change Fld Z h_102 a_72 "com/example/forward_planner/forwardplanner/heuristic/IntList" "size" "I" (.int (1 : Int32)) at G_106
      change Ary Z h_102 e_85 .int [(.int x0), (.int (0 : Int32)), (.int (0 : Int32)), (.int (0 : Int32)), (.int (0 : Int32)), (.int (0 : Int32)), (.int (0 : Int32)), (.int (0 : Int32))] at A_107
      show (Go false l room_1 Z x code maxLocals ret n0 16 128 (fun v h => v = some (.int 1))) h_102 (0 + 1 + 1 + 0) (0 + 2 + 8 + 0) 39 #[.val (.int x0), .val (.int x1), .val (.int x2), .val (.int x3), .val (.int k0), .val (.int j0), .val (.int (1 : Int32)), .val (.int (0 : Int32)), .val (.ref a_72), .unset, .unset] []
      refine Go.iload (pc' := 41) at_39 rfl rfl ?_
      refine Go.iconst (pc' := 42) (v := (2 : Int32)) at_41 rfl rfl ?_
      refine Go.icmp (pc1 := 51) (pc2 := 45) at_42 (by decide) (by decide) rfl (fun (c_117 : (1 : Int) < (2 : Int)) => ?_) (fun (c_117 : (2 : Int) ≤ (1 : Int)) => ?_)
      rotate_left
      · exact absurd c_117 (by decide)
      refine Go.iload (pc' := 53) at_51 rfl rfl ?_
      refine Go.iconst (pc' := 54) (v := (3 : Int32)) at_53 rfl rfl ?_
      refine Go.icmp (pc1 := 63) (pc2 := 57) at_54 (by decide) (by decide) rfl (fun (c_118 : (1 : Int) < (3 : Int)) => ?_) (fun (c_118 : (3 : Int) ≤ (1 : Int)) => ?_)
      rotate_left
      · exact absurd c_118 (by decide)
      refine Go.iload (pc' := 65) at_63 rfl rfl ?_
      refine Go.ifc (pc1 := 80) (pc2 := 68) at_65 (by decide) (by decide) rfl (fun (c_119 : (0 : Int) = 0) => ?_) (fun (c_119 : (0 : Int) ≠ 0) => ?_)
      rotate_left
      · exact absurd c_119 (by decide)
      refine Go.iload (pc' := 82) at_80 rfl rfl ?_
      refine Go.ldcI (pc' := 84) (hw _ (List.mem_of_getElem? (i := 19) rfl)) at_82 rfl ?_
      refine Go.iand (pc' := 85) at_84 rfl ?_
      refine Go.iload (pc' := 87) at_85 rfl rfl ?_
      refine Go.irem (pc' := 88) at_87 (by decide) rfl ?_
      generalize ei_120 : (j0 &&& (2147483647 : Int32)) % (1 : Int32) = i_120
      have k_121 : i_120.toInt = 0 := by
        rw [← ei_120]
        have : (2147483647 : Int32).toInt = 2147483647 := by decide
        have := c_mask j0 (2147483647 : Int32) 31 (by decide) (by decide)
        have := rng32 (j0 &&& (2147483647 : Int32))
        have := rng32 j0
        have : (1 : Int32).toInt = 1 := by decide
        have := c_irem (j0 &&& (2147483647 : Int32)) (1 : Int32) 1 (by decide)
        have := rng32 ((j0 &&& (2147483647 : Int32)) % (1 : Int32))
        omega
      clear ei_120
      obtain rfl : i_120 = (0 : Int32) := Int32.toInt_inj.mp k_121
      refine Go.istore (pc' := 90) (Ls' := #[.val (.int x0), .val (.int x1), .val (.int x2), .val (.int x3), .val (.int k0), .val (.int j0), .val (.int (1 : Int32)), .val (.int (0 : Int32)), .val (.ref a_72), .val (.int (0 : Int32)), .unset]) at_88 rfl rfl ?_
      refine Go.iload (pc' := 92) at_90 rfl rfl ?_
      refine Go.ifc (pc1 := 101) (pc2 := 95) at_92 (by decide) (by decide) rfl (fun (c_122 : (0 : Int) ≠ 0) => ?_) (fun (c_122 : (0 : Int) = 0) => ?_)
      · exact absurd c_122 (by decide)
      refine Go.iloadN (pc' := 96) at_95 rfl rfl ?_
      refine Go.istore (pc' := 98) (Ls' := #[.val (.int x0), .val (.int x1), .val (.int x2), .val (.int x3), .val (.int k0), .val (.int j0), .val (.int (1 : Int32)), .val (.int (0 : Int32)), .val (.ref a_72), .val (.int (0 : Int32)), .val (.int x0)]) at_96 rfl rfl ?_
      refine Go.goto (pc' := 116) at_98 (by decide) (by decide) ?_
      refine Go.iload (pc' := 118) at_116 rfl rfl ?_
      refine Go.ifc (pc1 := 133) (pc2 := 121) at_118 (by decide) (by decide) rfl (fun (c_123 : (0 : Int) = 0) => ?_) (fun (c_123 : (0 : Int) ≠ 0) => ?_)
      rotate_left
      · exact absurd c_123 (by decide)
      refine Go.aload (pc' := 135) at_133 rfl rfl rfl ?_
      refine Go.iload (pc' := 137) at_135 rfl rfl ?_
      refine Go.callV (pc' := 140) (argsL := [(.int (0 : Int32))]) (rest := []) (W := 0) (hw _ (List.mem_of_getElem? (i := 20) rfl)) (hw _ (List.mem_of_getElem? (i := 21) rfl)) (hw _ (List.mem_of_getElem? (i := 23) rfl)) (hw _ (List.mem_of_getElem? (i := 22) rfl)) (hw _ (List.mem_of_getElem? (i := 2) rfl)) (hw _ (List.mem_of_getElem? (i := 24) rfl)) (by decide) f_108 (m_g l Z a0 hw a_72 e_85 (0 : Int32) (1 : Int32) x0 0 [(.int x0), (.int (0 : Int32)), (.int (0 : Int32)), (.int (0 : Int32)), (.int (0 : Int32)), (.int (0 : Int32)), (.int (0 : Int32)), (.int (0 : Int32))] h_102 n0 z_115 f_108 F_105 G_106 A_107 f_109 rfl rfl) at_137 rfl pd2 rfl rfl (Nat.le_of_eq rfl) (by decide) (by decide) (by decide) (by decide) rfl ?_
      rintro _ _ ⟨rfl, rfl⟩
      show (Go false l room_1 Z x code maxLocals ret n0 16 128 (fun v h => v = some (.int 1))) h_102 (0 + 1 + 1 + 0 + 0) (0 + 2 + 8 + 0 + 0) 140 #[.val (.int x0), .val (.int x1), .val (.int x2), .val (.int x3), .val (.int k0), .val (.int j0), .val (.int (1 : Int32)), .val (.int (0 : Int32)), .val (.ref a_72), .val (.int (0 : Int32)), .val (.int x0)] [(.int x0)]
      refine Go.iload (pc' := 142) at_140 rfl rfl ?_
      refine Go.icmp (pc1 := 159) (pc2 := 145) at_142 (by decide) (by decide) rfl (fun (c_124 : x0.toInt ≠ x0.toInt) => ?_) (fun (c_124 : x0.toInt = x0.toInt) => ?_)
      · exact absurd rfl c_124
      refine Go.aload (pc' := 147) at_145 rfl rfl rfl ?_
      refine Go.callV (pc' := 150) (argsL := []) (rest := []) (W := 0) (hw _ (List.mem_of_getElem? (i := 27) rfl)) (hw _ (List.mem_of_getElem? (i := 28) rfl)) (hw _ (List.mem_of_getElem? (i := 30) rfl)) (hw _ (List.mem_of_getElem? (i := 29) rfl)) (hw _ (List.mem_of_getElem? (i := 2) rfl)) (hw _ (List.mem_of_getElem? (i := 31) rfl)) (by decide) f_108 (m_s l Z a0 hw a_72 (1 : Int32) h_102 n0 z_115 G_106) at_147 rfl pd3 rfl rfl (Nat.le_of_eq rfl) (by decide) (by decide) (by decide) (by decide) rfl ?_
      rintro _ _ ⟨rfl, rfl⟩
      show (Go false l room_1 Z x code maxLocals ret n0 16 128 (fun v h => v = some (.int 1))) h_102 (0 + 1 + 1 + 0 + 0 + 0) (0 + 2 + 8 + 0 + 0 + 0) 150 #[.val (.int x0), .val (.int x1), .val (.int x2), .val (.int x3), .val (.int k0), .val (.int j0), .val (.int (1 : Int32)), .val (.int (0 : Int32)), .val (.ref a_72), .val (.int (0 : Int32)), .val (.int x0)] [(.int (1 : Int32))]
      refine Go.iload (pc' := 152) at_150 rfl rfl ?_
      refine Go.icmp (pc1 := 159) (pc2 := 155) at_152 (by decide) (by decide) rfl (fun (c_125 : (1 : Int) ≠ (1 : Int)) => ?_) (fun (c_125 : (1 : Int) = (1 : Int)) => ?_)
      · exact absurd c_125 (by decide)
      refine Go.iconst (pc' := 156) (v := (1 : Int32)) at_155 rfl rfl ?_
      refine Go.goto (pc' := 160) at_156 (by decide) (by decide) ?_
      exact Go.retN (t := .boolean) at_160 rfl (by simp) rfl rfl (by decide) (by decide)
    · refine Go.iconst (pc' := 18) (v := (1 : Int32)) at_17 rfl rfl ?_
      refine Go.goto (pc' := 22) at_18 (by decide) (by decide) ?_
      refine Go.istore (pc' := 24) (Ls' := #[.val (.int x0), .val (.int x1), .val (.int x2), .val (.int x3), .val (.int k0), .val (.int j0), .val (.int (1 : Int32)), .val (.int (1 : Int32)), .unset, .unset, .unset]) at_22 rfl rfl ?_
      refine Go.newO (pc' := 27) (hw _ (List.mem_of_getElem? (i := 0) rfl)) (hw _ (List.mem_of_getElem? (i := 1) rfl)) (hw _ (List.mem_of_getElem? (i := 2) rfl)) at_24 (by decide) (by decide) rfl ?_
      intro h_126 a_127 q_128 E_129 A_130 D_131
      have g_132 : n0 ≤ a_127 := q_128 ▸ z0
      have z_134 : n0 ≤ h_126.size := Nat.le_trans z0 E_129.1
      have O_135 : Old Z n0 h_126 := hO.ext E_129
      have f_133 : Sta Z h_126 "com/example/forward_planner/forwardplanner/heuristic/IntList" "$assertionsDisabled" "Z" (.int (1 : Int32)) := Sta.ext O_135.2 hS
      have t_136 : a_127 < h_126.size := A_130.lt
      have f_137 : Fld Z h_126 a_127 "com/example/forward_planner/forwardplanner/heuristic/IntList" "elements" "[I" .null := D_131 (Or.inl (hw _ (List.mem_of_getElem? (i := 11) rfl))) (ty := (.array .int)) (by decide)
      have f_138 : Fld Z h_126 a_127 "com/example/forward_planner/forwardplanner/heuristic/IntList" "size" "I" (.int (0 : Int32)) := D_131 (Or.inl (hw _ (List.mem_of_getElem? (i := 18) rfl))) (ty := .int) (by decide)
      refine Go.dup (pc' := 28) at_27 rfl rfl ?_
      refine Go.callN (pc' := 31) (argsL := []) (rest := [(.ref a_127)]) (W := 1) rfl (hw _ (List.mem_of_getElem? (i := 3) rfl)) (hw _ (List.mem_of_getElem? (i := 4) rfl)) (hw _ (List.mem_of_getElem? (i := 2) rfl)) (hw _ (List.mem_of_getElem? (i := 5) rfl)) (by decide) (m_i l Z a0 hw a_127 h_126 n0 z_134 A_130 f_137 f_138 g_132) at_28 rfl pd0 rfl rfl (Nat.le_of_eq rfl) (by decide) (by decide) (by decide) (by decide) rfl ?_
      rintro _ h_139 ⟨rfl, e_140, K_141, E_142, F_143, G_144, A_145, q_146, t_147⟩
      have n_148 : a_127 ≠ e_140 := Nat.ne_of_lt (Nat.lt_of_lt_of_le t_136 q_146)
      have g_149 : n0 ≤ e_140 := Nat.le_trans z_134 q_146
      have f_151 : Exa Z h_139 a_127 "com/example/forward_planner/forwardplanner/heuristic/IntList" := A_130.keep K_141
      have t_154 : a_127 < h_139.size := Nat.lt_of_lt_of_le t_136 K_141.1
      have z_155 : n0 ≤ h_139.size := Nat.le_trans z_134 K_141.1
      have O_156 : Old Z n0 h_139 := O_135.keep K_141 (allS g_132 all0)
      have f_150 : Sta Z h_139 "com/example/forward_planner/forwardplanner/heuristic/IntList" "$assertionsDisabled" "Z" (.int (1 : Int32)) := Sta.ext O_156.2 hS
      show (Go false l room_1 Z x code maxLocals ret n0 16 128 (fun v h => v = some (.int 1))) h_139 (0 + 1 + 1) (0 + 2 + 8) 31 #[.val (.int x0), .val (.int x1), .val (.int x2), .val (.int x3), .val (.int k0), .val (.int j0), .val (.int (1 : Int32)), .val (.int (1 : Int32)), .unset, .unset, .unset] [(.ref a_127)]
      refine Go.astore (pc' := 33) (Ls' := #[.val (.int x0), .val (.int x1), .val (.int x2), .val (.int x3), .val (.int k0), .val (.int j0), .val (.int (1 : Int32)), .val (.int (1 : Int32)), .val (.ref a_127), .unset, .unset]) at_31 rfl rfl rfl ?_
      refine Go.aload (pc' := 35) at_33 rfl rfl rfl ?_
      refine Go.iloadN (pc' := 36) at_35 rfl rfl ?_
      refine Go.callV (pc' := 39) (argsL := [(.int x0)]) (rest := []) (W := 0) (hw _ (List.mem_of_getElem? (i := 12) rfl)) (hw _ (List.mem_of_getElem? (i := 13) rfl)) (hw _ (List.mem_of_getElem? (i := 15) rfl)) (hw _ (List.mem_of_getElem? (i := 14) rfl)) (hw _ (List.mem_of_getElem? (i := 2) rfl)) (hw _ (List.mem_of_getElem? (i := 16) rfl)) (by decide) f_151 (m_a l Z a0 hw a_127 e_140 x0 (0 : Int32) 0 [(.int (0 : Int32)), (.int (0 : Int32)), (.int (0 : Int32)), (.int (0 : Int32)), (.int (0 : Int32)), (.int (0 : Int32)), (.int (0 : Int32)), (.int (0 : Int32))] h_139 n0 z_155 f_151 F_143 G_144 A_145 rfl (by decide) rfl n_148 g_132 g_149) at_36 rfl pd1 rfl rfl (Nat.le_of_eq rfl) (by decide) (by decide) (by decide) (by decide) rfl ?_
      rintro _ h_157 ⟨rfl, K_158, E_159, F_160, G_161, A_162⟩
      have f_163 : Exa Z h_157 a_127 "com/example/forward_planner/forwardplanner/heuristic/IntList" := f_151.keep K_158
      have t_168 : a_127 < h_157.size := Nat.lt_of_lt_of_le t_154 K_158.1
      have t_169 : e_140 < h_157.size := Nat.lt_of_lt_of_le t_147 K_158.1
      have z_170 : n0 ≤ h_157.size := Nat.le_trans z_155 K_158.1
      have O_171 : Old Z n0 h_157 := O_156.keep K_158 (allS g_132 (allS g_149 all0))
      have f_164 : Sta Z h_157 "com/example/forward_planner/forwardplanner/heuristic/IntList" "$assertionsDisabled" "Z" (.int (1 : Int32)) := Sta.ext O_171.2 hS
      change Fld Z h_157 a_127 "com/example/forward_planner/forwardplanner/heuristic/IntList" "size" "I" (.int (1 : Int32)) at G_161
      change Ary Z h_157 e_140 .int [(.int x0), (.int (0 : Int32)), (.int (0 : Int32)), (.int (0 : Int32)), (.int (0 : Int32)), (.int (0 : Int32)), (.int (0 : Int32)), (.int (0 : Int32))] at A_162
      show (Go false l room_1 Z x code maxLocals ret n0 16 128 (fun v h => v = some (.int 1))) h_157 (0 + 1 + 1 + 0) (0 + 2 + 8 + 0) 39 #[.val (.int x0), .val (.int x1), .val (.int x2), .val (.int x3), .val (.int k0), .val (.int j0), .val (.int (1 : Int32)), .val (.int (1 : Int32)), .val (.ref a_127), .unset, .unset] []
      refine Go.iload (pc' := 41) at_39 rfl rfl ?_
      refine Go.iconst (pc' := 42) (v := (2 : Int32)) at_41 rfl rfl ?_
      refine Go.icmp (pc1 := 51) (pc2 := 45) at_42 (by decide) (by decide) rfl (fun (c_172 : (1 : Int) < (2 : Int)) => ?_) (fun (c_172 : (2 : Int) ≤ (1 : Int)) => ?_)
      rotate_left
      · exact absurd c_172 (by decide)
      refine Go.iload (pc' := 53) at_51 rfl rfl ?_
      refine Go.iconst (pc' := 54) (v := (3 : Int32)) at_53 rfl rfl ?_
      refine Go.icmp (pc1 := 63) (pc2 := 57) at_54 (by decide) (by decide) rfl (fun (c_173 : (1 : Int) < (3 : Int)) => ?_) (fun (c_173 : (3 : Int) ≤ (1 : Int)) => ?_)
      rotate_left
      · exact absurd c_173 (by decide)
      refine Go.iload (pc' := 65) at_63 rfl rfl ?_
      refine Go.ifc (pc1 := 80) (pc2 := 68) at_65 (by decide) (by decide) rfl (fun (c_174 : (1 : Int) = 0) => ?_) (fun (c_174 : (1 : Int) ≠ 0) => ?_)
      · exact absurd c_174 (by decide)
      refine Go.aload (pc' := 70) at_68 rfl rfl rfl ?_
      refine Go.callV (pc' := 73) (argsL := []) (rest := []) (W := 0) (hw _ (List.mem_of_getElem? (i := 32) rfl)) (hw _ (List.mem_of_getElem? (i := 33) rfl)) (hw _ (List.mem_of_getElem? (i := 35) rfl)) (hw _ (List.mem_of_getElem? (i := 34) rfl)) (hw _ (List.mem_of_getElem? (i := 2) rfl)) (hw _ (List.mem_of_getElem? (i := 36) rfl)) (by decide) f_163 (m_r l Z a0 hw a_127 e_140 (1 : Int32) x0 0 [(.int x0), (.int (0 : Int32)), (.int (0 : Int32)), (.int (0 : Int32)), (.int (0 : Int32)), (.int (0 : Int32)), (.int (0 : Int32)), (.int (0 : Int32))] h_157 n0 z_170 f_163 F_160 G_161 A_162 f_164 rfl rfl n_148 g_132 g_149) at_70 rfl pd3 rfl rfl (Nat.le_of_eq rfl) (by decide) (by decide) (by decide) (by decide) rfl ?_
      rintro _ h_175 ⟨rfl, K_176, E_177, F_178, G_179, A_180⟩
      have f_181 : Exa Z h_175 a_127 "com/example/forward_planner/forwardplanner/heuristic/IntList" := f_163.keep K_176
      have f_185 : Ary Z h_175 e_140 .int [(.int x0), (.int (0 : Int32)), (.int (0 : Int32)), (.int (0 : Int32)), (.int (0 : Int32)), (.int (0 : Int32)), (.int (0 : Int32)), (.int (0 : Int32))] := A_162.sm (Sm.keep K_176 (ninS n_148.symm nin0))
      have t_186 : a_127 < h_175.size := Nat.lt_of_lt_of_le t_168 K_176.1
      have t_187 : e_140 < h_175.size := Nat.lt_of_lt_of_le t_169 K_176.1
      have z_188 : n0 ≤ h_175.size := Nat.le_trans z_170 K_176.1
      have O_189 : Old Z n0 h_175 := O_171.keep K_176 (allS g_132 all0)
      have f_182 : Sta Z h_175 "com/example/forward_planner/forwardplanner/heuristic/IntList" "$assertionsDisabled" "Z" (.int (1 : Int32)) := Sta.ext O_189.2 hS
      change Fld Z h_175 a_127 "com/example/forward_planner/forwardplanner/heuristic/IntList" "size" "I" (.int (0 : Int32)) at G_179
      show (Go false l room_1 Z x code maxLocals ret n0 16 128 (fun v h => v = some (.int 1))) h_175 (0 + 1 + 1 + 0 + 0) (0 + 2 + 8 + 0 + 0) 73 #[.val (.int x0), .val (.int x1), .val (.int x2), .val (.int x3), .val (.int k0), .val (.int j0), .val (.int (1 : Int32)), .val (.int (1 : Int32)), .val (.ref a_127), .unset, .unset] [(.int x0)]
      refine Go.pop (pc' := 74) at_73 rfl rfl ?_
      refine Go.aload (pc' := 76) at_74 rfl rfl rfl ?_
      refine Go.iloadN (pc' := 77) at_76 rfl rfl ?_
      refine Go.callV (pc' := 80) (argsL := [(.int x3)]) (rest := []) (W := 0) (hw _ (List.mem_of_getElem? (i := 12) rfl)) (hw _ (List.mem_of_getElem? (i := 13) rfl)) (hw _ (List.mem_of_getElem? (i := 15) rfl)) (hw _ (List.mem_of_getElem? (i := 14) rfl)) (hw _ (List.mem_of_getElem? (i := 2) rfl)) (hw _ (List.mem_of_getElem? (i := 16) rfl)) (by decide) f_181 (m_a l Z a0 hw a_127 e_140 x3 (0 : Int32) 0 [(.int x0), (.int (0 : Int32)), (.int (0 : Int32)), (.int (0 : Int32)), (.int (0 : Int32)), (.int (0 : Int32)), (.int (0 : Int32)), (.int (0 : Int32))] h_175 n0 z_188 f_181 F_178 G_179 f_185 rfl (by decide) rfl n_148 g_132 g_149) at_77 rfl pd1 rfl rfl (Nat.le_of_eq rfl) (by decide) (by decide) (by decide) (by decide) rfl ?_
      rintro _ h_190 ⟨rfl, K_191, E_192, F_193, G_194, A_195⟩
      have f_196 : Exa Z h_190 a_127 "com/example/forward_planner/forwardplanner/heuristic/IntList" := f_181.keep K_191
      have t_201 : a_127 < h_190.size := Nat.lt_of_lt_of_le t_186 K_191.1
      have t_202 : e_140 < h_190.size := Nat.lt_of_lt_of_le t_187 K_191.1
      have z_203 : n0 ≤ h_190.size := Nat.le_trans z_188 K_191.1
      have O_204 : Old Z n0 h_190 := O_189.keep K_191 (allS g_132 (allS g_149 all0))
      have f_198 : Sta Z h_190 "com/example/forward_planner/forwardplanner/heuristic/IntList" "$assertionsDisabled" "Z" (.int (1 : Int32)) := Sta.ext O_204.2 hS
      change Fld Z h_190 a_127 "com/example/forward_planner/forwardplanner/heuristic/IntList" "size" "I" (.int (1 : Int32)) at G_194
      change Ary Z h_190 e_140 .int [(.int x3), (.int (0 : Int32)), (.int (0 : Int32)), (.int (0 : Int32)), (.int (0 : Int32)), (.int (0 : Int32)), (.int (0 : Int32)), (.int (0 : Int32))] at A_195
      show (Go false l room_1 Z x code maxLocals ret n0 16 128 (fun v h => v = some (.int 1))) h_190 (0 + 1 + 1 + 0 + 0 + 0) (0 + 2 + 8 + 0 + 0 + 0) 80 #[.val (.int x0), .val (.int x1), .val (.int x2), .val (.int x3), .val (.int k0), .val (.int j0), .val (.int (1 : Int32)), .val (.int (1 : Int32)), .val (.ref a_127), .unset, .unset] []
      refine Go.iload (pc' := 82) at_80 rfl rfl ?_
      refine Go.ldcI (pc' := 84) (hw _ (List.mem_of_getElem? (i := 19) rfl)) at_82 rfl ?_
      refine Go.iand (pc' := 85) at_84 rfl ?_
      refine Go.iload (pc' := 87) at_85 rfl rfl ?_
      refine Go.irem (pc' := 88) at_87 (by decide) rfl ?_
      generalize ei_205 : (j0 &&& (2147483647 : Int32)) % (1 : Int32) = i_205
      have k_206 : i_205.toInt = 0 := by
        rw [← ei_205]
        have : (2147483647 : Int32).toInt = 2147483647 := by decide
        have := c_mask j0 (2147483647 : Int32) 31 (by decide) (by decide)
        have := rng32 (j0 &&& (2147483647 : Int32))
        have := rng32 j0
        have : (1 : Int32).toInt = 1 := by decide
        have := c_irem (j0 &&& (2147483647 : Int32)) (1 : Int32) 1 (by decide)
        have := rng32 ((j0 &&& (2147483647 : Int32)) % (1 : Int32))
        omega
      clear ei_205
      obtain rfl : i_205 = (0 : Int32) := Int32.toInt_inj.mp k_206
      refine Go.istore (pc' := 90) (Ls' := #[.val (.int x0), .val (.int x1), .val (.int x2), .val (.int x3), .val (.int k0), .val (.int j0), .val (.int (1 : Int32)), .val (.int (1 : Int32)), .val (.ref a_127), .val (.int (0 : Int32)), .unset]) at_88 rfl rfl ?_
      refine Go.iload (pc' := 92) at_90 rfl rfl ?_
      refine Go.ifc (pc1 := 101) (pc2 := 95) at_92 (by decide) (by decide) rfl (fun (c_207 : (0 : Int) ≠ 0) => ?_) (fun (c_207 : (0 : Int) = 0) => ?_)
      · exact absurd c_207 (by decide)
      refine Go.iloadN (pc' := 96) at_95 rfl rfl ?_
      refine Go.istore (pc' := 98) (Ls' := #[.val (.int x0), .val (.int x1), .val (.int x2), .val (.int x3), .val (.int k0), .val (.int j0), .val (.int (1 : Int32)), .val (.int (1 : Int32)), .val (.ref a_127), .val (.int (0 : Int32)), .val (.int x0)]) at_96 rfl rfl ?_
      refine Go.goto (pc' := 116) at_98 (by decide) (by decide) ?_
      refine Go.iload (pc' := 118) at_116 rfl rfl ?_
      refine Go.ifc (pc1 := 133) (pc2 := 121) at_118 (by decide) (by decide) rfl (fun (c_208 : (1 : Int) = 0) => ?_) (fun (c_208 : (1 : Int) ≠ 0) => ?_)
      · exact absurd c_208 (by decide)
      refine Go.iload (pc' := 123) at_121 rfl rfl ?_
      refine Go.iload (pc' := 125) at_123 rfl rfl ?_
      refine Go.iconst (pc' := 126) (v := (1 : Int32)) at_125 rfl rfl ?_
      refine Go.isub (pc' := 127) at_126 rfl ?_
      show (Go false l room_1 Z x code maxLocals ret n0 16 128 (fun v h => v = some (.int 1))) h_190 (0 + 1 + 1 + 0 + 0 + 0) (0 + 2 + 8 + 0 + 0 + 0) 127 #[.val (.int x0), .val (.int x1), .val (.int x2), .val (.int x3), .val (.int k0), .val (.int j0), .val (.int (1 : Int32)), .val (.int (1 : Int32)), .val (.ref a_127), .val (.int (0 : Int32)), .val (.int x0)] [(.int (0 : Int32)), (.int (0 : Int32))]
      refine Go.icmp (pc1 := 133) (pc2 := 130) at_127 (by decide) (by decide) rfl (fun (c_209 : (0 : Int) ≠ (0 : Int)) => ?_) (fun (c_209 : (0 : Int) = (0 : Int)) => ?_)
      · exact absurd c_209 (by decide)
      refine Go.iloadN (pc' := 131) at_130 rfl rfl ?_
      refine Go.istore (pc' := 133) (Ls' := #[.val (.int x0), .val (.int x1), .val (.int x2), .val (.int x3), .val (.int k0), .val (.int j0), .val (.int (1 : Int32)), .val (.int (1 : Int32)), .val (.ref a_127), .val (.int (0 : Int32)), .val (.int x3)]) at_131 rfl rfl ?_
      refine Go.aload (pc' := 135) at_133 rfl rfl rfl ?_
      refine Go.iload (pc' := 137) at_135 rfl rfl ?_
      refine Go.callV (pc' := 140) (argsL := [(.int (0 : Int32))]) (rest := []) (W := 0) (hw _ (List.mem_of_getElem? (i := 20) rfl)) (hw _ (List.mem_of_getElem? (i := 21) rfl)) (hw _ (List.mem_of_getElem? (i := 23) rfl)) (hw _ (List.mem_of_getElem? (i := 22) rfl)) (hw _ (List.mem_of_getElem? (i := 2) rfl)) (hw _ (List.mem_of_getElem? (i := 24) rfl)) (by decide) f_196 (m_g l Z a0 hw a_127 e_140 (0 : Int32) (1 : Int32) x3 0 [(.int x3), (.int (0 : Int32)), (.int (0 : Int32)), (.int (0 : Int32)), (.int (0 : Int32)), (.int (0 : Int32)), (.int (0 : Int32)), (.int (0 : Int32))] h_190 n0 z_203 f_196 F_193 G_194 A_195 f_198 rfl rfl) at_137 rfl pd2 rfl rfl (Nat.le_of_eq rfl) (by decide) (by decide) (by decide) (by decide) rfl ?_
      rintro _ _ ⟨rfl, rfl⟩
      show (Go false l room_1 Z x code maxLocals ret n0 16 128 (fun v h => v = some (.int 1))) h_190 (0 + 1 + 1 + 0 + 0 + 0 + 0) (0 + 2 + 8 + 0 + 0 + 0 + 0) 140 #[.val (.int x0), .val (.int x1), .val (.int x2), .val (.int x3), .val (.int k0), .val (.int j0), .val (.int (1 : Int32)), .val (.int (1 : Int32)), .val (.ref a_127), .val (.int (0 : Int32)), .val (.int x3)] [(.int x3)]
      refine Go.iload (pc' := 142) at_140 rfl rfl ?_
      refine Go.icmp (pc1 := 159) (pc2 := 145) at_142 (by decide) (by decide) rfl (fun (c_210 : x3.toInt ≠ x3.toInt) => ?_) (fun (c_210 : x3.toInt = x3.toInt) => ?_)
      · exact absurd rfl c_210
      refine Go.aload (pc' := 147) at_145 rfl rfl rfl ?_
      refine Go.callV (pc' := 150) (argsL := []) (rest := []) (W := 0) (hw _ (List.mem_of_getElem? (i := 27) rfl)) (hw _ (List.mem_of_getElem? (i := 28) rfl)) (hw _ (List.mem_of_getElem? (i := 30) rfl)) (hw _ (List.mem_of_getElem? (i := 29) rfl)) (hw _ (List.mem_of_getElem? (i := 2) rfl)) (hw _ (List.mem_of_getElem? (i := 31) rfl)) (by decide) f_196 (m_s l Z a0 hw a_127 (1 : Int32) h_190 n0 z_203 G_194) at_147 rfl pd3 rfl rfl (Nat.le_of_eq rfl) (by decide) (by decide) (by decide) (by decide) rfl ?_
      rintro _ _ ⟨rfl, rfl⟩
      show (Go false l room_1 Z x code maxLocals ret n0 16 128 (fun v h => v = some (.int 1))) h_190 (0 + 1 + 1 + 0 + 0 + 0 + 0 + 0) (0 + 2 + 8 + 0 + 0 + 0 + 0 + 0) 150 #[.val (.int x0), .val (.int x1), .val (.int x2), .val (.int x3), .val (.int k0), .val (.int j0), .val (.int (1 : Int32)), .val (.int (1 : Int32)), .val (.ref a_127), .val (.int (0 : Int32)), .val (.int x3)] [(.int (1 : Int32))]
      refine Go.iload (pc' := 152) at_150 rfl rfl ?_
      refine Go.icmp (pc1 := 159) (pc2 := 155) at_152 (by decide) (by decide) rfl (fun (c_211 : (1 : Int) ≠ (1 : Int)) => ?_) (fun (c_211 : (1 : Int) = (1 : Int)) => ?_)
      · exact absurd c_211 (by decide)
      refine Go.iconst (pc' := 156) (v := (1 : Int32)) at_155 rfl rfl ?_
      refine Go.goto (pc' := 160) at_156 (by decide) (by decide) ?_
      exact Go.retN (t := .boolean) at_160 rfl (by simp) rfl rfl (by decide) (by decide)
  · obtain rfl : c_68 = (2 : Int32) := Int32.toInt_inj.mp k_69
    refine Go.istore (pc' := 10) (Ls' := #[.val (.int x0), .val (.int x1), .val (.int x2), .val (.int x3), .val (.int k0), .val (.int j0), .val (.int (2 : Int32)), .unset, .unset, .unset, .unset]) at_8 rfl rfl ?_
    refine Go.iload (pc' := 12) at_10 rfl rfl ?_
    refine Go.iconst (pc' := 13) (v := (4 : Int32)) at_12 rfl rfl ?_
    refine Go.iand (pc' := 14) at_13 rfl ?_
    refine Go.ifc (pc1 := 21) (pc2 := 17) at_14 (by decide) (by decide) rfl (fun (c_212 : (k0 &&& (4 : Int32)).toInt = 0) => ?_) (fun (c_212 : (k0 &&& (4 : Int32)).toInt ≠ 0) => ?_)
    · refine Go.iconst (pc' := 22) (v := (0 : Int32)) at_21 rfl rfl ?_
      refine Go.istore (pc' := 24) (Ls' := #[.val (.int x0), .val (.int x1), .val (.int x2), .val (.int x3), .val (.int k0), .val (.int j0), .val (.int (2 : Int32)), .val (.int (0 : Int32)), .unset, .unset, .unset]) at_22 rfl rfl ?_
      refine Go.newO (pc' := 27) (hw _ (List.mem_of_getElem? (i := 0) rfl)) (hw _ (List.mem_of_getElem? (i := 1) rfl)) (hw _ (List.mem_of_getElem? (i := 2) rfl)) at_24 (by decide) (by decide) rfl ?_
      intro h_213 a_214 q_215 E_216 A_217 D_218
      have g_219 : n0 ≤ a_214 := q_215 ▸ z0
      have z_221 : n0 ≤ h_213.size := Nat.le_trans z0 E_216.1
      have O_222 : Old Z n0 h_213 := hO.ext E_216
      have f_220 : Sta Z h_213 "com/example/forward_planner/forwardplanner/heuristic/IntList" "$assertionsDisabled" "Z" (.int (1 : Int32)) := Sta.ext O_222.2 hS
      have t_223 : a_214 < h_213.size := A_217.lt
      have f_224 : Fld Z h_213 a_214 "com/example/forward_planner/forwardplanner/heuristic/IntList" "elements" "[I" .null := D_218 (Or.inl (hw _ (List.mem_of_getElem? (i := 11) rfl))) (ty := (.array .int)) (by decide)
      have f_225 : Fld Z h_213 a_214 "com/example/forward_planner/forwardplanner/heuristic/IntList" "size" "I" (.int (0 : Int32)) := D_218 (Or.inl (hw _ (List.mem_of_getElem? (i := 18) rfl))) (ty := .int) (by decide)
      refine Go.dup (pc' := 28) at_27 rfl rfl ?_
      refine Go.callN (pc' := 31) (argsL := []) (rest := [(.ref a_214)]) (W := 1) rfl (hw _ (List.mem_of_getElem? (i := 3) rfl)) (hw _ (List.mem_of_getElem? (i := 4) rfl)) (hw _ (List.mem_of_getElem? (i := 2) rfl)) (hw _ (List.mem_of_getElem? (i := 5) rfl)) (by decide) (m_i l Z a0 hw a_214 h_213 n0 z_221 A_217 f_224 f_225 g_219) at_28 rfl pd0 rfl rfl (Nat.le_of_eq rfl) (by decide) (by decide) (by decide) (by decide) rfl ?_
      rintro _ h_226 ⟨rfl, e_227, K_228, E_229, F_230, G_231, A_232, q_233, t_234⟩
      have n_235 : a_214 ≠ e_227 := Nat.ne_of_lt (Nat.lt_of_lt_of_le t_223 q_233)
      have g_236 : n0 ≤ e_227 := Nat.le_trans z_221 q_233
      have f_238 : Exa Z h_226 a_214 "com/example/forward_planner/forwardplanner/heuristic/IntList" := A_217.keep K_228
      have t_241 : a_214 < h_226.size := Nat.lt_of_lt_of_le t_223 K_228.1
      have z_242 : n0 ≤ h_226.size := Nat.le_trans z_221 K_228.1
      have O_243 : Old Z n0 h_226 := O_222.keep K_228 (allS g_219 all0)
      have f_237 : Sta Z h_226 "com/example/forward_planner/forwardplanner/heuristic/IntList" "$assertionsDisabled" "Z" (.int (1 : Int32)) := Sta.ext O_243.2 hS
      show (Go false l room_1 Z x code maxLocals ret n0 16 128 (fun v h => v = some (.int 1))) h_226 (0 + 1 + 1) (0 + 2 + 8) 31 #[.val (.int x0), .val (.int x1), .val (.int x2), .val (.int x3), .val (.int k0), .val (.int j0), .val (.int (2 : Int32)), .val (.int (0 : Int32)), .unset, .unset, .unset] [(.ref a_214)]
      refine Go.astore (pc' := 33) (Ls' := #[.val (.int x0), .val (.int x1), .val (.int x2), .val (.int x3), .val (.int k0), .val (.int j0), .val (.int (2 : Int32)), .val (.int (0 : Int32)), .val (.ref a_214), .unset, .unset]) at_31 rfl rfl rfl ?_
      refine Go.aload (pc' := 35) at_33 rfl rfl rfl ?_
      refine Go.iloadN (pc' := 36) at_35 rfl rfl ?_
      refine Go.callV (pc' := 39) (argsL := [(.int x0)]) (rest := []) (W := 0) (hw _ (List.mem_of_getElem? (i := 12) rfl)) (hw _ (List.mem_of_getElem? (i := 13) rfl)) (hw _ (List.mem_of_getElem? (i := 15) rfl)) (hw _ (List.mem_of_getElem? (i := 14) rfl)) (hw _ (List.mem_of_getElem? (i := 2) rfl)) (hw _ (List.mem_of_getElem? (i := 16) rfl)) (by decide) f_238 (m_a l Z a0 hw a_214 e_227 x0 (0 : Int32) 0 [(.int (0 : Int32)), (.int (0 : Int32)), (.int (0 : Int32)), (.int (0 : Int32)), (.int (0 : Int32)), (.int (0 : Int32)), (.int (0 : Int32)), (.int (0 : Int32))] h_226 n0 z_242 f_238 F_230 G_231 A_232 rfl (by decide) rfl n_235 g_219 g_236) at_36 rfl pd1 rfl rfl (Nat.le_of_eq rfl) (by decide) (by decide) (by decide) (by decide) rfl ?_
      rintro _ h_244 ⟨rfl, K_245, E_246, F_247, G_248, A_249⟩
      have f_250 : Exa Z h_244 a_214 "com/example/forward_planner/forwardplanner/heuristic/IntList" := f_238.keep K_245
      have t_255 : a_214 < h_244.size := Nat.lt_of_lt_of_le t_241 K_245.1
      have t_256 : e_227 < h_244.size := Nat.lt_of_lt_of_le t_234 K_245.1
      have z_257 : n0 ≤ h_244.size := Nat.le_trans z_242 K_245.1
      have O_258 : Old Z n0 h_244 := O_243.keep K_245 (allS g_219 (allS g_236 all0))
      have f_251 : Sta Z h_244 "com/example/forward_planner/forwardplanner/heuristic/IntList" "$assertionsDisabled" "Z" (.int (1 : Int32)) := Sta.ext O_258.2 hS
      change Fld Z h_244 a_214 "com/example/forward_planner/forwardplanner/heuristic/IntList" "size" "I" (.int (1 : Int32)) at G_248
      change Ary Z h_244 e_227 .int [(.int x0), (.int (0 : Int32)), (.int (0 : Int32)), (.int (0 : Int32)), (.int (0 : Int32)), (.int (0 : Int32)), (.int (0 : Int32)), (.int (0 : Int32))] at A_249
      show (Go false l room_1 Z x code maxLocals ret n0 16 128 (fun v h => v = some (.int 1))) h_244 (0 + 1 + 1 + 0) (0 + 2 + 8 + 0) 39 #[.val (.int x0), .val (.int x1), .val (.int x2), .val (.int x3), .val (.int k0), .val (.int j0), .val (.int (2 : Int32)), .val (.int (0 : Int32)), .val (.ref a_214), .unset, .unset] []
      refine Go.iload (pc' := 41) at_39 rfl rfl ?_
      refine Go.iconst (pc' := 42) (v := (2 : Int32)) at_41 rfl rfl ?_
      refine Go.icmp (pc1 := 51) (pc2 := 45) at_42 (by decide) (by decide) rfl (fun (c_259 : (2 : Int) < (2 : Int)) => ?_) (fun (c_259 : (2 : Int) ≤ (2 : Int)) => ?_)
      · exact absurd c_259 (by decide)
      refine Go.aload (pc' := 47) at_45 rfl rfl rfl ?_
      refine Go.iloadN (pc' := 48) at_47 rfl rfl ?_
      refine Go.callV (pc' := 51) (argsL := [(.int x1)]) (rest := []) (W := 0) (hw _ (List.mem_of_getElem? (i := 12) rfl)) (hw _ (List.mem_of_getElem? (i := 13) rfl)) (hw _ (List.mem_of_getElem? (i := 15) rfl)) (hw _ (List.mem_of_getElem? (i := 14) rfl)) (hw _ (List.mem_of_getElem? (i := 2) rfl)) (hw _ (List.mem_of_getElem? (i := 16) rfl)) (by decide) f_250 (m_a l Z a0 hw a_214 e_227 x1 (1 : Int32) 1 [(.int x0), (.int (0 : Int32)), (.int (0 : Int32)), (.int (0 : Int32)), (.int (0 : Int32)), (.int (0 : Int32)), (.int (0 : Int32)), (.int (0 : Int32))] h_244 n0 z_257 f_250 F_247 G_248 A_249 rfl (by decide) rfl n_235 g_219 g_236) at_48 rfl pd1 rfl rfl (Nat.le_of_eq rfl) (by decide) (by decide) (by decide) (by decide) rfl ?_
      rintro _ h_260 ⟨rfl, K_261, E_262, F_263, G_264, A_265⟩
      have f_266 : Exa Z h_260 a_214 "com/example/forward_planner/forwardplanner/heuristic/IntList" := f_250.keep K_261
      have t_271 : a_214 < h_260.size := Nat.lt_of_lt_of_le t_255 K_261.1
      have t_272 : e_227 < h_260.size := Nat.lt_of_lt_of_le t_256 K_261.1
      have z_273 : n0 ≤ h_260.size := Nat.le_trans z_257 K_261.1
      have O_274 : Old Z n0 h_260 := O_258.keep K_261 (allS g_219 (allS g_236 all0))
      have f_267 : Sta Z h_260 "com/example/forward_planner/forwardplanner/heuristic/IntList" "$assertionsDisabled" "Z" (.int (1 : Int32)) := Sta.ext O_274.2 hS
      change Fld Z h_260 a_214 "com/example/forward_planner/forwardplanner/heuristic/IntList" "size" "I" (.int (2 : Int32)) at G_264
      change Ary Z h_260 e_227 .int [(.int x0), (.int x1), (.int (0 : Int32)), (.int (0 : Int32)), (.int (0 : Int32)), (.int (0 : Int32)), (.int (0 : Int32)), (.int (0 : Int32))] at A_265
      show (Go false l room_1 Z x code maxLocals ret n0 16 128 (fun v h => v = some (.int 1))) h_260 (0 + 1 + 1 + 0 + 0) (0 + 2 + 8 + 0 + 0) 51 #[.val (.int x0), .val (.int x1), .val (.int x2), .val (.int x3), .val (.int k0), .val (.int j0), .val (.int (2 : Int32)), .val (.int (0 : Int32)), .val (.ref a_214), .unset, .unset] []
      refine Go.iload (pc' := 53) at_51 rfl rfl ?_
      refine Go.iconst (pc' := 54) (v := (3 : Int32)) at_53 rfl rfl ?_
      refine Go.icmp (pc1 := 63) (pc2 := 57) at_54 (by decide) (by decide) rfl (fun (c_275 : (2 : Int) < (3 : Int)) => ?_) (fun (c_275 : (3 : Int) ≤ (2 : Int)) => ?_)
      rotate_left
      · exact absurd c_275 (by decide)
      refine Go.iload (pc' := 65) at_63 rfl rfl ?_
      refine Go.ifc (pc1 := 80) (pc2 := 68) at_65 (by decide) (by decide) rfl (fun (c_276 : (0 : Int) = 0) => ?_) (fun (c_276 : (0 : Int) ≠ 0) => ?_)
      rotate_left
      · exact absurd c_276 (by decide)
      refine Go.iload (pc' := 82) at_80 rfl rfl ?_
      refine Go.ldcI (pc' := 84) (hw _ (List.mem_of_getElem? (i := 19) rfl)) at_82 rfl ?_
      refine Go.iand (pc' := 85) at_84 rfl ?_
      refine Go.iload (pc' := 87) at_85 rfl rfl ?_
      refine Go.irem (pc' := 88) at_87 (by decide) rfl ?_
      generalize ei_277 : (j0 &&& (2147483647 : Int32)) % (2 : Int32) = i_277
      have k_278 : i_277.toInt = 0 ∨ i_277.toInt = 1 := by
        rw [← ei_277]
        have : (2147483647 : Int32).toInt = 2147483647 := by decide
        have := c_mask j0 (2147483647 : Int32) 31 (by decide) (by decide)
        have := rng32 (j0 &&& (2147483647 : Int32))
        have := rng32 j0
        have : (2 : Int32).toInt = 2 := by decide
        have := c_irem (j0 &&& (2147483647 : Int32)) (2 : Int32) 2 (by decide)
        have := rng32 ((j0 &&& (2147483647 : Int32)) % (2 : Int32))
        omega
      clear ei_277
      rcases k_278 with k_278 | k_278
      · obtain rfl : i_277 = (0 : Int32) := Int32.toInt_inj.mp k_278
        refine Go.istore (pc' := 90) (Ls' := #[.val (.int x0), .val (.int x1), .val (.int x2), .val (.int x3), .val (.int k0), .val (.int j0), .val (.int (2 : Int32)), .val (.int (0 : Int32)), .val (.ref a_214), .val (.int (0 : Int32)), .unset]) at_88 rfl rfl ?_
        refine Go.iload (pc' := 92) at_90 rfl rfl ?_
        refine Go.ifc (pc1 := 101) (pc2 := 95) at_92 (by decide) (by decide) rfl (fun (c_279 : (0 : Int) ≠ 0) => ?_) (fun (c_279 : (0 : Int) = 0) => ?_)
        · exact absurd c_279 (by decide)
        refine Go.iloadN (pc' := 96) at_95 rfl rfl ?_
        refine Go.istore (pc' := 98) (Ls' := #[.val (.int x0), .val (.int x1), .val (.int x2), .val (.int x3), .val (.int k0), .val (.int j0), .val (.int (2 : Int32)), .val (.int (0 : Int32)), .val (.ref a_214), .val (.int (0 : Int32)), .val (.int x0)]) at_96 rfl rfl ?_
        refine Go.goto (pc' := 116) at_98 (by decide) (by decide) ?_
        refine Go.iload (pc' := 118) at_116 rfl rfl ?_
        refine Go.ifc (pc1 := 133) (pc2 := 121) at_118 (by decide) (by decide) rfl (fun (c_280 : (0 : Int) = 0) => ?_) (fun (c_280 : (0 : Int) ≠ 0) => ?_)
        rotate_left
        · exact absurd c_280 (by decide)
        refine Go.aload (pc' := 135) at_133 rfl rfl rfl ?_
        refine Go.iload (pc' := 137) at_135 rfl rfl ?_
        refine Go.callV (pc' := 140) (argsL := [(.int (0 : Int32))]) (rest := []) (W := 0) (hw _ (List.mem_of_getElem? (i := 20) rfl)) (hw _ (List.mem_of_getElem? (i := 21) rfl)) (hw _ (List.mem_of_getElem? (i := 23) rfl)) (hw _ (List.mem_of_getElem? (i := 22) rfl)) (hw _ (List.mem_of_getElem? (i := 2) rfl)) (hw _ (List.mem_of_getElem? (i := 24) rfl)) (by decide) f_266 (m_g l Z a0 hw a_214 e_227 (0 : Int32) (2 : Int32) x0 0 [(.int x0), (.int x1), (.int (0 : Int32)), (.int (0 : Int32)), (.int (0 : Int32)), (.int (0 : Int32)), (.int (0 : Int32)), (.int (0 : Int32))] h_260 n0 z_273 f_266 F_263 G_264 A_265 f_267 rfl rfl) at_137 rfl pd2 rfl rfl (Nat.le_of_eq rfl) (by decide) (by decide) (by decide) (by decide) rfl ?_
        rintro _ _ ⟨rfl, rfl⟩
        show (Go false l room_1 Z x code maxLocals ret n0 16 128 (fun v h => v = some (.int 1))) h_260 (0 + 1 + 1 + 0 + 0 + 0) (0 + 2 + 8 + 0 + 0 + 0) 140 #[.val (.int x0), .val (.int x1), .val (.int x2), .val (.int x3), .val (.int k0), .val (.int j0), .val (.int (2 : Int32)), .val (.int (0 : Int32)), .val (.ref a_214), .val (.int (0 : Int32)), .val (.int x0)] [(.int x0)]
        refine Go.iload (pc' := 142) at_140 rfl rfl ?_
        refine Go.icmp (pc1 := 159) (pc2 := 145) at_142 (by decide) (by decide) rfl (fun (c_281 : x0.toInt ≠ x0.toInt) => ?_) (fun (c_281 : x0.toInt = x0.toInt) => ?_)
        · exact absurd rfl c_281
        refine Go.aload (pc' := 147) at_145 rfl rfl rfl ?_
        refine Go.callV (pc' := 150) (argsL := []) (rest := []) (W := 0) (hw _ (List.mem_of_getElem? (i := 27) rfl)) (hw _ (List.mem_of_getElem? (i := 28) rfl)) (hw _ (List.mem_of_getElem? (i := 30) rfl)) (hw _ (List.mem_of_getElem? (i := 29) rfl)) (hw _ (List.mem_of_getElem? (i := 2) rfl)) (hw _ (List.mem_of_getElem? (i := 31) rfl)) (by decide) f_266 (m_s l Z a0 hw a_214 (2 : Int32) h_260 n0 z_273 G_264) at_147 rfl pd3 rfl rfl (Nat.le_of_eq rfl) (by decide) (by decide) (by decide) (by decide) rfl ?_
        rintro _ _ ⟨rfl, rfl⟩
        show (Go false l room_1 Z x code maxLocals ret n0 16 128 (fun v h => v = some (.int 1))) h_260 (0 + 1 + 1 + 0 + 0 + 0 + 0) (0 + 2 + 8 + 0 + 0 + 0 + 0) 150 #[.val (.int x0), .val (.int x1), .val (.int x2), .val (.int x3), .val (.int k0), .val (.int j0), .val (.int (2 : Int32)), .val (.int (0 : Int32)), .val (.ref a_214), .val (.int (0 : Int32)), .val (.int x0)] [(.int (2 : Int32))]
        refine Go.iload (pc' := 152) at_150 rfl rfl ?_
        refine Go.icmp (pc1 := 159) (pc2 := 155) at_152 (by decide) (by decide) rfl (fun (c_282 : (2 : Int) ≠ (2 : Int)) => ?_) (fun (c_282 : (2 : Int) = (2 : Int)) => ?_)
        · exact absurd c_282 (by decide)
        refine Go.iconst (pc' := 156) (v := (1 : Int32)) at_155 rfl rfl ?_
        refine Go.goto (pc' := 160) at_156 (by decide) (by decide) ?_
        exact Go.retN (t := .boolean) at_160 rfl (by simp) rfl rfl (by decide) (by decide)
      · obtain rfl : i_277 = (1 : Int32) := Int32.toInt_inj.mp k_278
        refine Go.istore (pc' := 90) (Ls' := #[.val (.int x0), .val (.int x1), .val (.int x2), .val (.int x3), .val (.int k0), .val (.int j0), .val (.int (2 : Int32)), .val (.int (0 : Int32)), .val (.ref a_214), .val (.int (1 : Int32)), .unset]) at_88 rfl rfl ?_
        refine Go.iload (pc' := 92) at_90 rfl rfl ?_
        refine Go.ifc (pc1 := 101) (pc2 := 95) at_92 (by decide) (by decide) rfl (fun (c_283 : (1 : Int) ≠ 0) => ?_) (fun (c_283 : (1 : Int) = 0) => ?_)
        rotate_left
        · exact absurd c_283 (by decide)
        refine Go.iload (pc' := 103) at_101 rfl rfl ?_
        refine Go.iconst (pc' := 104) (v := (1 : Int32)) at_103 rfl rfl ?_
        refine Go.icmp (pc1 := 113) (pc2 := 107) at_104 (by decide) (by decide) rfl (fun (c_284 : (1 : Int) ≠ (1 : Int)) => ?_) (fun (c_284 : (1 : Int) = (1 : Int)) => ?_)
        · exact absurd c_284 (by decide)
        refine Go.iloadN (pc' := 108) at_107 rfl rfl ?_
        refine Go.istore (pc' := 110) (Ls' := #[.val (.int x0), .val (.int x1), .val (.int x2), .val (.int x3), .val (.int k0), .val (.int j0), .val (.int (2 : Int32)), .val (.int (0 : Int32)), .val (.ref a_214), .val (.int (1 : Int32)), .val (.int x1)]) at_108 rfl rfl ?_
        refine Go.goto (pc' := 116) at_110 (by decide) (by decide) ?_
        refine Go.iload (pc' := 118) at_116 rfl rfl ?_
        refine Go.ifc (pc1 := 133) (pc2 := 121) at_118 (by decide) (by decide) rfl (fun (c_285 : (0 : Int) = 0) => ?_) (fun (c_285 : (0 : Int) ≠ 0) => ?_)
        rotate_left
        · exact absurd c_285 (by decide)
        refine Go.aload (pc' := 135) at_133 rfl rfl rfl ?_
        refine Go.iload (pc' := 137) at_135 rfl rfl ?_
        refine Go.callV (pc' := 140) (argsL := [(.int (1 : Int32))]) (rest := []) (W := 0) (hw _ (List.mem_of_getElem? (i := 20) rfl)) (hw _ (List.mem_of_getElem? (i := 21) rfl)) (hw _ (List.mem_of_getElem? (i := 23) rfl)) (hw _ (List.mem_of_getElem? (i := 22) rfl)) (hw _ (List.mem_of_getElem? (i := 2) rfl)) (hw _ (List.mem_of_getElem? (i := 24) rfl)) (by decide) f_266 (m_g l Z a0 hw a_214 e_227 (1 : Int32) (2 : Int32) x1 1 [(.int x0), (.int x1), (.int (0 : Int32)), (.int (0 : Int32)), (.int (0 : Int32)), (.int (0 : Int32)), (.int (0 : Int32)), (.int (0 : Int32))] h_260 n0 z_273 f_266 F_263 G_264 A_265 f_267 rfl rfl) at_137 rfl pd2 rfl rfl (Nat.le_of_eq rfl) (by decide) (by decide) (by decide) (by decide) rfl ?_
        rintro _ _ ⟨rfl, rfl⟩
        show (Go false l room_1 Z x code maxLocals ret n0 16 128 (fun v h => v = some (.int 1))) h_260 (0 + 1 + 1 + 0 + 0 + 0) (0 + 2 + 8 + 0 + 0 + 0) 140 #[.val (.int x0), .val (.int x1), .val (.int x2), .val (.int x3), .val (.int k0), .val (.int j0), .val (.int (2 : Int32)), .val (.int (0 : Int32)), .val (.ref a_214), .val (.int (1 : Int32)), .val (.int x1)] [(.int x1)]
        refine Go.iload (pc' := 142) at_140 rfl rfl ?_
        refine Go.icmp (pc1 := 159) (pc2 := 145) at_142 (by decide) (by decide) rfl (fun (c_286 : x1.toInt ≠ x1.toInt) => ?_) (fun (c_286 : x1.toInt = x1.toInt) => ?_)
        · exact absurd rfl c_286
        refine Go.aload (pc' := 147) at_145 rfl rfl rfl ?_
        refine Go.callV (pc' := 150) (argsL := []) (rest := []) (W := 0) (hw _ (List.mem_of_getElem? (i := 27) rfl)) (hw _ (List.mem_of_getElem? (i := 28) rfl)) (hw _ (List.mem_of_getElem? (i := 30) rfl)) (hw _ (List.mem_of_getElem? (i := 29) rfl)) (hw _ (List.mem_of_getElem? (i := 2) rfl)) (hw _ (List.mem_of_getElem? (i := 31) rfl)) (by decide) f_266 (m_s l Z a0 hw a_214 (2 : Int32) h_260 n0 z_273 G_264) at_147 rfl pd3 rfl rfl (Nat.le_of_eq rfl) (by decide) (by decide) (by decide) (by decide) rfl ?_
        rintro _ _ ⟨rfl, rfl⟩
        show (Go false l room_1 Z x code maxLocals ret n0 16 128 (fun v h => v = some (.int 1))) h_260 (0 + 1 + 1 + 0 + 0 + 0 + 0) (0 + 2 + 8 + 0 + 0 + 0 + 0) 150 #[.val (.int x0), .val (.int x1), .val (.int x2), .val (.int x3), .val (.int k0), .val (.int j0), .val (.int (2 : Int32)), .val (.int (0 : Int32)), .val (.ref a_214), .val (.int (1 : Int32)), .val (.int x1)] [(.int (2 : Int32))]
        refine Go.iload (pc' := 152) at_150 rfl rfl ?_
        refine Go.icmp (pc1 := 159) (pc2 := 155) at_152 (by decide) (by decide) rfl (fun (c_287 : (2 : Int) ≠ (2 : Int)) => ?_) (fun (c_287 : (2 : Int) = (2 : Int)) => ?_)
        · exact absurd c_287 (by decide)
        refine Go.iconst (pc' := 156) (v := (1 : Int32)) at_155 rfl rfl ?_
        refine Go.goto (pc' := 160) at_156 (by decide) (by decide) ?_
        exact Go.retN (t := .boolean) at_160 rfl (by simp) rfl rfl (by decide) (by decide)
    · refine Go.iconst (pc' := 18) (v := (1 : Int32)) at_17 rfl rfl ?_
      refine Go.goto (pc' := 22) at_18 (by decide) (by decide) ?_
      refine Go.istore (pc' := 24) (Ls' := #[.val (.int x0), .val (.int x1), .val (.int x2), .val (.int x3), .val (.int k0), .val (.int j0), .val (.int (2 : Int32)), .val (.int (1 : Int32)), .unset, .unset, .unset]) at_22 rfl rfl ?_
      refine Go.newO (pc' := 27) (hw _ (List.mem_of_getElem? (i := 0) rfl)) (hw _ (List.mem_of_getElem? (i := 1) rfl)) (hw _ (List.mem_of_getElem? (i := 2) rfl)) at_24 (by decide) (by decide) rfl ?_
      intro h_288 a_289 q_290 E_291 A_292 D_293
      have g_294 : n0 ≤ a_289 := q_290 ▸ z0
      have z_296 : n0 ≤ h_288.size := Nat.le_trans z0 E_291.1
      have O_297 : Old Z n0 h_288 := hO.ext E_291
      have f_295 : Sta Z h_288 "com/example/forward_planner/forwardplanner/heuristic/IntList" "$assertionsDisabled" "Z" (.int (1 : Int32)) := Sta.ext O_297.2 hS
      have t_298 : a_289 < h_288.size := A_292.lt
      have f_299 : Fld Z h_288 a_289 "com/example/forward_planner/forwardplanner/heuristic/IntList" "elements" "[I" .null := D_293 (Or.inl (hw _ (List.mem_of_getElem? (i := 11) rfl))) (ty := (.array .int)) (by decide)
      have f_300 : Fld Z h_288 a_289 "com/example/forward_planner/forwardplanner/heuristic/IntList" "size" "I" (.int (0 : Int32)) := D_293 (Or.inl (hw _ (List.mem_of_getElem? (i := 18) rfl))) (ty := .int) (by decide)
      refine Go.dup (pc' := 28) at_27 rfl rfl ?_
      refine Go.callN (pc' := 31) (argsL := []) (rest := [(.ref a_289)]) (W := 1) rfl (hw _ (List.mem_of_getElem? (i := 3) rfl)) (hw _ (List.mem_of_getElem? (i := 4) rfl)) (hw _ (List.mem_of_getElem? (i := 2) rfl)) (hw _ (List.mem_of_getElem? (i := 5) rfl)) (by decide) (m_i l Z a0 hw a_289 h_288 n0 z_296 A_292 f_299 f_300 g_294) at_28 rfl pd0 rfl rfl (Nat.le_of_eq rfl) (by decide) (by decide) (by decide) (by decide) rfl ?_
      rintro _ h_301 ⟨rfl, e_302, K_303, E_304, F_305, G_306, A_307, q_308, t_309⟩
      have n_310 : a_289 ≠ e_302 := Nat.ne_of_lt (Nat.lt_of_lt_of_le t_298 q_308)
      have g_311 : n0 ≤ e_302 := Nat.le_trans z_296 q_308
      have f_313 : Exa Z h_301 a_289 "com/example/forward_planner/forwardplanner/heuristic/IntList" := A_292.keep K_303
      have t_316 : a_289 < h_301.size := Nat.lt_of_lt_of_le t_298 K_303.1
      have z_317 : n0 ≤ h_301.size := Nat.le_trans z_296 K_303.1
      have O_318 : Old Z n0 h_301 := O_297.keep K_303 (allS g_294 all0)
      have f_312 : Sta Z h_301 "com/example/forward_planner/forwardplanner/heuristic/IntList" "$assertionsDisabled" "Z" (.int (1 : Int32)) := Sta.ext O_318.2 hS
      show (Go false l room_1 Z x code maxLocals ret n0 16 128 (fun v h => v = some (.int 1))) h_301 (0 + 1 + 1) (0 + 2 + 8) 31 #[.val (.int x0), .val (.int x1), .val (.int x2), .val (.int x3), .val (.int k0), .val (.int j0), .val (.int (2 : Int32)), .val (.int (1 : Int32)), .unset, .unset, .unset] [(.ref a_289)]
      refine Go.astore (pc' := 33) (Ls' := #[.val (.int x0), .val (.int x1), .val (.int x2), .val (.int x3), .val (.int k0), .val (.int j0), .val (.int (2 : Int32)), .val (.int (1 : Int32)), .val (.ref a_289), .unset, .unset]) at_31 rfl rfl rfl ?_
      refine Go.aload (pc' := 35) at_33 rfl rfl rfl ?_
      refine Go.iloadN (pc' := 36) at_35 rfl rfl ?_
      refine Go.callV (pc' := 39) (argsL := [(.int x0)]) (rest := []) (W := 0) (hw _ (List.mem_of_getElem? (i := 12) rfl)) (hw _ (List.mem_of_getElem? (i := 13) rfl)) (hw _ (List.mem_of_getElem? (i := 15) rfl)) (hw _ (List.mem_of_getElem? (i := 14) rfl)) (hw _ (List.mem_of_getElem? (i := 2) rfl)) (hw _ (List.mem_of_getElem? (i := 16) rfl)) (by decide) f_313 (m_a l Z a0 hw a_289 e_302 x0 (0 : Int32) 0 [(.int (0 : Int32)), (.int (0 : Int32)), (.int (0 : Int32)), (.int (0 : Int32)), (.int (0 : Int32)), (.int (0 : Int32)), (.int (0 : Int32)), (.int (0 : Int32))] h_301 n0 z_317 f_313 F_305 G_306 A_307 rfl (by decide) rfl n_310 g_294 g_311) at_36 rfl pd1 rfl rfl (Nat.le_of_eq rfl) (by decide) (by decide) (by decide) (by decide) rfl ?_
      rintro _ h_319 ⟨rfl, K_320, E_321, F_322, G_323, A_324⟩
      have f_325 : Exa Z h_319 a_289 "com/example/forward_planner/forwardplanner/heuristic/IntList" := f_313.keep K_320
      have t_330 : a_289 < h_319.size := Nat.lt_of_lt_of_le t_316 K_320.1
      have t_331 : e_302 < h_319.size := Nat.lt_of_lt_of_le t_309 K_320.1
      have z_332 : n0 ≤ h_319.size := Nat.le_trans z_317 K_320.1
      have O_333 : Old Z n0 h_319 := O_318.keep K_320 (allS g_294 (allS g_311 all0))
      have f_326 : Sta Z h_319 "com/example/forward_planner/forwardplanner/heuristic/IntList" "$assertionsDisabled" "Z" (.int (1 : Int32)) := Sta.ext O_333.2 hS
      change Fld Z h_319 a_289 "com/example/forward_planner/forwardplanner/heuristic/IntList" "size" "I" (.int (1 : Int32)) at G_323
      change Ary Z h_319 e_302 .int [(.int x0), (.int (0 : Int32)), (.int (0 : Int32)), (.int (0 : Int32)), (.int (0 : Int32)), (.int (0 : Int32)), (.int (0 : Int32)), (.int (0 : Int32))] at A_324
      show (Go false l room_1 Z x code maxLocals ret n0 16 128 (fun v h => v = some (.int 1))) h_319 (0 + 1 + 1 + 0) (0 + 2 + 8 + 0) 39 #[.val (.int x0), .val (.int x1), .val (.int x2), .val (.int x3), .val (.int k0), .val (.int j0), .val (.int (2 : Int32)), .val (.int (1 : Int32)), .val (.ref a_289), .unset, .unset] []
      refine Go.iload (pc' := 41) at_39 rfl rfl ?_
      refine Go.iconst (pc' := 42) (v := (2 : Int32)) at_41 rfl rfl ?_
      refine Go.icmp (pc1 := 51) (pc2 := 45) at_42 (by decide) (by decide) rfl (fun (c_334 : (2 : Int) < (2 : Int)) => ?_) (fun (c_334 : (2 : Int) ≤ (2 : Int)) => ?_)
      · exact absurd c_334 (by decide)
      refine Go.aload (pc' := 47) at_45 rfl rfl rfl ?_
      refine Go.iloadN (pc' := 48) at_47 rfl rfl ?_
      refine Go.callV (pc' := 51) (argsL := [(.int x1)]) (rest := []) (W := 0) (hw _ (List.mem_of_getElem? (i := 12) rfl)) (hw _ (List.mem_of_getElem? (i := 13) rfl)) (hw _ (List.mem_of_getElem? (i := 15) rfl)) (hw _ (List.mem_of_getElem? (i := 14) rfl)) (hw _ (List.mem_of_getElem? (i := 2) rfl)) (hw _ (List.mem_of_getElem? (i := 16) rfl)) (by decide) f_325 (m_a l Z a0 hw a_289 e_302 x1 (1 : Int32) 1 [(.int x0), (.int (0 : Int32)), (.int (0 : Int32)), (.int (0 : Int32)), (.int (0 : Int32)), (.int (0 : Int32)), (.int (0 : Int32)), (.int (0 : Int32))] h_319 n0 z_332 f_325 F_322 G_323 A_324 rfl (by decide) rfl n_310 g_294 g_311) at_48 rfl pd1 rfl rfl (Nat.le_of_eq rfl) (by decide) (by decide) (by decide) (by decide) rfl ?_
      rintro _ h_335 ⟨rfl, K_336, E_337, F_338, G_339, A_340⟩
      have f_341 : Exa Z h_335 a_289 "com/example/forward_planner/forwardplanner/heuristic/IntList" := f_325.keep K_336
      have t_346 : a_289 < h_335.size := Nat.lt_of_lt_of_le t_330 K_336.1
      have t_347 : e_302 < h_335.size := Nat.lt_of_lt_of_le t_331 K_336.1
      have z_348 : n0 ≤ h_335.size := Nat.le_trans z_332 K_336.1
      have O_349 : Old Z n0 h_335 := O_333.keep K_336 (allS g_294 (allS g_311 all0))
      have f_342 : Sta Z h_335 "com/example/forward_planner/forwardplanner/heuristic/IntList" "$assertionsDisabled" "Z" (.int (1 : Int32)) := Sta.ext O_349.2 hS
      change Fld Z h_335 a_289 "com/example/forward_planner/forwardplanner/heuristic/IntList" "size" "I" (.int (2 : Int32)) at G_339
      change Ary Z h_335 e_302 .int [(.int x0), (.int x1), (.int (0 : Int32)), (.int (0 : Int32)), (.int (0 : Int32)), (.int (0 : Int32)), (.int (0 : Int32)), (.int (0 : Int32))] at A_340
      show (Go false l room_1 Z x code maxLocals ret n0 16 128 (fun v h => v = some (.int 1))) h_335 (0 + 1 + 1 + 0 + 0) (0 + 2 + 8 + 0 + 0) 51 #[.val (.int x0), .val (.int x1), .val (.int x2), .val (.int x3), .val (.int k0), .val (.int j0), .val (.int (2 : Int32)), .val (.int (1 : Int32)), .val (.ref a_289), .unset, .unset] []
      refine Go.iload (pc' := 53) at_51 rfl rfl ?_
      refine Go.iconst (pc' := 54) (v := (3 : Int32)) at_53 rfl rfl ?_
      refine Go.icmp (pc1 := 63) (pc2 := 57) at_54 (by decide) (by decide) rfl (fun (c_350 : (2 : Int) < (3 : Int)) => ?_) (fun (c_350 : (3 : Int) ≤ (2 : Int)) => ?_)
      rotate_left
      · exact absurd c_350 (by decide)
      refine Go.iload (pc' := 65) at_63 rfl rfl ?_
      refine Go.ifc (pc1 := 80) (pc2 := 68) at_65 (by decide) (by decide) rfl (fun (c_351 : (1 : Int) = 0) => ?_) (fun (c_351 : (1 : Int) ≠ 0) => ?_)
      · exact absurd c_351 (by decide)
      refine Go.aload (pc' := 70) at_68 rfl rfl rfl ?_
      refine Go.callV (pc' := 73) (argsL := []) (rest := []) (W := 0) (hw _ (List.mem_of_getElem? (i := 32) rfl)) (hw _ (List.mem_of_getElem? (i := 33) rfl)) (hw _ (List.mem_of_getElem? (i := 35) rfl)) (hw _ (List.mem_of_getElem? (i := 34) rfl)) (hw _ (List.mem_of_getElem? (i := 2) rfl)) (hw _ (List.mem_of_getElem? (i := 36) rfl)) (by decide) f_341 (m_r l Z a0 hw a_289 e_302 (2 : Int32) x1 1 [(.int x0), (.int x1), (.int (0 : Int32)), (.int (0 : Int32)), (.int (0 : Int32)), (.int (0 : Int32)), (.int (0 : Int32)), (.int (0 : Int32))] h_335 n0 z_348 f_341 F_338 G_339 A_340 f_342 rfl rfl n_310 g_294 g_311) at_70 rfl pd3 rfl rfl (Nat.le_of_eq rfl) (by decide) (by decide) (by decide) (by decide) rfl ?_
      rintro _ h_352 ⟨rfl, K_353, E_354, F_355, G_356, A_357⟩
      have f_358 : Exa Z h_352 a_289 "com/example/forward_planner/forwardplanner/heuristic/IntList" := f_341.keep K_353
      have f_362 : Ary Z h_352 e_302 .int [(.int x0), (.int x1), (.int (0 : Int32)), (.int (0 : Int32)), (.int (0 : Int32)), (.int (0 : Int32)), (.int (0 : Int32)), (.int (0 : Int32))] := A_340.sm (Sm.keep K_353 (ninS n_310.symm nin0))
      have t_363 : a_289 < h_352.size := Nat.lt_of_lt_of_le t_346 K_353.1
      have t_364 : e_302 < h_352.size := Nat.lt_of_lt_of_le t_347 K_353.1
      have z_365 : n0 ≤ h_352.size := Nat.le_trans z_348 K_353.1
      have O_366 : Old Z n0 h_352 := O_349.keep K_353 (allS g_294 all0)
      have f_359 : Sta Z h_352 "com/example/forward_planner/forwardplanner/heuristic/IntList" "$assertionsDisabled" "Z" (.int (1 : Int32)) := Sta.ext O_366.2 hS
      change Fld Z h_352 a_289 "com/example/forward_planner/forwardplanner/heuristic/IntList" "size" "I" (.int (1 : Int32)) at G_356
      show (Go false l room_1 Z x code maxLocals ret n0 16 128 (fun v h => v = some (.int 1))) h_352 (0 + 1 + 1 + 0 + 0 + 0) (0 + 2 + 8 + 0 + 0 + 0) 73 #[.val (.int x0), .val (.int x1), .val (.int x2), .val (.int x3), .val (.int k0), .val (.int j0), .val (.int (2 : Int32)), .val (.int (1 : Int32)), .val (.ref a_289), .unset, .unset] [(.int x1)]
      refine Go.pop (pc' := 74) at_73 rfl rfl ?_
      refine Go.aload (pc' := 76) at_74 rfl rfl rfl ?_
      refine Go.iloadN (pc' := 77) at_76 rfl rfl ?_
      refine Go.callV (pc' := 80) (argsL := [(.int x3)]) (rest := []) (W := 0) (hw _ (List.mem_of_getElem? (i := 12) rfl)) (hw _ (List.mem_of_getElem? (i := 13) rfl)) (hw _ (List.mem_of_getElem? (i := 15) rfl)) (hw _ (List.mem_of_getElem? (i := 14) rfl)) (hw _ (List.mem_of_getElem? (i := 2) rfl)) (hw _ (List.mem_of_getElem? (i := 16) rfl)) (by decide) f_358 (m_a l Z a0 hw a_289 e_302 x3 (1 : Int32) 1 [(.int x0), (.int x1), (.int (0 : Int32)), (.int (0 : Int32)), (.int (0 : Int32)), (.int (0 : Int32)), (.int (0 : Int32)), (.int (0 : Int32))] h_352 n0 z_365 f_358 F_355 G_356 f_362 rfl (by decide) rfl n_310 g_294 g_311) at_77 rfl pd1 rfl rfl (Nat.le_of_eq rfl) (by decide) (by decide) (by decide) (by decide) rfl ?_
      rintro _ h_367 ⟨rfl, K_368, E_369, F_370, G_371, A_372⟩
      have f_373 : Exa Z h_367 a_289 "com/example/forward_planner/forwardplanner/heuristic/IntList" := f_358.keep K_368
      have t_378 : a_289 < h_367.size := Nat.lt_of_lt_of_le t_363 K_368.1
      have t_379 : e_302 < h_367.size := Nat.lt_of_lt_of_le t_364 K_368.1
      have z_380 : n0 ≤ h_367.size := Nat.le_trans z_365 K_368.1
      have O_381 : Old Z n0 h_367 := O_366.keep K_368 (allS g_294 (allS g_311 all0))
      have f_375 : Sta Z h_367 "com/example/forward_planner/forwardplanner/heuristic/IntList" "$assertionsDisabled" "Z" (.int (1 : Int32)) := Sta.ext O_381.2 hS
      change Fld Z h_367 a_289 "com/example/forward_planner/forwardplanner/heuristic/IntList" "size" "I" (.int (2 : Int32)) at G_371
      change Ary Z h_367 e_302 .int [(.int x0), (.int x3), (.int (0 : Int32)), (.int (0 : Int32)), (.int (0 : Int32)), (.int (0 : Int32)), (.int (0 : Int32)), (.int (0 : Int32))] at A_372
      show (Go false l room_1 Z x code maxLocals ret n0 16 128 (fun v h => v = some (.int 1))) h_367 (0 + 1 + 1 + 0 + 0 + 0 + 0) (0 + 2 + 8 + 0 + 0 + 0 + 0) 80 #[.val (.int x0), .val (.int x1), .val (.int x2), .val (.int x3), .val (.int k0), .val (.int j0), .val (.int (2 : Int32)), .val (.int (1 : Int32)), .val (.ref a_289), .unset, .unset] []
      refine Go.iload (pc' := 82) at_80 rfl rfl ?_
      refine Go.ldcI (pc' := 84) (hw _ (List.mem_of_getElem? (i := 19) rfl)) at_82 rfl ?_
      refine Go.iand (pc' := 85) at_84 rfl ?_
      refine Go.iload (pc' := 87) at_85 rfl rfl ?_
      refine Go.irem (pc' := 88) at_87 (by decide) rfl ?_
      generalize ei_382 : (j0 &&& (2147483647 : Int32)) % (2 : Int32) = i_382
      have k_383 : i_382.toInt = 0 ∨ i_382.toInt = 1 := by
        rw [← ei_382]
        have : (2147483647 : Int32).toInt = 2147483647 := by decide
        have := c_mask j0 (2147483647 : Int32) 31 (by decide) (by decide)
        have := rng32 (j0 &&& (2147483647 : Int32))
        have := rng32 j0
        have : (2 : Int32).toInt = 2 := by decide
        have := c_irem (j0 &&& (2147483647 : Int32)) (2 : Int32) 2 (by decide)
        have := rng32 ((j0 &&& (2147483647 : Int32)) % (2 : Int32))
        omega
      clear ei_382
      rcases k_383 with k_383 | k_383
      · obtain rfl : i_382 = (0 : Int32) := Int32.toInt_inj.mp k_383
        refine Go.istore (pc' := 90) (Ls' := #[.val (.int x0), .val (.int x1), .val (.int x2), .val (.int x3), .val (.int k0), .val (.int j0), .val (.int (2 : Int32)), .val (.int (1 : Int32)), .val (.ref a_289), .val (.int (0 : Int32)), .unset]) at_88 rfl rfl ?_
        refine Go.iload (pc' := 92) at_90 rfl rfl ?_
        refine Go.ifc (pc1 := 101) (pc2 := 95) at_92 (by decide) (by decide) rfl (fun (c_384 : (0 : Int) ≠ 0) => ?_) (fun (c_384 : (0 : Int) = 0) => ?_)
        · exact absurd c_384 (by decide)
        refine Go.iloadN (pc' := 96) at_95 rfl rfl ?_
        refine Go.istore (pc' := 98) (Ls' := #[.val (.int x0), .val (.int x1), .val (.int x2), .val (.int x3), .val (.int k0), .val (.int j0), .val (.int (2 : Int32)), .val (.int (1 : Int32)), .val (.ref a_289), .val (.int (0 : Int32)), .val (.int x0)]) at_96 rfl rfl ?_
        refine Go.goto (pc' := 116) at_98 (by decide) (by decide) ?_
        refine Go.iload (pc' := 118) at_116 rfl rfl ?_
        refine Go.ifc (pc1 := 133) (pc2 := 121) at_118 (by decide) (by decide) rfl (fun (c_385 : (1 : Int) = 0) => ?_) (fun (c_385 : (1 : Int) ≠ 0) => ?_)
        · exact absurd c_385 (by decide)
        refine Go.iload (pc' := 123) at_121 rfl rfl ?_
        refine Go.iload (pc' := 125) at_123 rfl rfl ?_
        refine Go.iconst (pc' := 126) (v := (1 : Int32)) at_125 rfl rfl ?_
        refine Go.isub (pc' := 127) at_126 rfl ?_
        show (Go false l room_1 Z x code maxLocals ret n0 16 128 (fun v h => v = some (.int 1))) h_367 (0 + 1 + 1 + 0 + 0 + 0 + 0) (0 + 2 + 8 + 0 + 0 + 0 + 0) 127 #[.val (.int x0), .val (.int x1), .val (.int x2), .val (.int x3), .val (.int k0), .val (.int j0), .val (.int (2 : Int32)), .val (.int (1 : Int32)), .val (.ref a_289), .val (.int (0 : Int32)), .val (.int x0)] [(.int (1 : Int32)), (.int (0 : Int32))]
        refine Go.icmp (pc1 := 133) (pc2 := 130) at_127 (by decide) (by decide) rfl (fun (c_386 : (0 : Int) ≠ (1 : Int)) => ?_) (fun (c_386 : (0 : Int) = (1 : Int)) => ?_)
        rotate_left
        · exact absurd c_386 (by decide)
        refine Go.aload (pc' := 135) at_133 rfl rfl rfl ?_
        refine Go.iload (pc' := 137) at_135 rfl rfl ?_
        refine Go.callV (pc' := 140) (argsL := [(.int (0 : Int32))]) (rest := []) (W := 0) (hw _ (List.mem_of_getElem? (i := 20) rfl)) (hw _ (List.mem_of_getElem? (i := 21) rfl)) (hw _ (List.mem_of_getElem? (i := 23) rfl)) (hw _ (List.mem_of_getElem? (i := 22) rfl)) (hw _ (List.mem_of_getElem? (i := 2) rfl)) (hw _ (List.mem_of_getElem? (i := 24) rfl)) (by decide) f_373 (m_g l Z a0 hw a_289 e_302 (0 : Int32) (2 : Int32) x0 0 [(.int x0), (.int x3), (.int (0 : Int32)), (.int (0 : Int32)), (.int (0 : Int32)), (.int (0 : Int32)), (.int (0 : Int32)), (.int (0 : Int32))] h_367 n0 z_380 f_373 F_370 G_371 A_372 f_375 rfl rfl) at_137 rfl pd2 rfl rfl (Nat.le_of_eq rfl) (by decide) (by decide) (by decide) (by decide) rfl ?_
        rintro _ _ ⟨rfl, rfl⟩
        show (Go false l room_1 Z x code maxLocals ret n0 16 128 (fun v h => v = some (.int 1))) h_367 (0 + 1 + 1 + 0 + 0 + 0 + 0 + 0) (0 + 2 + 8 + 0 + 0 + 0 + 0 + 0) 140 #[.val (.int x0), .val (.int x1), .val (.int x2), .val (.int x3), .val (.int k0), .val (.int j0), .val (.int (2 : Int32)), .val (.int (1 : Int32)), .val (.ref a_289), .val (.int (0 : Int32)), .val (.int x0)] [(.int x0)]
        refine Go.iload (pc' := 142) at_140 rfl rfl ?_
        refine Go.icmp (pc1 := 159) (pc2 := 145) at_142 (by decide) (by decide) rfl (fun (c_387 : x0.toInt ≠ x0.toInt) => ?_) (fun (c_387 : x0.toInt = x0.toInt) => ?_)
        · exact absurd rfl c_387
        refine Go.aload (pc' := 147) at_145 rfl rfl rfl ?_
        refine Go.callV (pc' := 150) (argsL := []) (rest := []) (W := 0) (hw _ (List.mem_of_getElem? (i := 27) rfl)) (hw _ (List.mem_of_getElem? (i := 28) rfl)) (hw _ (List.mem_of_getElem? (i := 30) rfl)) (hw _ (List.mem_of_getElem? (i := 29) rfl)) (hw _ (List.mem_of_getElem? (i := 2) rfl)) (hw _ (List.mem_of_getElem? (i := 31) rfl)) (by decide) f_373 (m_s l Z a0 hw a_289 (2 : Int32) h_367 n0 z_380 G_371) at_147 rfl pd3 rfl rfl (Nat.le_of_eq rfl) (by decide) (by decide) (by decide) (by decide) rfl ?_
        rintro _ _ ⟨rfl, rfl⟩
        show (Go false l room_1 Z x code maxLocals ret n0 16 128 (fun v h => v = some (.int 1))) h_367 (0 + 1 + 1 + 0 + 0 + 0 + 0 + 0 + 0) (0 + 2 + 8 + 0 + 0 + 0 + 0 + 0 + 0) 150 #[.val (.int x0), .val (.int x1), .val (.int x2), .val (.int x3), .val (.int k0), .val (.int j0), .val (.int (2 : Int32)), .val (.int (1 : Int32)), .val (.ref a_289), .val (.int (0 : Int32)), .val (.int x0)] [(.int (2 : Int32))]
        refine Go.iload (pc' := 152) at_150 rfl rfl ?_
        refine Go.icmp (pc1 := 159) (pc2 := 155) at_152 (by decide) (by decide) rfl (fun (c_388 : (2 : Int) ≠ (2 : Int)) => ?_) (fun (c_388 : (2 : Int) = (2 : Int)) => ?_)
        · exact absurd c_388 (by decide)
        refine Go.iconst (pc' := 156) (v := (1 : Int32)) at_155 rfl rfl ?_
        refine Go.goto (pc' := 160) at_156 (by decide) (by decide) ?_
        exact Go.retN (t := .boolean) at_160 rfl (by simp) rfl rfl (by decide) (by decide)
      · obtain rfl : i_382 = (1 : Int32) := Int32.toInt_inj.mp k_383
        refine Go.istore (pc' := 90) (Ls' := #[.val (.int x0), .val (.int x1), .val (.int x2), .val (.int x3), .val (.int k0), .val (.int j0), .val (.int (2 : Int32)), .val (.int (1 : Int32)), .val (.ref a_289), .val (.int (1 : Int32)), .unset]) at_88 rfl rfl ?_
        refine Go.iload (pc' := 92) at_90 rfl rfl ?_
        refine Go.ifc (pc1 := 101) (pc2 := 95) at_92 (by decide) (by decide) rfl (fun (c_389 : (1 : Int) ≠ 0) => ?_) (fun (c_389 : (1 : Int) = 0) => ?_)
        rotate_left
        · exact absurd c_389 (by decide)
        refine Go.iload (pc' := 103) at_101 rfl rfl ?_
        refine Go.iconst (pc' := 104) (v := (1 : Int32)) at_103 rfl rfl ?_
        refine Go.icmp (pc1 := 113) (pc2 := 107) at_104 (by decide) (by decide) rfl (fun (c_390 : (1 : Int) ≠ (1 : Int)) => ?_) (fun (c_390 : (1 : Int) = (1 : Int)) => ?_)
        · exact absurd c_390 (by decide)
        refine Go.iloadN (pc' := 108) at_107 rfl rfl ?_
        refine Go.istore (pc' := 110) (Ls' := #[.val (.int x0), .val (.int x1), .val (.int x2), .val (.int x3), .val (.int k0), .val (.int j0), .val (.int (2 : Int32)), .val (.int (1 : Int32)), .val (.ref a_289), .val (.int (1 : Int32)), .val (.int x1)]) at_108 rfl rfl ?_
        refine Go.goto (pc' := 116) at_110 (by decide) (by decide) ?_
        refine Go.iload (pc' := 118) at_116 rfl rfl ?_
        refine Go.ifc (pc1 := 133) (pc2 := 121) at_118 (by decide) (by decide) rfl (fun (c_391 : (1 : Int) = 0) => ?_) (fun (c_391 : (1 : Int) ≠ 0) => ?_)
        · exact absurd c_391 (by decide)
        refine Go.iload (pc' := 123) at_121 rfl rfl ?_
        refine Go.iload (pc' := 125) at_123 rfl rfl ?_
        refine Go.iconst (pc' := 126) (v := (1 : Int32)) at_125 rfl rfl ?_
        refine Go.isub (pc' := 127) at_126 rfl ?_
        show (Go false l room_1 Z x code maxLocals ret n0 16 128 (fun v h => v = some (.int 1))) h_367 (0 + 1 + 1 + 0 + 0 + 0 + 0) (0 + 2 + 8 + 0 + 0 + 0 + 0) 127 #[.val (.int x0), .val (.int x1), .val (.int x2), .val (.int x3), .val (.int k0), .val (.int j0), .val (.int (2 : Int32)), .val (.int (1 : Int32)), .val (.ref a_289), .val (.int (1 : Int32)), .val (.int x1)] [(.int (1 : Int32)), (.int (1 : Int32))]
        refine Go.icmp (pc1 := 133) (pc2 := 130) at_127 (by decide) (by decide) rfl (fun (c_392 : (1 : Int) ≠ (1 : Int)) => ?_) (fun (c_392 : (1 : Int) = (1 : Int)) => ?_)
        · exact absurd c_392 (by decide)
        refine Go.iloadN (pc' := 131) at_130 rfl rfl ?_
        refine Go.istore (pc' := 133) (Ls' := #[.val (.int x0), .val (.int x1), .val (.int x2), .val (.int x3), .val (.int k0), .val (.int j0), .val (.int (2 : Int32)), .val (.int (1 : Int32)), .val (.ref a_289), .val (.int (1 : Int32)), .val (.int x3)]) at_131 rfl rfl ?_
        refine Go.aload (pc' := 135) at_133 rfl rfl rfl ?_
        refine Go.iload (pc' := 137) at_135 rfl rfl ?_
        refine Go.callV (pc' := 140) (argsL := [(.int (1 : Int32))]) (rest := []) (W := 0) (hw _ (List.mem_of_getElem? (i := 20) rfl)) (hw _ (List.mem_of_getElem? (i := 21) rfl)) (hw _ (List.mem_of_getElem? (i := 23) rfl)) (hw _ (List.mem_of_getElem? (i := 22) rfl)) (hw _ (List.mem_of_getElem? (i := 2) rfl)) (hw _ (List.mem_of_getElem? (i := 24) rfl)) (by decide) f_373 (m_g l Z a0 hw a_289 e_302 (1 : Int32) (2 : Int32) x3 1 [(.int x0), (.int x3), (.int (0 : Int32)), (.int (0 : Int32)), (.int (0 : Int32)), (.int (0 : Int32)), (.int (0 : Int32)), (.int (0 : Int32))] h_367 n0 z_380 f_373 F_370 G_371 A_372 f_375 rfl rfl) at_137 rfl pd2 rfl rfl (Nat.le_of_eq rfl) (by decide) (by decide) (by decide) (by decide) rfl ?_
        rintro _ _ ⟨rfl, rfl⟩
        show (Go false l room_1 Z x code maxLocals ret n0 16 128 (fun v h => v = some (.int 1))) h_367 (0 + 1 + 1 + 0 + 0 + 0 + 0 + 0) (0 + 2 + 8 + 0 + 0 + 0 + 0 + 0) 140 #[.val (.int x0), .val (.int x1), .val (.int x2), .val (.int x3), .val (.int k0), .val (.int j0), .val (.int (2 : Int32)), .val (.int (1 : Int32)), .val (.ref a_289), .val (.int (1 : Int32)), .val (.int x3)] [(.int x3)]
        refine Go.iload (pc' := 142) at_140 rfl rfl ?_
        refine Go.icmp (pc1 := 159) (pc2 := 145) at_142 (by decide) (by decide) rfl (fun (c_393 : x3.toInt ≠ x3.toInt) => ?_) (fun (c_393 : x3.toInt = x3.toInt) => ?_)
        · exact absurd rfl c_393
        refine Go.aload (pc' := 147) at_145 rfl rfl rfl ?_
        refine Go.callV (pc' := 150) (argsL := []) (rest := []) (W := 0) (hw _ (List.mem_of_getElem? (i := 27) rfl)) (hw _ (List.mem_of_getElem? (i := 28) rfl)) (hw _ (List.mem_of_getElem? (i := 30) rfl)) (hw _ (List.mem_of_getElem? (i := 29) rfl)) (hw _ (List.mem_of_getElem? (i := 2) rfl)) (hw _ (List.mem_of_getElem? (i := 31) rfl)) (by decide) f_373 (m_s l Z a0 hw a_289 (2 : Int32) h_367 n0 z_380 G_371) at_147 rfl pd3 rfl rfl (Nat.le_of_eq rfl) (by decide) (by decide) (by decide) (by decide) rfl ?_
        rintro _ _ ⟨rfl, rfl⟩
        show (Go false l room_1 Z x code maxLocals ret n0 16 128 (fun v h => v = some (.int 1))) h_367 (0 + 1 + 1 + 0 + 0 + 0 + 0 + 0 + 0) (0 + 2 + 8 + 0 + 0 + 0 + 0 + 0 + 0) 150 #[.val (.int x0), .val (.int x1), .val (.int x2), .val (.int x3), .val (.int k0), .val (.int j0), .val (.int (2 : Int32)), .val (.int (1 : Int32)), .val (.ref a_289), .val (.int (1 : Int32)), .val (.int x3)] [(.int (2 : Int32))]
        refine Go.iload (pc' := 152) at_150 rfl rfl ?_
        refine Go.icmp (pc1 := 159) (pc2 := 155) at_152 (by decide) (by decide) rfl (fun (c_394 : (2 : Int) ≠ (2 : Int)) => ?_) (fun (c_394 : (2 : Int) = (2 : Int)) => ?_)
        · exact absurd c_394 (by decide)
        refine Go.iconst (pc' := 156) (v := (1 : Int32)) at_155 rfl rfl ?_
        refine Go.goto (pc' := 160) at_156 (by decide) (by decide) ?_
        exact Go.retN (t := .boolean) at_160 rfl (by simp) rfl rfl (by decide) (by decide)
  · obtain rfl : c_68 = (3 : Int32) := Int32.toInt_inj.mp k_69
    refine Go.istore (pc' := 10) (Ls' := #[.val (.int x0), .val (.int x1), .val (.int x2), .val (.int x3), .val (.int k0), .val (.int j0), .val (.int (3 : Int32)), .unset, .unset, .unset, .unset]) at_8 rfl rfl ?_
    refine Go.iload (pc' := 12) at_10 rfl rfl ?_
    refine Go.iconst (pc' := 13) (v := (4 : Int32)) at_12 rfl rfl ?_
    refine Go.iand (pc' := 14) at_13 rfl ?_
    refine Go.ifc (pc1 := 21) (pc2 := 17) at_14 (by decide) (by decide) rfl (fun (c_395 : (k0 &&& (4 : Int32)).toInt = 0) => ?_) (fun (c_395 : (k0 &&& (4 : Int32)).toInt ≠ 0) => ?_)
    · refine Go.iconst (pc' := 22) (v := (0 : Int32)) at_21 rfl rfl ?_
      refine Go.istore (pc' := 24) (Ls' := #[.val (.int x0), .val (.int x1), .val (.int x2), .val (.int x3), .val (.int k0), .val (.int j0), .val (.int (3 : Int32)), .val (.int (0 : Int32)), .unset, .unset, .unset]) at_22 rfl rfl ?_
      refine Go.newO (pc' := 27) (hw _ (List.mem_of_getElem? (i := 0) rfl)) (hw _ (List.mem_of_getElem? (i := 1) rfl)) (hw _ (List.mem_of_getElem? (i := 2) rfl)) at_24 (by decide) (by decide) rfl ?_
      intro h_396 a_397 q_398 E_399 A_400 D_401
      have g_402 : n0 ≤ a_397 := q_398 ▸ z0
      have z_404 : n0 ≤ h_396.size := Nat.le_trans z0 E_399.1
      have O_405 : Old Z n0 h_396 := hO.ext E_399
      have f_403 : Sta Z h_396 "com/example/forward_planner/forwardplanner/heuristic/IntList" "$assertionsDisabled" "Z" (.int (1 : Int32)) := Sta.ext O_405.2 hS
      have t_406 : a_397 < h_396.size := A_400.lt
      have f_407 : Fld Z h_396 a_397 "com/example/forward_planner/forwardplanner/heuristic/IntList" "elements" "[I" .null := D_401 (Or.inl (hw _ (List.mem_of_getElem? (i := 11) rfl))) (ty := (.array .int)) (by decide)
      have f_408 : Fld Z h_396 a_397 "com/example/forward_planner/forwardplanner/heuristic/IntList" "size" "I" (.int (0 : Int32)) := D_401 (Or.inl (hw _ (List.mem_of_getElem? (i := 18) rfl))) (ty := .int) (by decide)
      refine Go.dup (pc' := 28) at_27 rfl rfl ?_
      refine Go.callN (pc' := 31) (argsL := []) (rest := [(.ref a_397)]) (W := 1) rfl (hw _ (List.mem_of_getElem? (i := 3) rfl)) (hw _ (List.mem_of_getElem? (i := 4) rfl)) (hw _ (List.mem_of_getElem? (i := 2) rfl)) (hw _ (List.mem_of_getElem? (i := 5) rfl)) (by decide) (m_i l Z a0 hw a_397 h_396 n0 z_404 A_400 f_407 f_408 g_402) at_28 rfl pd0 rfl rfl (Nat.le_of_eq rfl) (by decide) (by decide) (by decide) (by decide) rfl ?_
      rintro _ h_409 ⟨rfl, e_410, K_411, E_412, F_413, G_414, A_415, q_416, t_417⟩
      have n_418 : a_397 ≠ e_410 := Nat.ne_of_lt (Nat.lt_of_lt_of_le t_406 q_416)
      have g_419 : n0 ≤ e_410 := Nat.le_trans z_404 q_416
      have f_421 : Exa Z h_409 a_397 "com/example/forward_planner/forwardplanner/heuristic/IntList" := A_400.keep K_411
      have t_424 : a_397 < h_409.size := Nat.lt_of_lt_of_le t_406 K_411.1
      have z_425 : n0 ≤ h_409.size := Nat.le_trans z_404 K_411.1
      have O_426 : Old Z n0 h_409 := O_405.keep K_411 (allS g_402 all0)
      have f_420 : Sta Z h_409 "com/example/forward_planner/forwardplanner/heuristic/IntList" "$assertionsDisabled" "Z" (.int (1 : Int32)) := Sta.ext O_426.2 hS
      show (Go false l room_1 Z x code maxLocals ret n0 16 128 (fun v h => v = some (.int 1))) h_409 (0 + 1 + 1) (0 + 2 + 8) 31 #[.val (.int x0), .val (.int x1), .val (.int x2), .val (.int x3), .val (.int k0), .val (.int j0), .val (.int (3 : Int32)), .val (.int (0 : Int32)), .unset, .unset, .unset] [(.ref a_397)]
      refine Go.astore (pc' := 33) (Ls' := #[.val (.int x0), .val (.int x1), .val (.int x2), .val (.int x3), .val (.int k0), .val (.int j0), .val (.int (3 : Int32)), .val (.int (0 : Int32)), .val (.ref a_397), .unset, .unset]) at_31 rfl rfl rfl ?_
      refine Go.aload (pc' := 35) at_33 rfl rfl rfl ?_
      refine Go.iloadN (pc' := 36) at_35 rfl rfl ?_
      refine Go.callV (pc' := 39) (argsL := [(.int x0)]) (rest := []) (W := 0) (hw _ (List.mem_of_getElem? (i := 12) rfl)) (hw _ (List.mem_of_getElem? (i := 13) rfl)) (hw _ (List.mem_of_getElem? (i := 15) rfl)) (hw _ (List.mem_of_getElem? (i := 14) rfl)) (hw _ (List.mem_of_getElem? (i := 2) rfl)) (hw _ (List.mem_of_getElem? (i := 16) rfl)) (by decide) f_421 (m_a l Z a0 hw a_397 e_410 x0 (0 : Int32) 0 [(.int (0 : Int32)), (.int (0 : Int32)), (.int (0 : Int32)), (.int (0 : Int32)), (.int (0 : Int32)), (.int (0 : Int32)), (.int (0 : Int32)), (.int (0 : Int32))] h_409 n0 z_425 f_421 F_413 G_414 A_415 rfl (by decide) rfl n_418 g_402 g_419) at_36 rfl pd1 rfl rfl (Nat.le_of_eq rfl) (by decide) (by decide) (by decide) (by decide) rfl ?_
      rintro _ h_427 ⟨rfl, K_428, E_429, F_430, G_431, A_432⟩
      have f_433 : Exa Z h_427 a_397 "com/example/forward_planner/forwardplanner/heuristic/IntList" := f_421.keep K_428
      have t_438 : a_397 < h_427.size := Nat.lt_of_lt_of_le t_424 K_428.1
      have t_439 : e_410 < h_427.size := Nat.lt_of_lt_of_le t_417 K_428.1
      have z_440 : n0 ≤ h_427.size := Nat.le_trans z_425 K_428.1
      have O_441 : Old Z n0 h_427 := O_426.keep K_428 (allS g_402 (allS g_419 all0))
      have f_434 : Sta Z h_427 "com/example/forward_planner/forwardplanner/heuristic/IntList" "$assertionsDisabled" "Z" (.int (1 : Int32)) := Sta.ext O_441.2 hS
      change Fld Z h_427 a_397 "com/example/forward_planner/forwardplanner/heuristic/IntList" "size" "I" (.int (1 : Int32)) at G_431
      change Ary Z h_427 e_410 .int [(.int x0), (.int (0 : Int32)), (.int (0 : Int32)), (.int (0 : Int32)), (.int (0 : Int32)), (.int (0 : Int32)), (.int (0 : Int32)), (.int (0 : Int32))] at A_432
      show (Go false l room_1 Z x code maxLocals ret n0 16 128 (fun v h => v = some (.int 1))) h_427 (0 + 1 + 1 + 0) (0 + 2 + 8 + 0) 39 #[.val (.int x0), .val (.int x1), .val (.int x2), .val (.int x3), .val (.int k0), .val (.int j0), .val (.int (3 : Int32)), .val (.int (0 : Int32)), .val (.ref a_397), .unset, .unset] []
      refine Go.iload (pc' := 41) at_39 rfl rfl ?_
      refine Go.iconst (pc' := 42) (v := (2 : Int32)) at_41 rfl rfl ?_
      refine Go.icmp (pc1 := 51) (pc2 := 45) at_42 (by decide) (by decide) rfl (fun (c_442 : (3 : Int) < (2 : Int)) => ?_) (fun (c_442 : (2 : Int) ≤ (3 : Int)) => ?_)
      · exact absurd c_442 (by decide)
      refine Go.aload (pc' := 47) at_45 rfl rfl rfl ?_
      refine Go.iloadN (pc' := 48) at_47 rfl rfl ?_
      refine Go.callV (pc' := 51) (argsL := [(.int x1)]) (rest := []) (W := 0) (hw _ (List.mem_of_getElem? (i := 12) rfl)) (hw _ (List.mem_of_getElem? (i := 13) rfl)) (hw _ (List.mem_of_getElem? (i := 15) rfl)) (hw _ (List.mem_of_getElem? (i := 14) rfl)) (hw _ (List.mem_of_getElem? (i := 2) rfl)) (hw _ (List.mem_of_getElem? (i := 16) rfl)) (by decide) f_433 (m_a l Z a0 hw a_397 e_410 x1 (1 : Int32) 1 [(.int x0), (.int (0 : Int32)), (.int (0 : Int32)), (.int (0 : Int32)), (.int (0 : Int32)), (.int (0 : Int32)), (.int (0 : Int32)), (.int (0 : Int32))] h_427 n0 z_440 f_433 F_430 G_431 A_432 rfl (by decide) rfl n_418 g_402 g_419) at_48 rfl pd1 rfl rfl (Nat.le_of_eq rfl) (by decide) (by decide) (by decide) (by decide) rfl ?_
      rintro _ h_443 ⟨rfl, K_444, E_445, F_446, G_447, A_448⟩
      have f_449 : Exa Z h_443 a_397 "com/example/forward_planner/forwardplanner/heuristic/IntList" := f_433.keep K_444
      have t_454 : a_397 < h_443.size := Nat.lt_of_lt_of_le t_438 K_444.1
      have t_455 : e_410 < h_443.size := Nat.lt_of_lt_of_le t_439 K_444.1
      have z_456 : n0 ≤ h_443.size := Nat.le_trans z_440 K_444.1
      have O_457 : Old Z n0 h_443 := O_441.keep K_444 (allS g_402 (allS g_419 all0))
      have f_450 : Sta Z h_443 "com/example/forward_planner/forwardplanner/heuristic/IntList" "$assertionsDisabled" "Z" (.int (1 : Int32)) := Sta.ext O_457.2 hS
      change Fld Z h_443 a_397 "com/example/forward_planner/forwardplanner/heuristic/IntList" "size" "I" (.int (2 : Int32)) at G_447
      change Ary Z h_443 e_410 .int [(.int x0), (.int x1), (.int (0 : Int32)), (.int (0 : Int32)), (.int (0 : Int32)), (.int (0 : Int32)), (.int (0 : Int32)), (.int (0 : Int32))] at A_448
      show (Go false l room_1 Z x code maxLocals ret n0 16 128 (fun v h => v = some (.int 1))) h_443 (0 + 1 + 1 + 0 + 0) (0 + 2 + 8 + 0 + 0) 51 #[.val (.int x0), .val (.int x1), .val (.int x2), .val (.int x3), .val (.int k0), .val (.int j0), .val (.int (3 : Int32)), .val (.int (0 : Int32)), .val (.ref a_397), .unset, .unset] []
      refine Go.iload (pc' := 53) at_51 rfl rfl ?_
      refine Go.iconst (pc' := 54) (v := (3 : Int32)) at_53 rfl rfl ?_
      refine Go.icmp (pc1 := 63) (pc2 := 57) at_54 (by decide) (by decide) rfl (fun (c_458 : (3 : Int) < (3 : Int)) => ?_) (fun (c_458 : (3 : Int) ≤ (3 : Int)) => ?_)
      · exact absurd c_458 (by decide)
      refine Go.aload (pc' := 59) at_57 rfl rfl rfl ?_
      refine Go.iloadN (pc' := 60) at_59 rfl rfl ?_
      refine Go.callV (pc' := 63) (argsL := [(.int x2)]) (rest := []) (W := 0) (hw _ (List.mem_of_getElem? (i := 12) rfl)) (hw _ (List.mem_of_getElem? (i := 13) rfl)) (hw _ (List.mem_of_getElem? (i := 15) rfl)) (hw _ (List.mem_of_getElem? (i := 14) rfl)) (hw _ (List.mem_of_getElem? (i := 2) rfl)) (hw _ (List.mem_of_getElem? (i := 16) rfl)) (by decide) f_449 (m_a l Z a0 hw a_397 e_410 x2 (2 : Int32) 2 [(.int x0), (.int x1), (.int (0 : Int32)), (.int (0 : Int32)), (.int (0 : Int32)), (.int (0 : Int32)), (.int (0 : Int32)), (.int (0 : Int32))] h_443 n0 z_456 f_449 F_446 G_447 A_448 rfl (by decide) rfl n_418 g_402 g_419) at_60 rfl pd1 rfl rfl (Nat.le_of_eq rfl) (by decide) (by decide) (by decide) (by decide) rfl ?_
      rintro _ h_459 ⟨rfl, K_460, E_461, F_462, G_463, A_464⟩
      have f_465 : Exa Z h_459 a_397 "com/example/forward_planner/forwardplanner/heuristic/IntList" := f_449.keep K_460
      have t_470 : a_397 < h_459.size := Nat.lt_of_lt_of_le t_454 K_460.1
      have t_471 : e_410 < h_459.size := Nat.lt_of_lt_of_le t_455 K_460.1
      have z_472 : n0 ≤ h_459.size := Nat.le_trans z_456 K_460.1
      have O_473 : Old Z n0 h_459 := O_457.keep K_460 (allS g_402 (allS g_419 all0))
      have f_466 : Sta Z h_459 "com/example/forward_planner/forwardplanner/heuristic/IntList" "$assertionsDisabled" "Z" (.int (1 : Int32)) := Sta.ext O_473.2 hS
      change Fld Z h_459 a_397 "com/example/forward_planner/forwardplanner/heuristic/IntList" "size" "I" (.int (3 : Int32)) at G_463
      change Ary Z h_459 e_410 .int [(.int x0), (.int x1), (.int x2), (.int (0 : Int32)), (.int (0 : Int32)), (.int (0 : Int32)), (.int (0 : Int32)), (.int (0 : Int32))] at A_464
      show (Go false l room_1 Z x code maxLocals ret n0 16 128 (fun v h => v = some (.int 1))) h_459 (0 + 1 + 1 + 0 + 0 + 0) (0 + 2 + 8 + 0 + 0 + 0) 63 #[.val (.int x0), .val (.int x1), .val (.int x2), .val (.int x3), .val (.int k0), .val (.int j0), .val (.int (3 : Int32)), .val (.int (0 : Int32)), .val (.ref a_397), .unset, .unset] []
      refine Go.iload (pc' := 65) at_63 rfl rfl ?_
      refine Go.ifc (pc1 := 80) (pc2 := 68) at_65 (by decide) (by decide) rfl (fun (c_474 : (0 : Int) = 0) => ?_) (fun (c_474 : (0 : Int) ≠ 0) => ?_)
      rotate_left
      · exact absurd c_474 (by decide)
      refine Go.iload (pc' := 82) at_80 rfl rfl ?_
      refine Go.ldcI (pc' := 84) (hw _ (List.mem_of_getElem? (i := 19) rfl)) at_82 rfl ?_
      refine Go.iand (pc' := 85) at_84 rfl ?_
      refine Go.iload (pc' := 87) at_85 rfl rfl ?_
      refine Go.irem (pc' := 88) at_87 (by decide) rfl ?_
      generalize ei_475 : (j0 &&& (2147483647 : Int32)) % (3 : Int32) = i_475
      have k_476 : i_475.toInt = 0 ∨ i_475.toInt = 1 ∨ i_475.toInt = 2 := by
        rw [← ei_475]
        have : (2147483647 : Int32).toInt = 2147483647 := by decide
        have := c_mask j0 (2147483647 : Int32) 31 (by decide) (by decide)
        have := rng32 (j0 &&& (2147483647 : Int32))
        have := rng32 j0
        have : (3 : Int32).toInt = 3 := by decide
        have := c_irem (j0 &&& (2147483647 : Int32)) (3 : Int32) 3 (by decide)
        have := rng32 ((j0 &&& (2147483647 : Int32)) % (3 : Int32))
        omega
      clear ei_475
      rcases k_476 with k_476 | k_476 | k_476
      · obtain rfl : i_475 = (0 : Int32) := Int32.toInt_inj.mp k_476
        refine Go.istore (pc' := 90) (Ls' := #[.val (.int x0), .val (.int x1), .val (.int x2), .val (.int x3), .val (.int k0), .val (.int j0), .val (.int (3 : Int32)), .val (.int (0 : Int32)), .val (.ref a_397), .val (.int (0 : Int32)), .unset]) at_88 rfl rfl ?_
        refine Go.iload (pc' := 92) at_90 rfl rfl ?_
        refine Go.ifc (pc1 := 101) (pc2 := 95) at_92 (by decide) (by decide) rfl (fun (c_477 : (0 : Int) ≠ 0) => ?_) (fun (c_477 : (0 : Int) = 0) => ?_)
        · exact absurd c_477 (by decide)
        refine Go.iloadN (pc' := 96) at_95 rfl rfl ?_
        refine Go.istore (pc' := 98) (Ls' := #[.val (.int x0), .val (.int x1), .val (.int x2), .val (.int x3), .val (.int k0), .val (.int j0), .val (.int (3 : Int32)), .val (.int (0 : Int32)), .val (.ref a_397), .val (.int (0 : Int32)), .val (.int x0)]) at_96 rfl rfl ?_
        refine Go.goto (pc' := 116) at_98 (by decide) (by decide) ?_
        refine Go.iload (pc' := 118) at_116 rfl rfl ?_
        refine Go.ifc (pc1 := 133) (pc2 := 121) at_118 (by decide) (by decide) rfl (fun (c_478 : (0 : Int) = 0) => ?_) (fun (c_478 : (0 : Int) ≠ 0) => ?_)
        rotate_left
        · exact absurd c_478 (by decide)
        refine Go.aload (pc' := 135) at_133 rfl rfl rfl ?_
        refine Go.iload (pc' := 137) at_135 rfl rfl ?_
        refine Go.callV (pc' := 140) (argsL := [(.int (0 : Int32))]) (rest := []) (W := 0) (hw _ (List.mem_of_getElem? (i := 20) rfl)) (hw _ (List.mem_of_getElem? (i := 21) rfl)) (hw _ (List.mem_of_getElem? (i := 23) rfl)) (hw _ (List.mem_of_getElem? (i := 22) rfl)) (hw _ (List.mem_of_getElem? (i := 2) rfl)) (hw _ (List.mem_of_getElem? (i := 24) rfl)) (by decide) f_465 (m_g l Z a0 hw a_397 e_410 (0 : Int32) (3 : Int32) x0 0 [(.int x0), (.int x1), (.int x2), (.int (0 : Int32)), (.int (0 : Int32)), (.int (0 : Int32)), (.int (0 : Int32)), (.int (0 : Int32))] h_459 n0 z_472 f_465 F_462 G_463 A_464 f_466 rfl rfl) at_137 rfl pd2 rfl rfl (Nat.le_of_eq rfl) (by decide) (by decide) (by decide) (by decide) rfl ?_
        rintro _ _ ⟨rfl, rfl⟩
        show (Go false l room_1 Z x code maxLocals ret n0 16 128 (fun v h => v = some (.int 1))) h_459 (0 + 1 + 1 + 0 + 0 + 0 + 0) (0 + 2 + 8 + 0 + 0 + 0 + 0) 140 #[.val (.int x0), .val (.int x1), .val (.int x2), .val (.int x3), .val (.int k0), .val (.int j0), .val (.int (3 : Int32)), .val (.int (0 : Int32)), .val (.ref a_397), .val (.int (0 : Int32)), .val (.int x0)] [(.int x0)]
        refine Go.iload (pc' := 142) at_140 rfl rfl ?_
        refine Go.icmp (pc1 := 159) (pc2 := 145) at_142 (by decide) (by decide) rfl (fun (c_479 : x0.toInt ≠ x0.toInt) => ?_) (fun (c_479 : x0.toInt = x0.toInt) => ?_)
        · exact absurd rfl c_479
        refine Go.aload (pc' := 147) at_145 rfl rfl rfl ?_
        refine Go.callV (pc' := 150) (argsL := []) (rest := []) (W := 0) (hw _ (List.mem_of_getElem? (i := 27) rfl)) (hw _ (List.mem_of_getElem? (i := 28) rfl)) (hw _ (List.mem_of_getElem? (i := 30) rfl)) (hw _ (List.mem_of_getElem? (i := 29) rfl)) (hw _ (List.mem_of_getElem? (i := 2) rfl)) (hw _ (List.mem_of_getElem? (i := 31) rfl)) (by decide) f_465 (m_s l Z a0 hw a_397 (3 : Int32) h_459 n0 z_472 G_463) at_147 rfl pd3 rfl rfl (Nat.le_of_eq rfl) (by decide) (by decide) (by decide) (by decide) rfl ?_
        rintro _ _ ⟨rfl, rfl⟩
        show (Go false l room_1 Z x code maxLocals ret n0 16 128 (fun v h => v = some (.int 1))) h_459 (0 + 1 + 1 + 0 + 0 + 0 + 0 + 0) (0 + 2 + 8 + 0 + 0 + 0 + 0 + 0) 150 #[.val (.int x0), .val (.int x1), .val (.int x2), .val (.int x3), .val (.int k0), .val (.int j0), .val (.int (3 : Int32)), .val (.int (0 : Int32)), .val (.ref a_397), .val (.int (0 : Int32)), .val (.int x0)] [(.int (3 : Int32))]
        refine Go.iload (pc' := 152) at_150 rfl rfl ?_
        refine Go.icmp (pc1 := 159) (pc2 := 155) at_152 (by decide) (by decide) rfl (fun (c_480 : (3 : Int) ≠ (3 : Int)) => ?_) (fun (c_480 : (3 : Int) = (3 : Int)) => ?_)
        · exact absurd c_480 (by decide)
        refine Go.iconst (pc' := 156) (v := (1 : Int32)) at_155 rfl rfl ?_
        refine Go.goto (pc' := 160) at_156 (by decide) (by decide) ?_
        exact Go.retN (t := .boolean) at_160 rfl (by simp) rfl rfl (by decide) (by decide)
      · obtain rfl : i_475 = (1 : Int32) := Int32.toInt_inj.mp k_476
        refine Go.istore (pc' := 90) (Ls' := #[.val (.int x0), .val (.int x1), .val (.int x2), .val (.int x3), .val (.int k0), .val (.int j0), .val (.int (3 : Int32)), .val (.int (0 : Int32)), .val (.ref a_397), .val (.int (1 : Int32)), .unset]) at_88 rfl rfl ?_
        refine Go.iload (pc' := 92) at_90 rfl rfl ?_
        refine Go.ifc (pc1 := 101) (pc2 := 95) at_92 (by decide) (by decide) rfl (fun (c_481 : (1 : Int) ≠ 0) => ?_) (fun (c_481 : (1 : Int) = 0) => ?_)
        rotate_left
        · exact absurd c_481 (by decide)
        refine Go.iload (pc' := 103) at_101 rfl rfl ?_
        refine Go.iconst (pc' := 104) (v := (1 : Int32)) at_103 rfl rfl ?_
        refine Go.icmp (pc1 := 113) (pc2 := 107) at_104 (by decide) (by decide) rfl (fun (c_482 : (1 : Int) ≠ (1 : Int)) => ?_) (fun (c_482 : (1 : Int) = (1 : Int)) => ?_)
        · exact absurd c_482 (by decide)
        refine Go.iloadN (pc' := 108) at_107 rfl rfl ?_
        refine Go.istore (pc' := 110) (Ls' := #[.val (.int x0), .val (.int x1), .val (.int x2), .val (.int x3), .val (.int k0), .val (.int j0), .val (.int (3 : Int32)), .val (.int (0 : Int32)), .val (.ref a_397), .val (.int (1 : Int32)), .val (.int x1)]) at_108 rfl rfl ?_
        refine Go.goto (pc' := 116) at_110 (by decide) (by decide) ?_
        refine Go.iload (pc' := 118) at_116 rfl rfl ?_
        refine Go.ifc (pc1 := 133) (pc2 := 121) at_118 (by decide) (by decide) rfl (fun (c_483 : (0 : Int) = 0) => ?_) (fun (c_483 : (0 : Int) ≠ 0) => ?_)
        rotate_left
        · exact absurd c_483 (by decide)
        refine Go.aload (pc' := 135) at_133 rfl rfl rfl ?_
        refine Go.iload (pc' := 137) at_135 rfl rfl ?_
        refine Go.callV (pc' := 140) (argsL := [(.int (1 : Int32))]) (rest := []) (W := 0) (hw _ (List.mem_of_getElem? (i := 20) rfl)) (hw _ (List.mem_of_getElem? (i := 21) rfl)) (hw _ (List.mem_of_getElem? (i := 23) rfl)) (hw _ (List.mem_of_getElem? (i := 22) rfl)) (hw _ (List.mem_of_getElem? (i := 2) rfl)) (hw _ (List.mem_of_getElem? (i := 24) rfl)) (by decide) f_465 (m_g l Z a0 hw a_397 e_410 (1 : Int32) (3 : Int32) x1 1 [(.int x0), (.int x1), (.int x2), (.int (0 : Int32)), (.int (0 : Int32)), (.int (0 : Int32)), (.int (0 : Int32)), (.int (0 : Int32))] h_459 n0 z_472 f_465 F_462 G_463 A_464 f_466 rfl rfl) at_137 rfl pd2 rfl rfl (Nat.le_of_eq rfl) (by decide) (by decide) (by decide) (by decide) rfl ?_
        rintro _ _ ⟨rfl, rfl⟩
        show (Go false l room_1 Z x code maxLocals ret n0 16 128 (fun v h => v = some (.int 1))) h_459 (0 + 1 + 1 + 0 + 0 + 0 + 0) (0 + 2 + 8 + 0 + 0 + 0 + 0) 140 #[.val (.int x0), .val (.int x1), .val (.int x2), .val (.int x3), .val (.int k0), .val (.int j0), .val (.int (3 : Int32)), .val (.int (0 : Int32)), .val (.ref a_397), .val (.int (1 : Int32)), .val (.int x1)] [(.int x1)]
        refine Go.iload (pc' := 142) at_140 rfl rfl ?_
        refine Go.icmp (pc1 := 159) (pc2 := 145) at_142 (by decide) (by decide) rfl (fun (c_484 : x1.toInt ≠ x1.toInt) => ?_) (fun (c_484 : x1.toInt = x1.toInt) => ?_)
        · exact absurd rfl c_484
        refine Go.aload (pc' := 147) at_145 rfl rfl rfl ?_
        refine Go.callV (pc' := 150) (argsL := []) (rest := []) (W := 0) (hw _ (List.mem_of_getElem? (i := 27) rfl)) (hw _ (List.mem_of_getElem? (i := 28) rfl)) (hw _ (List.mem_of_getElem? (i := 30) rfl)) (hw _ (List.mem_of_getElem? (i := 29) rfl)) (hw _ (List.mem_of_getElem? (i := 2) rfl)) (hw _ (List.mem_of_getElem? (i := 31) rfl)) (by decide) f_465 (m_s l Z a0 hw a_397 (3 : Int32) h_459 n0 z_472 G_463) at_147 rfl pd3 rfl rfl (Nat.le_of_eq rfl) (by decide) (by decide) (by decide) (by decide) rfl ?_
        rintro _ _ ⟨rfl, rfl⟩
        show (Go false l room_1 Z x code maxLocals ret n0 16 128 (fun v h => v = some (.int 1))) h_459 (0 + 1 + 1 + 0 + 0 + 0 + 0 + 0) (0 + 2 + 8 + 0 + 0 + 0 + 0 + 0) 150 #[.val (.int x0), .val (.int x1), .val (.int x2), .val (.int x3), .val (.int k0), .val (.int j0), .val (.int (3 : Int32)), .val (.int (0 : Int32)), .val (.ref a_397), .val (.int (1 : Int32)), .val (.int x1)] [(.int (3 : Int32))]
        refine Go.iload (pc' := 152) at_150 rfl rfl ?_
        refine Go.icmp (pc1 := 159) (pc2 := 155) at_152 (by decide) (by decide) rfl (fun (c_485 : (3 : Int) ≠ (3 : Int)) => ?_) (fun (c_485 : (3 : Int) = (3 : Int)) => ?_)
        · exact absurd c_485 (by decide)
        refine Go.iconst (pc' := 156) (v := (1 : Int32)) at_155 rfl rfl ?_
        refine Go.goto (pc' := 160) at_156 (by decide) (by decide) ?_
        exact Go.retN (t := .boolean) at_160 rfl (by simp) rfl rfl (by decide) (by decide)
      · obtain rfl : i_475 = (2 : Int32) := Int32.toInt_inj.mp k_476
        refine Go.istore (pc' := 90) (Ls' := #[.val (.int x0), .val (.int x1), .val (.int x2), .val (.int x3), .val (.int k0), .val (.int j0), .val (.int (3 : Int32)), .val (.int (0 : Int32)), .val (.ref a_397), .val (.int (2 : Int32)), .unset]) at_88 rfl rfl ?_
        refine Go.iload (pc' := 92) at_90 rfl rfl ?_
        refine Go.ifc (pc1 := 101) (pc2 := 95) at_92 (by decide) (by decide) rfl (fun (c_486 : (2 : Int) ≠ 0) => ?_) (fun (c_486 : (2 : Int) = 0) => ?_)
        rotate_left
        · exact absurd c_486 (by decide)
        refine Go.iload (pc' := 103) at_101 rfl rfl ?_
        refine Go.iconst (pc' := 104) (v := (1 : Int32)) at_103 rfl rfl ?_
        refine Go.icmp (pc1 := 113) (pc2 := 107) at_104 (by decide) (by decide) rfl (fun (c_487 : (2 : Int) ≠ (1 : Int)) => ?_) (fun (c_487 : (2 : Int) = (1 : Int)) => ?_)
        rotate_left
        · exact absurd c_487 (by decide)
        refine Go.iloadN (pc' := 114) at_113 rfl rfl ?_
        refine Go.istore (pc' := 116) (Ls' := #[.val (.int x0), .val (.int x1), .val (.int x2), .val (.int x3), .val (.int k0), .val (.int j0), .val (.int (3 : Int32)), .val (.int (0 : Int32)), .val (.ref a_397), .val (.int (2 : Int32)), .val (.int x2)]) at_114 rfl rfl ?_
        refine Go.iload (pc' := 118) at_116 rfl rfl ?_
        refine Go.ifc (pc1 := 133) (pc2 := 121) at_118 (by decide) (by decide) rfl (fun (c_488 : (0 : Int) = 0) => ?_) (fun (c_488 : (0 : Int) ≠ 0) => ?_)
        rotate_left
        · exact absurd c_488 (by decide)
        refine Go.aload (pc' := 135) at_133 rfl rfl rfl ?_
        refine Go.iload (pc' := 137) at_135 rfl rfl ?_
        refine Go.callV (pc' := 140) (argsL := [(.int (2 : Int32))]) (rest := []) (W := 0) (hw _ (List.mem_of_getElem? (i := 20) rfl)) (hw _ (List.mem_of_getElem? (i := 21) rfl)) (hw _ (List.mem_of_getElem? (i := 23) rfl)) (hw _ (List.mem_of_getElem? (i := 22) rfl)) (hw _ (List.mem_of_getElem? (i := 2) rfl)) (hw _ (List.mem_of_getElem? (i := 24) rfl)) (by decide) f_465 (m_g l Z a0 hw a_397 e_410 (2 : Int32) (3 : Int32) x2 2 [(.int x0), (.int x1), (.int x2), (.int (0 : Int32)), (.int (0 : Int32)), (.int (0 : Int32)), (.int (0 : Int32)), (.int (0 : Int32))] h_459 n0 z_472 f_465 F_462 G_463 A_464 f_466 rfl rfl) at_137 rfl pd2 rfl rfl (Nat.le_of_eq rfl) (by decide) (by decide) (by decide) (by decide) rfl ?_
        rintro _ _ ⟨rfl, rfl⟩
        show (Go false l room_1 Z x code maxLocals ret n0 16 128 (fun v h => v = some (.int 1))) h_459 (0 + 1 + 1 + 0 + 0 + 0 + 0) (0 + 2 + 8 + 0 + 0 + 0 + 0) 140 #[.val (.int x0), .val (.int x1), .val (.int x2), .val (.int x3), .val (.int k0), .val (.int j0), .val (.int (3 : Int32)), .val (.int (0 : Int32)), .val (.ref a_397), .val (.int (2 : Int32)), .val (.int x2)] [(.int x2)]
        refine Go.iload (pc' := 142) at_140 rfl rfl ?_
        refine Go.icmp (pc1 := 159) (pc2 := 145) at_142 (by decide) (by decide) rfl (fun (c_489 : x2.toInt ≠ x2.toInt) => ?_) (fun (c_489 : x2.toInt = x2.toInt) => ?_)
        · exact absurd rfl c_489
        refine Go.aload (pc' := 147) at_145 rfl rfl rfl ?_
        refine Go.callV (pc' := 150) (argsL := []) (rest := []) (W := 0) (hw _ (List.mem_of_getElem? (i := 27) rfl)) (hw _ (List.mem_of_getElem? (i := 28) rfl)) (hw _ (List.mem_of_getElem? (i := 30) rfl)) (hw _ (List.mem_of_getElem? (i := 29) rfl)) (hw _ (List.mem_of_getElem? (i := 2) rfl)) (hw _ (List.mem_of_getElem? (i := 31) rfl)) (by decide) f_465 (m_s l Z a0 hw a_397 (3 : Int32) h_459 n0 z_472 G_463) at_147 rfl pd3 rfl rfl (Nat.le_of_eq rfl) (by decide) (by decide) (by decide) (by decide) rfl ?_
        rintro _ _ ⟨rfl, rfl⟩
        show (Go false l room_1 Z x code maxLocals ret n0 16 128 (fun v h => v = some (.int 1))) h_459 (0 + 1 + 1 + 0 + 0 + 0 + 0 + 0) (0 + 2 + 8 + 0 + 0 + 0 + 0 + 0) 150 #[.val (.int x0), .val (.int x1), .val (.int x2), .val (.int x3), .val (.int k0), .val (.int j0), .val (.int (3 : Int32)), .val (.int (0 : Int32)), .val (.ref a_397), .val (.int (2 : Int32)), .val (.int x2)] [(.int (3 : Int32))]
        refine Go.iload (pc' := 152) at_150 rfl rfl ?_
        refine Go.icmp (pc1 := 159) (pc2 := 155) at_152 (by decide) (by decide) rfl (fun (c_490 : (3 : Int) ≠ (3 : Int)) => ?_) (fun (c_490 : (3 : Int) = (3 : Int)) => ?_)
        · exact absurd c_490 (by decide)
        refine Go.iconst (pc' := 156) (v := (1 : Int32)) at_155 rfl rfl ?_
        refine Go.goto (pc' := 160) at_156 (by decide) (by decide) ?_
        exact Go.retN (t := .boolean) at_160 rfl (by simp) rfl rfl (by decide) (by decide)
    · refine Go.iconst (pc' := 18) (v := (1 : Int32)) at_17 rfl rfl ?_
      refine Go.goto (pc' := 22) at_18 (by decide) (by decide) ?_
      refine Go.istore (pc' := 24) (Ls' := #[.val (.int x0), .val (.int x1), .val (.int x2), .val (.int x3), .val (.int k0), .val (.int j0), .val (.int (3 : Int32)), .val (.int (1 : Int32)), .unset, .unset, .unset]) at_22 rfl rfl ?_
      refine Go.newO (pc' := 27) (hw _ (List.mem_of_getElem? (i := 0) rfl)) (hw _ (List.mem_of_getElem? (i := 1) rfl)) (hw _ (List.mem_of_getElem? (i := 2) rfl)) at_24 (by decide) (by decide) rfl ?_
      intro h_491 a_492 q_493 E_494 A_495 D_496
      have g_497 : n0 ≤ a_492 := q_493 ▸ z0
      have z_499 : n0 ≤ h_491.size := Nat.le_trans z0 E_494.1
      have O_500 : Old Z n0 h_491 := hO.ext E_494
      have f_498 : Sta Z h_491 "com/example/forward_planner/forwardplanner/heuristic/IntList" "$assertionsDisabled" "Z" (.int (1 : Int32)) := Sta.ext O_500.2 hS
      have t_501 : a_492 < h_491.size := A_495.lt
      have f_502 : Fld Z h_491 a_492 "com/example/forward_planner/forwardplanner/heuristic/IntList" "elements" "[I" .null := D_496 (Or.inl (hw _ (List.mem_of_getElem? (i := 11) rfl))) (ty := (.array .int)) (by decide)
      have f_503 : Fld Z h_491 a_492 "com/example/forward_planner/forwardplanner/heuristic/IntList" "size" "I" (.int (0 : Int32)) := D_496 (Or.inl (hw _ (List.mem_of_getElem? (i := 18) rfl))) (ty := .int) (by decide)
      refine Go.dup (pc' := 28) at_27 rfl rfl ?_
      refine Go.callN (pc' := 31) (argsL := []) (rest := [(.ref a_492)]) (W := 1) rfl (hw _ (List.mem_of_getElem? (i := 3) rfl)) (hw _ (List.mem_of_getElem? (i := 4) rfl)) (hw _ (List.mem_of_getElem? (i := 2) rfl)) (hw _ (List.mem_of_getElem? (i := 5) rfl)) (by decide) (m_i l Z a0 hw a_492 h_491 n0 z_499 A_495 f_502 f_503 g_497) at_28 rfl pd0 rfl rfl (Nat.le_of_eq rfl) (by decide) (by decide) (by decide) (by decide) rfl ?_
      rintro _ h_504 ⟨rfl, e_505, K_506, E_507, F_508, G_509, A_510, q_511, t_512⟩
      have n_513 : a_492 ≠ e_505 := Nat.ne_of_lt (Nat.lt_of_lt_of_le t_501 q_511)
      have g_514 : n0 ≤ e_505 := Nat.le_trans z_499 q_511
      have f_516 : Exa Z h_504 a_492 "com/example/forward_planner/forwardplanner/heuristic/IntList" := A_495.keep K_506
      have t_519 : a_492 < h_504.size := Nat.lt_of_lt_of_le t_501 K_506.1
      have z_520 : n0 ≤ h_504.size := Nat.le_trans z_499 K_506.1
      have O_521 : Old Z n0 h_504 := O_500.keep K_506 (allS g_497 all0)
      have f_515 : Sta Z h_504 "com/example/forward_planner/forwardplanner/heuristic/IntList" "$assertionsDisabled" "Z" (.int (1 : Int32)) := Sta.ext O_521.2 hS
      show (Go false l room_1 Z x code maxLocals ret n0 16 128 (fun v h => v = some (.int 1))) h_504 (0 + 1 + 1) (0 + 2 + 8) 31 #[.val (.int x0), .val (.int x1), .val (.int x2), .val (.int x3), .val (.int k0), .val (.int j0), .val (.int (3 : Int32)), .val (.int (1 : Int32)), .unset, .unset, .unset] [(.ref a_492)]
      refine Go.astore (pc' := 33) (Ls' := #[.val (.int x0), .val (.int x1), .val (.int x2), .val (.int x3), .val (.int k0), .val (.int j0), .val (.int (3 : Int32)), .val (.int (1 : Int32)), .val (.ref a_492), .unset, .unset]) at_31 rfl rfl rfl ?_
      refine Go.aload (pc' := 35) at_33 rfl rfl rfl ?_
      refine Go.iloadN (pc' := 36) at_35 rfl rfl ?_
      refine Go.callV (pc' := 39) (argsL := [(.int x0)]) (rest := []) (W := 0) (hw _ (List.mem_of_getElem? (i := 12) rfl)) (hw _ (List.mem_of_getElem? (i := 13) rfl)) (hw _ (List.mem_of_getElem? (i := 15) rfl)) (hw _ (List.mem_of_getElem? (i := 14) rfl)) (hw _ (List.mem_of_getElem? (i := 2) rfl)) (hw _ (List.mem_of_getElem? (i := 16) rfl)) (by decide) f_516 (m_a l Z a0 hw a_492 e_505 x0 (0 : Int32) 0 [(.int (0 : Int32)), (.int (0 : Int32)), (.int (0 : Int32)), (.int (0 : Int32)), (.int (0 : Int32)), (.int (0 : Int32)), (.int (0 : Int32)), (.int (0 : Int32))] h_504 n0 z_520 f_516 F_508 G_509 A_510 rfl (by decide) rfl n_513 g_497 g_514) at_36 rfl pd1 rfl rfl (Nat.le_of_eq rfl) (by decide) (by decide) (by decide) (by decide) rfl ?_
      rintro _ h_522 ⟨rfl, K_523, E_524, F_525, G_526, A_527⟩
      have f_528 : Exa Z h_522 a_492 "com/example/forward_planner/forwardplanner/heuristic/IntList" := f_516.keep K_523
      have t_533 : a_492 < h_522.size := Nat.lt_of_lt_of_le t_519 K_523.1
      have t_534 : e_505 < h_522.size := Nat.lt_of_lt_of_le t_512 K_523.1
      have z_535 : n0 ≤ h_522.size := Nat.le_trans z_520 K_523.1
      have O_536 : Old Z n0 h_522 := O_521.keep K_523 (allS g_497 (allS g_514 all0))
      have f_529 : Sta Z h_522 "com/example/forward_planner/forwardplanner/heuristic/IntList" "$assertionsDisabled" "Z" (.int (1 : Int32)) := Sta.ext O_536.2 hS
      change Fld Z h_522 a_492 "com/example/forward_planner/forwardplanner/heuristic/IntList" "size" "I" (.int (1 : Int32)) at G_526
      change Ary Z h_522 e_505 .int [(.int x0), (.int (0 : Int32)), (.int (0 : Int32)), (.int (0 : Int32)), (.int (0 : Int32)), (.int (0 : Int32)), (.int (0 : Int32)), (.int (0 : Int32))] at A_527
      show (Go false l room_1 Z x code maxLocals ret n0 16 128 (fun v h => v = some (.int 1))) h_522 (0 + 1 + 1 + 0) (0 + 2 + 8 + 0) 39 #[.val (.int x0), .val (.int x1), .val (.int x2), .val (.int x3), .val (.int k0), .val (.int j0), .val (.int (3 : Int32)), .val (.int (1 : Int32)), .val (.ref a_492), .unset, .unset] []
      refine Go.iload (pc' := 41) at_39 rfl rfl ?_
      refine Go.iconst (pc' := 42) (v := (2 : Int32)) at_41 rfl rfl ?_
      refine Go.icmp (pc1 := 51) (pc2 := 45) at_42 (by decide) (by decide) rfl (fun (c_537 : (3 : Int) < (2 : Int)) => ?_) (fun (c_537 : (2 : Int) ≤ (3 : Int)) => ?_)
      · exact absurd c_537 (by decide)
      refine Go.aload (pc' := 47) at_45 rfl rfl rfl ?_
      refine Go.iloadN (pc' := 48) at_47 rfl rfl ?_
      refine Go.callV (pc' := 51) (argsL := [(.int x1)]) (rest := []) (W := 0) (hw _ (List.mem_of_getElem? (i := 12) rfl)) (hw _ (List.mem_of_getElem? (i := 13) rfl)) (hw _ (List.mem_of_getElem? (i := 15) rfl)) (hw _ (List.mem_of_getElem? (i := 14) rfl)) (hw _ (List.mem_of_getElem? (i := 2) rfl)) (hw _ (List.mem_of_getElem? (i := 16) rfl)) (by decide) f_528 (m_a l Z a0 hw a_492 e_505 x1 (1 : Int32) 1 [(.int x0), (.int (0 : Int32)), (.int (0 : Int32)), (.int (0 : Int32)), (.int (0 : Int32)), (.int (0 : Int32)), (.int (0 : Int32)), (.int (0 : Int32))] h_522 n0 z_535 f_528 F_525 G_526 A_527 rfl (by decide) rfl n_513 g_497 g_514) at_48 rfl pd1 rfl rfl (Nat.le_of_eq rfl) (by decide) (by decide) (by decide) (by decide) rfl ?_
      rintro _ h_538 ⟨rfl, K_539, E_540, F_541, G_542, A_543⟩
      have f_544 : Exa Z h_538 a_492 "com/example/forward_planner/forwardplanner/heuristic/IntList" := f_528.keep K_539
      have t_549 : a_492 < h_538.size := Nat.lt_of_lt_of_le t_533 K_539.1
      have t_550 : e_505 < h_538.size := Nat.lt_of_lt_of_le t_534 K_539.1
      have z_551 : n0 ≤ h_538.size := Nat.le_trans z_535 K_539.1
      have O_552 : Old Z n0 h_538 := O_536.keep K_539 (allS g_497 (allS g_514 all0))
      have f_545 : Sta Z h_538 "com/example/forward_planner/forwardplanner/heuristic/IntList" "$assertionsDisabled" "Z" (.int (1 : Int32)) := Sta.ext O_552.2 hS
      change Fld Z h_538 a_492 "com/example/forward_planner/forwardplanner/heuristic/IntList" "size" "I" (.int (2 : Int32)) at G_542
      change Ary Z h_538 e_505 .int [(.int x0), (.int x1), (.int (0 : Int32)), (.int (0 : Int32)), (.int (0 : Int32)), (.int (0 : Int32)), (.int (0 : Int32)), (.int (0 : Int32))] at A_543
      show (Go false l room_1 Z x code maxLocals ret n0 16 128 (fun v h => v = some (.int 1))) h_538 (0 + 1 + 1 + 0 + 0) (0 + 2 + 8 + 0 + 0) 51 #[.val (.int x0), .val (.int x1), .val (.int x2), .val (.int x3), .val (.int k0), .val (.int j0), .val (.int (3 : Int32)), .val (.int (1 : Int32)), .val (.ref a_492), .unset, .unset] []
      refine Go.iload (pc' := 53) at_51 rfl rfl ?_
      refine Go.iconst (pc' := 54) (v := (3 : Int32)) at_53 rfl rfl ?_
      refine Go.icmp (pc1 := 63) (pc2 := 57) at_54 (by decide) (by decide) rfl (fun (c_553 : (3 : Int) < (3 : Int)) => ?_) (fun (c_553 : (3 : Int) ≤ (3 : Int)) => ?_)
      · exact absurd c_553 (by decide)
      refine Go.aload (pc' := 59) at_57 rfl rfl rfl ?_
      refine Go.iloadN (pc' := 60) at_59 rfl rfl ?_
      refine Go.callV (pc' := 63) (argsL := [(.int x2)]) (rest := []) (W := 0) (hw _ (List.mem_of_getElem? (i := 12) rfl)) (hw _ (List.mem_of_getElem? (i := 13) rfl)) (hw _ (List.mem_of_getElem? (i := 15) rfl)) (hw _ (List.mem_of_getElem? (i := 14) rfl)) (hw _ (List.mem_of_getElem? (i := 2) rfl)) (hw _ (List.mem_of_getElem? (i := 16) rfl)) (by decide) f_544 (m_a l Z a0 hw a_492 e_505 x2 (2 : Int32) 2 [(.int x0), (.int x1), (.int (0 : Int32)), (.int (0 : Int32)), (.int (0 : Int32)), (.int (0 : Int32)), (.int (0 : Int32)), (.int (0 : Int32))] h_538 n0 z_551 f_544 F_541 G_542 A_543 rfl (by decide) rfl n_513 g_497 g_514) at_60 rfl pd1 rfl rfl (Nat.le_of_eq rfl) (by decide) (by decide) (by decide) (by decide) rfl ?_
      rintro _ h_554 ⟨rfl, K_555, E_556, F_557, G_558, A_559⟩
      have f_560 : Exa Z h_554 a_492 "com/example/forward_planner/forwardplanner/heuristic/IntList" := f_544.keep K_555
      have t_565 : a_492 < h_554.size := Nat.lt_of_lt_of_le t_549 K_555.1
      have t_566 : e_505 < h_554.size := Nat.lt_of_lt_of_le t_550 K_555.1
      have z_567 : n0 ≤ h_554.size := Nat.le_trans z_551 K_555.1
      have O_568 : Old Z n0 h_554 := O_552.keep K_555 (allS g_497 (allS g_514 all0))
      have f_561 : Sta Z h_554 "com/example/forward_planner/forwardplanner/heuristic/IntList" "$assertionsDisabled" "Z" (.int (1 : Int32)) := Sta.ext O_568.2 hS
      change Fld Z h_554 a_492 "com/example/forward_planner/forwardplanner/heuristic/IntList" "size" "I" (.int (3 : Int32)) at G_558
      change Ary Z h_554 e_505 .int [(.int x0), (.int x1), (.int x2), (.int (0 : Int32)), (.int (0 : Int32)), (.int (0 : Int32)), (.int (0 : Int32)), (.int (0 : Int32))] at A_559
      show (Go false l room_1 Z x code maxLocals ret n0 16 128 (fun v h => v = some (.int 1))) h_554 (0 + 1 + 1 + 0 + 0 + 0) (0 + 2 + 8 + 0 + 0 + 0) 63 #[.val (.int x0), .val (.int x1), .val (.int x2), .val (.int x3), .val (.int k0), .val (.int j0), .val (.int (3 : Int32)), .val (.int (1 : Int32)), .val (.ref a_492), .unset, .unset] []
      refine Go.iload (pc' := 65) at_63 rfl rfl ?_
      refine Go.ifc (pc1 := 80) (pc2 := 68) at_65 (by decide) (by decide) rfl (fun (c_569 : (1 : Int) = 0) => ?_) (fun (c_569 : (1 : Int) ≠ 0) => ?_)
      · exact absurd c_569 (by decide)
      refine Go.aload (pc' := 70) at_68 rfl rfl rfl ?_
      refine Go.callV (pc' := 73) (argsL := []) (rest := []) (W := 0) (hw _ (List.mem_of_getElem? (i := 32) rfl)) (hw _ (List.mem_of_getElem? (i := 33) rfl)) (hw _ (List.mem_of_getElem? (i := 35) rfl)) (hw _ (List.mem_of_getElem? (i := 34) rfl)) (hw _ (List.mem_of_getElem? (i := 2) rfl)) (hw _ (List.mem_of_getElem? (i := 36) rfl)) (by decide) f_560 (m_r l Z a0 hw a_492 e_505 (3 : Int32) x2 2 [(.int x0), (.int x1), (.int x2), (.int (0 : Int32)), (.int (0 : Int32)), (.int (0 : Int32)), (.int (0 : Int32)), (.int (0 : Int32))] h_554 n0 z_567 f_560 F_557 G_558 A_559 f_561 rfl rfl n_513 g_497 g_514) at_70 rfl pd3 rfl rfl (Nat.le_of_eq rfl) (by decide) (by decide) (by decide) (by decide) rfl ?_
      rintro _ h_570 ⟨rfl, K_571, E_572, F_573, G_574, A_575⟩
      have f_576 : Exa Z h_570 a_492 "com/example/forward_planner/forwardplanner/heuristic/IntList" := f_560.keep K_571
      have f_580 : Ary Z h_570 e_505 .int [(.int x0), (.int x1), (.int x2), (.int (0 : Int32)), (.int (0 : Int32)), (.int (0 : Int32)), (.int (0 : Int32)), (.int (0 : Int32))] := A_559.sm (Sm.keep K_571 (ninS n_513.symm nin0))
      have t_581 : a_492 < h_570.size := Nat.lt_of_lt_of_le t_565 K_571.1
      have t_582 : e_505 < h_570.size := Nat.lt_of_lt_of_le t_566 K_571.1
      have z_583 : n0 ≤ h_570.size := Nat.le_trans z_567 K_571.1
      have O_584 : Old Z n0 h_570 := O_568.keep K_571 (allS g_497 all0)
      have f_577 : Sta Z h_570 "com/example/forward_planner/forwardplanner/heuristic/IntList" "$assertionsDisabled" "Z" (.int (1 : Int32)) := Sta.ext O_584.2 hS
      change Fld Z h_570 a_492 "com/example/forward_planner/forwardplanner/heuristic/IntList" "size" "I" (.int (2 : Int32)) at G_574
      show (Go false l room_1 Z x code maxLocals ret n0 16 128 (fun v h => v = some (.int 1))) h_570 (0 + 1 + 1 + 0 + 0 + 0 + 0) (0 + 2 + 8 + 0 + 0 + 0 + 0) 73 #[.val (.int x0), .val (.int x1), .val (.int x2), .val (.int x3), .val (.int k0), .val (.int j0), .val (.int (3 : Int32)), .val (.int (1 : Int32)), .val (.ref a_492), .unset, .unset] [(.int x2)]
      refine Go.pop (pc' := 74) at_73 rfl rfl ?_
      refine Go.aload (pc' := 76) at_74 rfl rfl rfl ?_
      refine Go.iloadN (pc' := 77) at_76 rfl rfl ?_
      refine Go.callV (pc' := 80) (argsL := [(.int x3)]) (rest := []) (W := 0) (hw _ (List.mem_of_getElem? (i := 12) rfl)) (hw _ (List.mem_of_getElem? (i := 13) rfl)) (hw _ (List.mem_of_getElem? (i := 15) rfl)) (hw _ (List.mem_of_getElem? (i := 14) rfl)) (hw _ (List.mem_of_getElem? (i := 2) rfl)) (hw _ (List.mem_of_getElem? (i := 16) rfl)) (by decide) f_576 (m_a l Z a0 hw a_492 e_505 x3 (2 : Int32) 2 [(.int x0), (.int x1), (.int x2), (.int (0 : Int32)), (.int (0 : Int32)), (.int (0 : Int32)), (.int (0 : Int32)), (.int (0 : Int32))] h_570 n0 z_583 f_576 F_573 G_574 f_580 rfl (by decide) rfl n_513 g_497 g_514) at_77 rfl pd1 rfl rfl (Nat.le_of_eq rfl) (by decide) (by decide) (by decide) (by decide) rfl ?_
      rintro _ h_585 ⟨rfl, K_586, E_587, F_588, G_589, A_590⟩
      have f_591 : Exa Z h_585 a_492 "com/example/forward_planner/forwardplanner/heuristic/IntList" := f_576.keep K_586
      have t_596 : a_492 < h_585.size := Nat.lt_of_lt_of_le t_581 K_586.1
      have t_597 : e_505 < h_585.size := Nat.lt_of_lt_of_le t_582 K_586.1
      have z_598 : n0 ≤ h_585.size := Nat.le_trans z_583 K_586.1
      have O_599 : Old Z n0 h_585 := O_584.keep K_586 (allS g_497 (allS g_514 all0))
      have f_593 : Sta Z h_585 "com/example/forward_planner/forwardplanner/heuristic/IntList" "$assertionsDisabled" "Z" (.int (1 : Int32)) := Sta.ext O_599.2 hS
      change Fld Z h_585 a_492 "com/example/forward_planner/forwardplanner/heuristic/IntList" "size" "I" (.int (3 : Int32)) at G_589
      change Ary Z h_585 e_505 .int [(.int x0), (.int x1), (.int x3), (.int (0 : Int32)), (.int (0 : Int32)), (.int (0 : Int32)), (.int (0 : Int32)), (.int (0 : Int32))] at A_590
      show (Go false l room_1 Z x code maxLocals ret n0 16 128 (fun v h => v = some (.int 1))) h_585 (0 + 1 + 1 + 0 + 0 + 0 + 0 + 0) (0 + 2 + 8 + 0 + 0 + 0 + 0 + 0) 80 #[.val (.int x0), .val (.int x1), .val (.int x2), .val (.int x3), .val (.int k0), .val (.int j0), .val (.int (3 : Int32)), .val (.int (1 : Int32)), .val (.ref a_492), .unset, .unset] []
      refine Go.iload (pc' := 82) at_80 rfl rfl ?_
      refine Go.ldcI (pc' := 84) (hw _ (List.mem_of_getElem? (i := 19) rfl)) at_82 rfl ?_
      refine Go.iand (pc' := 85) at_84 rfl ?_
      refine Go.iload (pc' := 87) at_85 rfl rfl ?_
      refine Go.irem (pc' := 88) at_87 (by decide) rfl ?_
      generalize ei_600 : (j0 &&& (2147483647 : Int32)) % (3 : Int32) = i_600
      have k_601 : i_600.toInt = 0 ∨ i_600.toInt = 1 ∨ i_600.toInt = 2 := by
        rw [← ei_600]
        have : (2147483647 : Int32).toInt = 2147483647 := by decide
        have := c_mask j0 (2147483647 : Int32) 31 (by decide) (by decide)
        have := rng32 (j0 &&& (2147483647 : Int32))
        have := rng32 j0
        have : (3 : Int32).toInt = 3 := by decide
        have := c_irem (j0 &&& (2147483647 : Int32)) (3 : Int32) 3 (by decide)
        have := rng32 ((j0 &&& (2147483647 : Int32)) % (3 : Int32))
        omega
      clear ei_600
      rcases k_601 with k_601 | k_601 | k_601
      · obtain rfl : i_600 = (0 : Int32) := Int32.toInt_inj.mp k_601
        refine Go.istore (pc' := 90) (Ls' := #[.val (.int x0), .val (.int x1), .val (.int x2), .val (.int x3), .val (.int k0), .val (.int j0), .val (.int (3 : Int32)), .val (.int (1 : Int32)), .val (.ref a_492), .val (.int (0 : Int32)), .unset]) at_88 rfl rfl ?_
        refine Go.iload (pc' := 92) at_90 rfl rfl ?_
        refine Go.ifc (pc1 := 101) (pc2 := 95) at_92 (by decide) (by decide) rfl (fun (c_602 : (0 : Int) ≠ 0) => ?_) (fun (c_602 : (0 : Int) = 0) => ?_)
        · exact absurd c_602 (by decide)
        refine Go.iloadN (pc' := 96) at_95 rfl rfl ?_
        refine Go.istore (pc' := 98) (Ls' := #[.val (.int x0), .val (.int x1), .val (.int x2), .val (.int x3), .val (.int k0), .val (.int j0), .val (.int (3 : Int32)), .val (.int (1 : Int32)), .val (.ref a_492), .val (.int (0 : Int32)), .val (.int x0)]) at_96 rfl rfl ?_
        refine Go.goto (pc' := 116) at_98 (by decide) (by decide) ?_
        refine Go.iload (pc' := 118) at_116 rfl rfl ?_
        refine Go.ifc (pc1 := 133) (pc2 := 121) at_118 (by decide) (by decide) rfl (fun (c_603 : (1 : Int) = 0) => ?_) (fun (c_603 : (1 : Int) ≠ 0) => ?_)
        · exact absurd c_603 (by decide)
        refine Go.iload (pc' := 123) at_121 rfl rfl ?_
        refine Go.iload (pc' := 125) at_123 rfl rfl ?_
        refine Go.iconst (pc' := 126) (v := (1 : Int32)) at_125 rfl rfl ?_
        refine Go.isub (pc' := 127) at_126 rfl ?_
        show (Go false l room_1 Z x code maxLocals ret n0 16 128 (fun v h => v = some (.int 1))) h_585 (0 + 1 + 1 + 0 + 0 + 0 + 0 + 0) (0 + 2 + 8 + 0 + 0 + 0 + 0 + 0) 127 #[.val (.int x0), .val (.int x1), .val (.int x2), .val (.int x3), .val (.int k0), .val (.int j0), .val (.int (3 : Int32)), .val (.int (1 : Int32)), .val (.ref a_492), .val (.int (0 : Int32)), .val (.int x0)] [(.int (2 : Int32)), (.int (0 : Int32))]
        refine Go.icmp (pc1 := 133) (pc2 := 130) at_127 (by decide) (by decide) rfl (fun (c_604 : (0 : Int) ≠ (2 : Int)) => ?_) (fun (c_604 : (0 : Int) = (2 : Int)) => ?_)
        rotate_left
        · exact absurd c_604 (by decide)
        refine Go.aload (pc' := 135) at_133 rfl rfl rfl ?_
        refine Go.iload (pc' := 137) at_135 rfl rfl ?_
        refine Go.callV (pc' := 140) (argsL := [(.int (0 : Int32))]) (rest := []) (W := 0) (hw _ (List.mem_of_getElem? (i := 20) rfl)) (hw _ (List.mem_of_getElem? (i := 21) rfl)) (hw _ (List.mem_of_getElem? (i := 23) rfl)) (hw _ (List.mem_of_getElem? (i := 22) rfl)) (hw _ (List.mem_of_getElem? (i := 2) rfl)) (hw _ (List.mem_of_getElem? (i := 24) rfl)) (by decide) f_591 (m_g l Z a0 hw a_492 e_505 (0 : Int32) (3 : Int32) x0 0 [(.int x0), (.int x1), (.int x3), (.int (0 : Int32)), (.int (0 : Int32)), (.int (0 : Int32)), (.int (0 : Int32)), (.int (0 : Int32))] h_585 n0 z_598 f_591 F_588 G_589 A_590 f_593 rfl rfl) at_137 rfl pd2 rfl rfl (Nat.le_of_eq rfl) (by decide) (by decide) (by decide) (by decide) rfl ?_
        rintro _ _ ⟨rfl, rfl⟩
        show (Go false l room_1 Z x code maxLocals ret n0 16 128 (fun v h => v = some (.int 1))) h_585 (0 + 1 + 1 + 0 + 0 + 0 + 0 + 0 + 0) (0 + 2 + 8 + 0 + 0 + 0 + 0 + 0 + 0) 140 #[.val (.int x0), .val (.int x1), .val (.int x2), .val (.int x3), .val (.int k0), .val (.int j0), .val (.int (3 : Int32)), .val (.int (1 : Int32)), .val (.ref a_492), .val (.int (0 : Int32)), .val (.int x0)] [(.int x0)]
        refine Go.iload (pc' := 142) at_140 rfl rfl ?_
        refine Go.icmp (pc1 := 159) (pc2 := 145) at_142 (by decide) (by decide) rfl (fun (c_605 : x0.toInt ≠ x0.toInt) => ?_) (fun (c_605 : x0.toInt = x0.toInt) => ?_)
        · exact absurd rfl c_605
        refine Go.aload (pc' := 147) at_145 rfl rfl rfl ?_
        refine Go.callV (pc' := 150) (argsL := []) (rest := []) (W := 0) (hw _ (List.mem_of_getElem? (i := 27) rfl)) (hw _ (List.mem_of_getElem? (i := 28) rfl)) (hw _ (List.mem_of_getElem? (i := 30) rfl)) (hw _ (List.mem_of_getElem? (i := 29) rfl)) (hw _ (List.mem_of_getElem? (i := 2) rfl)) (hw _ (List.mem_of_getElem? (i := 31) rfl)) (by decide) f_591 (m_s l Z a0 hw a_492 (3 : Int32) h_585 n0 z_598 G_589) at_147 rfl pd3 rfl rfl (Nat.le_of_eq rfl) (by decide) (by decide) (by decide) (by decide) rfl ?_
        rintro _ _ ⟨rfl, rfl⟩
        show (Go false l room_1 Z x code maxLocals ret n0 16 128 (fun v h => v = some (.int 1))) h_585 (0 + 1 + 1 + 0 + 0 + 0 + 0 + 0 + 0 + 0) (0 + 2 + 8 + 0 + 0 + 0 + 0 + 0 + 0 + 0) 150 #[.val (.int x0), .val (.int x1), .val (.int x2), .val (.int x3), .val (.int k0), .val (.int j0), .val (.int (3 : Int32)), .val (.int (1 : Int32)), .val (.ref a_492), .val (.int (0 : Int32)), .val (.int x0)] [(.int (3 : Int32))]
        refine Go.iload (pc' := 152) at_150 rfl rfl ?_
        refine Go.icmp (pc1 := 159) (pc2 := 155) at_152 (by decide) (by decide) rfl (fun (c_606 : (3 : Int) ≠ (3 : Int)) => ?_) (fun (c_606 : (3 : Int) = (3 : Int)) => ?_)
        · exact absurd c_606 (by decide)
        refine Go.iconst (pc' := 156) (v := (1 : Int32)) at_155 rfl rfl ?_
        refine Go.goto (pc' := 160) at_156 (by decide) (by decide) ?_
        exact Go.retN (t := .boolean) at_160 rfl (by simp) rfl rfl (by decide) (by decide)
      · obtain rfl : i_600 = (1 : Int32) := Int32.toInt_inj.mp k_601
        refine Go.istore (pc' := 90) (Ls' := #[.val (.int x0), .val (.int x1), .val (.int x2), .val (.int x3), .val (.int k0), .val (.int j0), .val (.int (3 : Int32)), .val (.int (1 : Int32)), .val (.ref a_492), .val (.int (1 : Int32)), .unset]) at_88 rfl rfl ?_
        refine Go.iload (pc' := 92) at_90 rfl rfl ?_
        refine Go.ifc (pc1 := 101) (pc2 := 95) at_92 (by decide) (by decide) rfl (fun (c_607 : (1 : Int) ≠ 0) => ?_) (fun (c_607 : (1 : Int) = 0) => ?_)
        rotate_left
        · exact absurd c_607 (by decide)
        refine Go.iload (pc' := 103) at_101 rfl rfl ?_
        refine Go.iconst (pc' := 104) (v := (1 : Int32)) at_103 rfl rfl ?_
        refine Go.icmp (pc1 := 113) (pc2 := 107) at_104 (by decide) (by decide) rfl (fun (c_608 : (1 : Int) ≠ (1 : Int)) => ?_) (fun (c_608 : (1 : Int) = (1 : Int)) => ?_)
        · exact absurd c_608 (by decide)
        refine Go.iloadN (pc' := 108) at_107 rfl rfl ?_
        refine Go.istore (pc' := 110) (Ls' := #[.val (.int x0), .val (.int x1), .val (.int x2), .val (.int x3), .val (.int k0), .val (.int j0), .val (.int (3 : Int32)), .val (.int (1 : Int32)), .val (.ref a_492), .val (.int (1 : Int32)), .val (.int x1)]) at_108 rfl rfl ?_
        refine Go.goto (pc' := 116) at_110 (by decide) (by decide) ?_
        refine Go.iload (pc' := 118) at_116 rfl rfl ?_
        refine Go.ifc (pc1 := 133) (pc2 := 121) at_118 (by decide) (by decide) rfl (fun (c_609 : (1 : Int) = 0) => ?_) (fun (c_609 : (1 : Int) ≠ 0) => ?_)
        · exact absurd c_609 (by decide)
        refine Go.iload (pc' := 123) at_121 rfl rfl ?_
        refine Go.iload (pc' := 125) at_123 rfl rfl ?_
        refine Go.iconst (pc' := 126) (v := (1 : Int32)) at_125 rfl rfl ?_
        refine Go.isub (pc' := 127) at_126 rfl ?_
        show (Go false l room_1 Z x code maxLocals ret n0 16 128 (fun v h => v = some (.int 1))) h_585 (0 + 1 + 1 + 0 + 0 + 0 + 0 + 0) (0 + 2 + 8 + 0 + 0 + 0 + 0 + 0) 127 #[.val (.int x0), .val (.int x1), .val (.int x2), .val (.int x3), .val (.int k0), .val (.int j0), .val (.int (3 : Int32)), .val (.int (1 : Int32)), .val (.ref a_492), .val (.int (1 : Int32)), .val (.int x1)] [(.int (2 : Int32)), (.int (1 : Int32))]
        refine Go.icmp (pc1 := 133) (pc2 := 130) at_127 (by decide) (by decide) rfl (fun (c_610 : (1 : Int) ≠ (2 : Int)) => ?_) (fun (c_610 : (1 : Int) = (2 : Int)) => ?_)
        rotate_left
        · exact absurd c_610 (by decide)
        refine Go.aload (pc' := 135) at_133 rfl rfl rfl ?_
        refine Go.iload (pc' := 137) at_135 rfl rfl ?_
        refine Go.callV (pc' := 140) (argsL := [(.int (1 : Int32))]) (rest := []) (W := 0) (hw _ (List.mem_of_getElem? (i := 20) rfl)) (hw _ (List.mem_of_getElem? (i := 21) rfl)) (hw _ (List.mem_of_getElem? (i := 23) rfl)) (hw _ (List.mem_of_getElem? (i := 22) rfl)) (hw _ (List.mem_of_getElem? (i := 2) rfl)) (hw _ (List.mem_of_getElem? (i := 24) rfl)) (by decide) f_591 (m_g l Z a0 hw a_492 e_505 (1 : Int32) (3 : Int32) x1 1 [(.int x0), (.int x1), (.int x3), (.int (0 : Int32)), (.int (0 : Int32)), (.int (0 : Int32)), (.int (0 : Int32)), (.int (0 : Int32))] h_585 n0 z_598 f_591 F_588 G_589 A_590 f_593 rfl rfl) at_137 rfl pd2 rfl rfl (Nat.le_of_eq rfl) (by decide) (by decide) (by decide) (by decide) rfl ?_
        rintro _ _ ⟨rfl, rfl⟩
        show (Go false l room_1 Z x code maxLocals ret n0 16 128 (fun v h => v = some (.int 1))) h_585 (0 + 1 + 1 + 0 + 0 + 0 + 0 + 0 + 0) (0 + 2 + 8 + 0 + 0 + 0 + 0 + 0 + 0) 140 #[.val (.int x0), .val (.int x1), .val (.int x2), .val (.int x3), .val (.int k0), .val (.int j0), .val (.int (3 : Int32)), .val (.int (1 : Int32)), .val (.ref a_492), .val (.int (1 : Int32)), .val (.int x1)] [(.int x1)]
        refine Go.iload (pc' := 142) at_140 rfl rfl ?_
        refine Go.icmp (pc1 := 159) (pc2 := 145) at_142 (by decide) (by decide) rfl (fun (c_611 : x1.toInt ≠ x1.toInt) => ?_) (fun (c_611 : x1.toInt = x1.toInt) => ?_)
        · exact absurd rfl c_611
        refine Go.aload (pc' := 147) at_145 rfl rfl rfl ?_
        refine Go.callV (pc' := 150) (argsL := []) (rest := []) (W := 0) (hw _ (List.mem_of_getElem? (i := 27) rfl)) (hw _ (List.mem_of_getElem? (i := 28) rfl)) (hw _ (List.mem_of_getElem? (i := 30) rfl)) (hw _ (List.mem_of_getElem? (i := 29) rfl)) (hw _ (List.mem_of_getElem? (i := 2) rfl)) (hw _ (List.mem_of_getElem? (i := 31) rfl)) (by decide) f_591 (m_s l Z a0 hw a_492 (3 : Int32) h_585 n0 z_598 G_589) at_147 rfl pd3 rfl rfl (Nat.le_of_eq rfl) (by decide) (by decide) (by decide) (by decide) rfl ?_
        rintro _ _ ⟨rfl, rfl⟩
        show (Go false l room_1 Z x code maxLocals ret n0 16 128 (fun v h => v = some (.int 1))) h_585 (0 + 1 + 1 + 0 + 0 + 0 + 0 + 0 + 0 + 0) (0 + 2 + 8 + 0 + 0 + 0 + 0 + 0 + 0 + 0) 150 #[.val (.int x0), .val (.int x1), .val (.int x2), .val (.int x3), .val (.int k0), .val (.int j0), .val (.int (3 : Int32)), .val (.int (1 : Int32)), .val (.ref a_492), .val (.int (1 : Int32)), .val (.int x1)] [(.int (3 : Int32))]
        refine Go.iload (pc' := 152) at_150 rfl rfl ?_
        refine Go.icmp (pc1 := 159) (pc2 := 155) at_152 (by decide) (by decide) rfl (fun (c_612 : (3 : Int) ≠ (3 : Int)) => ?_) (fun (c_612 : (3 : Int) = (3 : Int)) => ?_)
        · exact absurd c_612 (by decide)
        refine Go.iconst (pc' := 156) (v := (1 : Int32)) at_155 rfl rfl ?_
        refine Go.goto (pc' := 160) at_156 (by decide) (by decide) ?_
        exact Go.retN (t := .boolean) at_160 rfl (by simp) rfl rfl (by decide) (by decide)
      · obtain rfl : i_600 = (2 : Int32) := Int32.toInt_inj.mp k_601
        refine Go.istore (pc' := 90) (Ls' := #[.val (.int x0), .val (.int x1), .val (.int x2), .val (.int x3), .val (.int k0), .val (.int j0), .val (.int (3 : Int32)), .val (.int (1 : Int32)), .val (.ref a_492), .val (.int (2 : Int32)), .unset]) at_88 rfl rfl ?_
        refine Go.iload (pc' := 92) at_90 rfl rfl ?_
        refine Go.ifc (pc1 := 101) (pc2 := 95) at_92 (by decide) (by decide) rfl (fun (c_613 : (2 : Int) ≠ 0) => ?_) (fun (c_613 : (2 : Int) = 0) => ?_)
        rotate_left
        · exact absurd c_613 (by decide)
        refine Go.iload (pc' := 103) at_101 rfl rfl ?_
        refine Go.iconst (pc' := 104) (v := (1 : Int32)) at_103 rfl rfl ?_
        refine Go.icmp (pc1 := 113) (pc2 := 107) at_104 (by decide) (by decide) rfl (fun (c_614 : (2 : Int) ≠ (1 : Int)) => ?_) (fun (c_614 : (2 : Int) = (1 : Int)) => ?_)
        rotate_left
        · exact absurd c_614 (by decide)
        refine Go.iloadN (pc' := 114) at_113 rfl rfl ?_
        refine Go.istore (pc' := 116) (Ls' := #[.val (.int x0), .val (.int x1), .val (.int x2), .val (.int x3), .val (.int k0), .val (.int j0), .val (.int (3 : Int32)), .val (.int (1 : Int32)), .val (.ref a_492), .val (.int (2 : Int32)), .val (.int x2)]) at_114 rfl rfl ?_
        refine Go.iload (pc' := 118) at_116 rfl rfl ?_
        refine Go.ifc (pc1 := 133) (pc2 := 121) at_118 (by decide) (by decide) rfl (fun (c_615 : (1 : Int) = 0) => ?_) (fun (c_615 : (1 : Int) ≠ 0) => ?_)
        · exact absurd c_615 (by decide)
        refine Go.iload (pc' := 123) at_121 rfl rfl ?_
        refine Go.iload (pc' := 125) at_123 rfl rfl ?_
        refine Go.iconst (pc' := 126) (v := (1 : Int32)) at_125 rfl rfl ?_
        refine Go.isub (pc' := 127) at_126 rfl ?_
        show (Go false l room_1 Z x code maxLocals ret n0 16 128 (fun v h => v = some (.int 1))) h_585 (0 + 1 + 1 + 0 + 0 + 0 + 0 + 0) (0 + 2 + 8 + 0 + 0 + 0 + 0 + 0) 127 #[.val (.int x0), .val (.int x1), .val (.int x2), .val (.int x3), .val (.int k0), .val (.int j0), .val (.int (3 : Int32)), .val (.int (1 : Int32)), .val (.ref a_492), .val (.int (2 : Int32)), .val (.int x2)] [(.int (2 : Int32)), (.int (2 : Int32))]
        refine Go.icmp (pc1 := 133) (pc2 := 130) at_127 (by decide) (by decide) rfl (fun (c_616 : (2 : Int) ≠ (2 : Int)) => ?_) (fun (c_616 : (2 : Int) = (2 : Int)) => ?_)
        · exact absurd c_616 (by decide)
        refine Go.iloadN (pc' := 131) at_130 rfl rfl ?_
        refine Go.istore (pc' := 133) (Ls' := #[.val (.int x0), .val (.int x1), .val (.int x2), .val (.int x3), .val (.int k0), .val (.int j0), .val (.int (3 : Int32)), .val (.int (1 : Int32)), .val (.ref a_492), .val (.int (2 : Int32)), .val (.int x3)]) at_131 rfl rfl ?_
        refine Go.aload (pc' := 135) at_133 rfl rfl rfl ?_
        refine Go.iload (pc' := 137) at_135 rfl rfl ?_
        refine Go.callV (pc' := 140) (argsL := [(.int (2 : Int32))]) (rest := []) (W := 0) (hw _ (List.mem_of_getElem? (i := 20) rfl)) (hw _ (List.mem_of_getElem? (i := 21) rfl)) (hw _ (List.mem_of_getElem? (i := 23) rfl)) (hw _ (List.mem_of_getElem? (i := 22) rfl)) (hw _ (List.mem_of_getElem? (i := 2) rfl)) (hw _ (List.mem_of_getElem? (i := 24) rfl)) (by decide) f_591 (m_g l Z a0 hw a_492 e_505 (2 : Int32) (3 : Int32) x3 2 [(.int x0), (.int x1), (.int x3), (.int (0 : Int32)), (.int (0 : Int32)), (.int (0 : Int32)), (.int (0 : Int32)), (.int (0 : Int32))] h_585 n0 z_598 f_591 F_588 G_589 A_590 f_593 rfl rfl) at_137 rfl pd2 rfl rfl (Nat.le_of_eq rfl) (by decide) (by decide) (by decide) (by decide) rfl ?_
        rintro _ _ ⟨rfl, rfl⟩
        show (Go false l room_1 Z x code maxLocals ret n0 16 128 (fun v h => v = some (.int 1))) h_585 (0 + 1 + 1 + 0 + 0 + 0 + 0 + 0 + 0) (0 + 2 + 8 + 0 + 0 + 0 + 0 + 0 + 0) 140 #[.val (.int x0), .val (.int x1), .val (.int x2), .val (.int x3), .val (.int k0), .val (.int j0), .val (.int (3 : Int32)), .val (.int (1 : Int32)), .val (.ref a_492), .val (.int (2 : Int32)), .val (.int x3)] [(.int x3)]
        refine Go.iload (pc' := 142) at_140 rfl rfl ?_
        refine Go.icmp (pc1 := 159) (pc2 := 145) at_142 (by decide) (by decide) rfl (fun (c_617 : x3.toInt ≠ x3.toInt) => ?_) (fun (c_617 : x3.toInt = x3.toInt) => ?_)
        · exact absurd rfl c_617
        refine Go.aload (pc' := 147) at_145 rfl rfl rfl ?_
        refine Go.callV (pc' := 150) (argsL := []) (rest := []) (W := 0) (hw _ (List.mem_of_getElem? (i := 27) rfl)) (hw _ (List.mem_of_getElem? (i := 28) rfl)) (hw _ (List.mem_of_getElem? (i := 30) rfl)) (hw _ (List.mem_of_getElem? (i := 29) rfl)) (hw _ (List.mem_of_getElem? (i := 2) rfl)) (hw _ (List.mem_of_getElem? (i := 31) rfl)) (by decide) f_591 (m_s l Z a0 hw a_492 (3 : Int32) h_585 n0 z_598 G_589) at_147 rfl pd3 rfl rfl (Nat.le_of_eq rfl) (by decide) (by decide) (by decide) (by decide) rfl ?_
        rintro _ _ ⟨rfl, rfl⟩
        show (Go false l room_1 Z x code maxLocals ret n0 16 128 (fun v h => v = some (.int 1))) h_585 (0 + 1 + 1 + 0 + 0 + 0 + 0 + 0 + 0 + 0) (0 + 2 + 8 + 0 + 0 + 0 + 0 + 0 + 0 + 0) 150 #[.val (.int x0), .val (.int x1), .val (.int x2), .val (.int x3), .val (.int k0), .val (.int j0), .val (.int (3 : Int32)), .val (.int (1 : Int32)), .val (.ref a_492), .val (.int (2 : Int32)), .val (.int x3)] [(.int (3 : Int32))]
        refine Go.iload (pc' := 152) at_150 rfl rfl ?_
        refine Go.icmp (pc1 := 159) (pc2 := 155) at_152 (by decide) (by decide) rfl (fun (c_618 : (3 : Int) ≠ (3 : Int)) => ?_) (fun (c_618 : (3 : Int) = (3 : Int)) => ?_)
        · exact absurd c_618 (by decide)
        refine Go.iconst (pc' := 156) (v := (1 : Int32)) at_155 rfl rfl ?_
        refine Go.goto (pc' := 160) at_156 (by decide) (by decide) ?_
        exact Go.retN (t := .boolean) at_160 rfl (by simp) rfl rfl (by decide) (by decide)
set_option maxRecDepth 65536 in
set_option maxHeartbeats 40000000 in
theorem comes_1 {Post : Tables → Env → Array Value → State → Outcome → State → Prop} (hpost : ∀ tb e args s v u, (limb_1_1.after args s (.returned v) u = true ∧ limb_1_2.after args s (.returned v) u = true ∧ True) → FrameEnd s (.returned v) u (Jvm.fieldLocs frame_1_writes args s ++ Jvm.arrayLocs frame_1_arrays args s ++ Jvm.staticLocs frame_1_statics s) 16 128 → Post tb e args s (.returned v) u) :
    ArmFor flags0 classFile x code maxLocals ret World_1 tables_1 room_1 Calls_1 rest_1 Pre_1 Post := by
  intro l hfl _ _ p e ha hc hk s m args below hf hA hF happ hP
  obtain ⟨hcalls, hrest, hpre⟩ := hP
  obtain ⟨-, -, -, hnamed, -, -, -, hat⟩ := (Spec.applies_iff hf).mp happ
  obtain ⟨hg, hn⟩ := and_e (Cond.before_iff.mp (show (Jvm.Cond.and given_1 narrow_1).before args s = true from hpre))
  obtain ⟨h1, hg1⟩ := and_e hg
  obtain ⟨w0, w1, w2, w3, w4, w5, rfl⟩ : ∃ w0 w1 w2 w3 w4 w5 : Value, args = #[w0, w1, w2, w3, w4, w5] := by
    have hs : args.size = 6 := by simpa [Cond.value, given_1] using h1
    obtain ⟨L⟩ := args
    match L, hs with
    | [w0, w1, w2, w3, w4, w5], _ => exact ⟨w0, w1, w2, w3, w4, w5, rfl⟩
  have hw := fun d (hd : d ∈ tables_1) => atoms_spec (ws := Jvm.Cond.code x code maxLocals ret :: tables_1) hat d (List.mem_cons_of_mem _ hd)
  have hfit : Fit s := fun {y c} hc i hi => by
    obtain ⟨ha, rfl⟩ := Array.getElem?_eq_some_iff.mp hc
    have q := List.all_eq_true.mp ((Array.all_eq_true_iff_forall_mem.mp hF) _ (Array.getElem_mem ha)) i (List.mem_range.mpr hi)
    simpa [Array.getElem?_eq_getElem hi] using q
  obtain ⟨b0, hg2⟩ := and_e hg1
  obtain ⟨i0, e0⟩ := is_v b0
  obtain rfl : w0 = (.int i0) := Option.some.inj e0
  obtain ⟨b1, hg3⟩ := and_e hg2
  obtain ⟨i1, e1⟩ := is_v b1
  obtain rfl : w1 = (.int i1) := Option.some.inj e1
  obtain ⟨b2, hg4⟩ := and_e hg3
  obtain ⟨i2, e2⟩ := is_v b2
  obtain rfl : w2 = (.int i2) := Option.some.inj e2
  obtain ⟨b3, hg5⟩ := and_e hg4
  obtain ⟨i3, e3⟩ := is_v b3
  obtain rfl : w3 = (.int i3) := Option.some.inj e3
  obtain ⟨b4, hg6⟩ := and_e hg5
  obtain ⟨i4, e4⟩ := is_v b4
  obtain rfl : w4 = (.int i4) := Option.some.inj e4
  obtain ⟨i5, e5⟩ := is_v hg6
  obtain rfl : w5 = (.int i5) := Option.some.inj e5
  have S1 := Sta.start (own_eqI hn) (Or.inr ⟨(hw _ (List.mem_of_getElem? (i := 2) rfl)), (hw _ (List.mem_of_getElem? (i := 26) rfl))⟩)
  obtain ⟨n, o, h1, h2, h3, _, L, rfl, ⟨⟨rfl, -⟩, N⟩, hq⟩ := rm1 l s _ hw tables_1 i0 i1 i2 i3 i4 i5 s.heap s.heap.size (Nat.le_refl _) (Old.start s) S1 p e ha hc hk s m _ below hf ((Spec.applies_iff_loose hf).mp happ).1 ⟨rfl, State.Warmed39.refl s, rfl⟩ trivial
  refine ⟨n, _, h1, h2, h3, hpost _ _ _ _ _ _ ⟨Cond.after_iff.mpr rfl, Cond.after_iff.mpr (eq_i res_at (Term.int_eval (1)) rfl), trivial⟩ ⟨hq.1, hq.2.1, (hq.2.2.sift fun y hy => Or.inr (N y hy)).mono (by decide) (by decide)⟩⟩
theorem main_1_1 : Claimed_1_1 := comes_1 fun _ _ _ _ _ _ h hF => ⟨h.1, hF⟩
theorem main_1_2 : Claimed_1_2 := comes_1 fun _ _ _ _ _ _ h hF => ⟨h.2.1, hF⟩
end Jvm.Pilot.@@N@@
namespace Jvm.Pilot.@@N@@
open Jvm Jvm.ClassFile Sem Op Lib Jvm.Free Jvm.Stand Jvm.Pilot.@@N@@.Jvm.D
/-! MADE BY PROGRAM (witnessworld.py) out of the Statement's table words and the real class files: 9 classes; the members and pool entries that the words name. The judged class is class 1, her method 1. -/
namespace start1
open Jvm.ClassFile
def u (s : String) : CpInfo := .utf8 (stringToUtf16 s)
/-- a pool by its gaps: so many unusable entries, then the entry; so many at the end -/
def gap : Nat → List CpInfo → List CpInfo
  | 0, r => r
  | n + 1, r => .unusable :: gap n r
def poolList (es : List (Nat × CpInfo)) (last : Nat) : List CpInfo := es.foldr (fun e r => gap e.1 (e.2 :: r)) (gap last [])
def pool (es : List (Nat × CpInfo)) (last : Nat) : Array CpInfo := ⟨poolList es last⟩
def fileOf (pool : Array CpInfo) (this : Nat) (attrs : Array Attribute := #[]) (ms : Array MethodInfo := #[]) (fl : Nat := 33) (sup : Nat := 0) (ifs : Array Nat := #[]) (fds : Array FieldInfo := #[]) : ClassFile where
  minorVersion := 0
  majorVersion := 65
  constantPool := pool
  accessFlags := fl
  thisClass := this
  superClass := sup
  interfaces := ifs
  fields := fds
  methods := ms
  attributes := attrs
def plain (name : String) (sup : Option ClassId) : Class where
  name := name
  kind := .ordinary
  loader := none
  accessFlags := 33
  super := sup
  interfaces := #[]
  cf := none
  fields := #[]
  methods := #[]
  instanceTypes := #[]
  staticTypes := #[]
  resolved := #[]
  callSites := []
  init := .initialized
  statics := none
  mirror := none

def pool0 : Array CpInfo := pool [(5, u "<init>"), (0, u "()V"), (1, .class_ 10), (1, u "java/lang/Object")] 113

def k0c0 : Code := { maxStack := 0, maxLocals := 1, code := object_method_1_code, exceptionTable := #[], attributes := #[] }
def k0m0 : Method := { name := "<init>", desc := "()V", sig := { parameters := [], returnType := none }, accessFlags := 1, code := some k0c0 }
/-- java/lang/Object -/
def k0 : Class := { plain "java/lang/Object" none with
  accessFlags := 33
  interfaces := #[]
  cf := some (fileOf pool0 8 #[] #[{ accessFlags := 1, nameIndex := 5, descriptorIndex := 6, attributes := #[] }] 33 0 #[] #[])
  fields := #[]
  methods := #[k0m0]
  instanceTypes := #[]
  staticTypes := #[]
  resolved := Array.replicate 124 none
  statics := none }

def pool1 : Array CpInfo := pool [(2, .class_ 4), (0, .nameAndType 5 6), (0, u "java/lang/Object"), (0, u "<init>"), (0, u "()V"), (0, .class_ 8), (0, u "com/example/forward_planner/forwardplanner/heuristic/IntList"), (0, .methodref 7 3), (0, .methodref 7 11), (0, .nameAndType 12 13), (0, u "add"), (0, u "(I)V"), (0, .methodref 7 15), (0, .nameAndType 16 17), (0, u "removeLast"), (0, u "()I"), (0, .integer 2147483647), (0, .methodref 7 20), (0, .nameAndType 21 22), (0, u "get"), (0, u "(I)I"), (0, .methodref 7 24), (0, .nameAndType 25 17), (0, u "size"), (0, .class_ 27), (0, u "com/example/forward_planner/forwardplanner/heuristic/IntListGetPinLaw"), (2, u "law"), (0, u "(IIIIII)Z")] 3

def k1m0 : Method := { name := "<init>", desc := "()V", sig := { parameters := [], returnType := none }, accessFlags := 1, code := none }
def k1c1 : Code := { maxStack := 3, maxLocals := 11, code := code, exceptionTable := #[], attributes := #[] }
def k1m1 : Method := { name := "law", desc := "(IIIIII)Z", sig := { parameters := [.int, .int, .int, .int, .int, .int], returnType := some .boolean }, accessFlags := 9, code := some k1c1 }
/-- com/example/forward_planner/forwardplanner/heuristic/IntListGetPinLaw -/
def k1 : Class := { plain "com/example/forward_planner/forwardplanner/heuristic/IntListGetPinLaw" (some 0) with
  accessFlags := 49
  interfaces := #[]
  cf := some (fileOf pool1 26 #[] #[{ accessFlags := 1, nameIndex := 5, descriptorIndex := 6, attributes := #[] }, { accessFlags := 9, nameIndex := 30, descriptorIndex := 31, attributes := #[] }] 49 2 #[] #[])
  fields := #[]
  methods := #[k1m0, k1m1]
  instanceTypes := #[]
  staticTypes := #[]
  resolved := Array.replicate 35 none
  statics := none }

def pool2 : Array CpInfo := pool [(1, .methodref 2 3), (0, .class_ 4), (0, .nameAndType 5 6), (0, u "java/lang/Object"), (0, u "<init>"), (0, u "()V"), (0, .fieldref 8 9), (0, .class_ 10), (0, .nameAndType 11 12), (0, u "com/example/forward_planner/forwardplanner/heuristic/IntList"), (0, u "elements"), (0, u "[I"), (0, .fieldref 8 14), (0, .nameAndType 15 16), (0, u "size"), (0, u "I"), (0, .fieldref 8 18), (0, .nameAndType 19 20), (0, u "$assertionsDisabled"), (0, u "Z"), (17, u "()I"), (0, u "get"), (0, u "(I)I"), (1, u "add"), (0, u "(I)V"), (0, u "removeLast")] 6

def k2c0 : Code := { maxStack := 2, maxLocals := 1, code := prog_22_method_1_code, exceptionTable := #[], attributes := #[] }
def k2m0 : Method := { name := "<init>", desc := "()V", sig := { parameters := [], returnType := none }, accessFlags := 0, code := some k2c0 }
def k2c1 : Code := { maxStack := 1, maxLocals := 1, code := prog_22_method_2_code, exceptionTable := #[], attributes := #[] }
def k2m1 : Method := { name := "size", desc := "()I", sig := { parameters := [], returnType := some .int }, accessFlags := 0, code := some k2c1 }
def k2c2 : Code := { maxStack := 2, maxLocals := 2, code := prog_22_method_3_code, exceptionTable := #[], attributes := #[] }
def k2m2 : Method := { name := "get", desc := "(I)I", sig := { parameters := [.int], returnType := some .int }, accessFlags := 0, code := some k2c2 }
def k2c3 : Code := { maxStack := 5, maxLocals := 2, code := prog_22_method_4_code, exceptionTable := #[], attributes := #[] }
def k2m3 : Method := { name := "add", desc := "(I)V", sig := { parameters := [.int], returnType := none }, accessFlags := 0, code := some k2c3 }
def k2c4 : Code := { maxStack := 4, maxLocals := 1, code := prog_22_method_5_code, exceptionTable := #[], attributes := #[] }
def k2m4 : Method := { name := "removeLast", desc := "()I", sig := { parameters := [], returnType := some .int }, accessFlags := 0, code := some k2c4 }
/-- com/example/forward_planner/forwardplanner/heuristic/IntList -/
def k2 : Class := { plain "com/example/forward_planner/forwardplanner/heuristic/IntList" (some 0) with
  accessFlags := 48
  interfaces := #[]
  cf := some (fileOf pool2 8 #[] #[{ accessFlags := 0, nameIndex := 5, descriptorIndex := 6, attributes := #[] }, { accessFlags := 0, nameIndex := 15, descriptorIndex := 38, attributes := #[] }, { accessFlags := 0, nameIndex := 39, descriptorIndex := 40, attributes := #[] }, { accessFlags := 0, nameIndex := 42, descriptorIndex := 43, attributes := #[] }, { accessFlags := 0, nameIndex := 44, descriptorIndex := 38, attributes := #[] }] 48 2 #[] #[{ accessFlags := 2, nameIndex := 11, descriptorIndex := 12, attributes := #[] }, { accessFlags := 2, nameIndex := 15, descriptorIndex := 16, attributes := #[] }, { accessFlags := 4120, nameIndex := 19, descriptorIndex := 20, attributes := #[] }])
  fields := #[{ name := "elements", type := (.array .int), accessFlags := 2, slot := 0, constantValue := 0 }, { name := "size", type := .int, accessFlags := 2, slot := 1, constantValue := 0 }, { name := "$assertionsDisabled", type := .boolean, accessFlags := 4120, slot := 0, constantValue := 0 }]
  methods := #[k2m0, k2m1, k2m2, k2m3, k2m4]
  instanceTypes := #[(.array .int), .int]
  staticTypes := #[.boolean]
  resolved := Array.replicate 51 none
  statics := some 0 }

def pool3 : Array CpInfo := pool [(1, u "java/lang/Cloneable"), (0, .class_ 1), (0, u "java/lang/Object"), (0, .class_ 3)] 3

/-- java/lang/Cloneable -/
def k3 : Class := { plain "java/lang/Cloneable" (some 0) with
  accessFlags := 1537
  interfaces := #[]
  cf := some (fileOf pool3 2 #[] #[] 1537 4 #[] #[])
  fields := #[]
  methods := #[]
  instanceTypes := #[]
  staticTypes := #[]
  resolved := Array.replicate 8 none
  statics := none }

def pool4 : Array CpInfo := pool [(1, u "java/io/Serializable"), (0, .class_ 1), (0, u "java/lang/Object"), (0, .class_ 3)] 3

/-- java/io/Serializable -/
def k4 : Class := { plain "java/io/Serializable" (some 0) with
  accessFlags := 1537
  interfaces := #[]
  cf := some (fileOf pool4 2 #[] #[] 1537 4 #[] #[])
  fields := #[]
  methods := #[]
  instanceTypes := #[]
  staticTypes := #[]
  resolved := Array.replicate 8 none
  statics := none }

/-- the primitive byte -/
def k5 : Class := { plain "byte" none with kind := .primitive 'B', accessFlags := 0x411 }
/-- [B -/
def k6 : Class := { plain "[B" (some 0) with kind := .array 5 .byte, interfaces := #[3, 4], accessFlags := 1041 }

/-- the primitive int -/
def k7 : Class := { plain "int" none with kind := .primitive 'I', accessFlags := 0x411 }
/-- [I -/
def k8 : Class := { plain "[I" (some 0) with kind := .array 7 .int, interfaces := #[3, 4], accessFlags := 1041 }

def heap : Heap := #[{ cls := 2, slots := #[.int 1], vm := .statics 2 }]
def classes : Array Class := #[k0, k1, k2, k3, k4, k5, k6, k7, k8]
def interned : List (Array UInt16 × Addr) := []
def slotsUsed : Nat := 1
def theMethod : MethodId := ⟨1, 1⟩
def args0 : Array Value := #[.int 5, .int 6, .int 7, .int 8, .int 9, .int 10]
def aboutOver (below : List Frame) : State where
  vm := { classes := classes, interned := interned.toArray }
  heap := heap
  slotsUsed := slotsUsed
  threads := #[{ frames := .invoking theMethod args0 :: below }]
def below0 : List Frame := [.native { method := ⟨0, 0⟩, args := #[] }]
def about1 : State := aboutOver below0
def p0 : Program := .bare "" "" ""
def e0 : Env := launch0.env 0 0 0
theorem w_frames : about1.frames = Frame.invoking theMethod args0 :: below0 := rfl
set_option maxRecDepth 65536 in
theorem w_args : argsFit about1.vm theMethod args0 = true := by decide +kernel
set_option maxRecDepth 65536 in
theorem w_heap : heapFits about1 = true := by decide +kernel
set_option maxRecDepth 65536 in
theorem w_runnable : about1.curStatus? = some .runnable := by decide +kernel
set_option maxRecDepth 65536 in
theorem w_alone : about1.alone = true := by decide +kernel
set_option maxRecDepth 65536 in
theorem w_named : about1.methodNamed? x = some theMethod := by decide +kernel
set_option maxRecDepth 65536 in
theorem w_hears : about1.hears theMethod below0 = true := by decide +kernel
set_option maxRecDepth 65536 in
theorem w_ripe : about1.ripe theMethod args0 below0 = true := by decide +kernel
theorem w_running : about1.status = .running := rfl
set_option maxRecDepth 65536 in
theorem w_room : about1.hasRoom e0.platform room_1 = true :=
  launch0.hasRoom_least _ room_1 (by decide +kernel) (by decide +kernel) (by decide +kernel) (by decide +kernel) (by decide +kernel) (by decide +kernel)
theorem allAtoms_all (ts : List Jvm.Cond) (a : Array Jvm.Value) (st : Jvm.State) : (allAtoms ts).before a st = ts.all (fun c => c.before a st) := by
  induction ts with
  | nil => rfl
  | cons c t ih =>
    show (Jvm.Cond.and c (allAtoms t)).before a st = _
    rw [Jvm.Cond.before_and, ih, List.all_cons]
def words1 : List Jvm.Cond := Jvm.Cond.code x code maxLocals ret :: tables_1
/-- a 'code' word, met by the world's own term for the bytes: nothing is compared byte by byte -/
theorem code_word {y : MethodName} {bytes : ByteArray} {mx : Nat} {rt : Option FieldType} {a : Array Value} {s : State} {m : MethodId} {meth : Method} {c : Code} (h1 : s.methodNamed? y = some m) (h2 : s.vm.method? m = some meth) (h3 : meth.code = some c) (h4 : c.code = bytes)
    (h5 : (c.maxLocals == mx && c.exceptionTable.isEmpty && decide (c.maxStack ≤ mostOperands) && decide (meth.sig.returnType = rt) && !meth.locks && decide (parseMethodDescriptor y.desc = some meth.sig)) = true) : (Jvm.Cond.code y bytes mx rt).before a s = true := by
  simp only [Bool.and_eq_true, beq_iff_eq, Bool.not_eq_true', decide_eq_true_eq] at h5
  obtain ⟨⟨⟨⟨⟨g1, g2⟩, g3⟩, g4⟩, g5⟩, g6⟩ := h5
  simp [Cond.before, Cond.holds, Cond.value, h1, h2, h3, h4, g1, g2, g3, g4, g5, g6]
def isCode : Jvm.Cond → Bool
  | .code _ _ _ _ => true
  | _ => false
theorem all_split {L : List Jvm.Cond} {P : Jvm.Cond → Bool} (h1 : L.all (fun c => isCode c || P c) = true) (h2 : ∀ c ∈ L.filter isCode, P c = true) : L.all P = true := by
  refine List.all_eq_true.mpr fun c hc => ?_
  have h := List.all_eq_true.mp h1 c hc
  rcases Bool.eq_false_or_eq_true (isCode c) with hi | hi
  · exact h2 c (List.mem_filter.mpr ⟨hc, hi⟩)
  · simpa [hi] using h
set_option maxRecDepth 65536 in
theorem w_c0 : (Jvm.Cond.code x code maxLocals ret).before args0 about1 = true := code_word (m := ⟨1, 1⟩) (meth := k1m1) (c := k1c1) (by decide +kernel) rfl rfl rfl (by decide +kernel)
set_option maxRecDepth 65536 in
theorem w_c1 : (Jvm.Cond.code ({ cls := "com/example/forward_planner/forwardplanner/heuristic/IntList", name := "<init>", desc := "()V" } : Jvm.MethodName) prog_22_method_1_code (1 : Nat) (Option.none : Option Jvm.ClassFile.FieldType)).before args0 about1 = true := code_word (m := ⟨2, 0⟩) (meth := k2m0) (c := k2c0) (by decide +kernel) rfl rfl rfl (by decide +kernel)
set_option maxRecDepth 65536 in
theorem w_c2 : (Jvm.Cond.code ({ cls := "java/lang/Object", name := "<init>", desc := "()V" } : Jvm.MethodName) object_method_1_code (1 : Nat) (Option.none : Option Jvm.ClassFile.FieldType)).before args0 about1 = true := code_word (m := ⟨0, 0⟩) (meth := k0m0) (c := k0c0) (by decide +kernel) rfl rfl rfl (by decide +kernel)
set_option maxRecDepth 65536 in
theorem w_c3 : (Jvm.Cond.code ({ cls := "com/example/forward_planner/forwardplanner/heuristic/IntList", name := "add", desc := "(I)V" } : Jvm.MethodName) prog_22_method_4_code (2 : Nat) (Option.none : Option Jvm.ClassFile.FieldType)).before args0 about1 = true := code_word (m := ⟨2, 3⟩) (meth := k2m3) (c := k2c3) (by decide +kernel) rfl rfl rfl (by decide +kernel)
set_option maxRecDepth 65536 in
theorem w_c4 : (Jvm.Cond.code ({ cls := "com/example/forward_planner/forwardplanner/heuristic/IntList", name := "get", desc := "(I)I" } : Jvm.MethodName) prog_22_method_3_code (2 : Nat) (Option.some Jvm.ClassFile.FieldType.int)).before args0 about1 = true := code_word (m := ⟨2, 2⟩) (meth := k2m2) (c := k2c2) (by decide +kernel) rfl rfl rfl (by decide +kernel)
set_option maxRecDepth 65536 in
theorem w_c5 : (Jvm.Cond.code ({ cls := "com/example/forward_planner/forwardplanner/heuristic/IntList", name := "size", desc := "()I" } : Jvm.MethodName) prog_22_method_2_code (1 : Nat) (Option.some Jvm.ClassFile.FieldType.int)).before args0 about1 = true := code_word (m := ⟨2, 1⟩) (meth := k2m1) (c := k2c1) (by decide +kernel) rfl rfl rfl (by decide +kernel)
set_option maxRecDepth 65536 in
theorem w_c6 : (Jvm.Cond.code ({ cls := "com/example/forward_planner/forwardplanner/heuristic/IntList", name := "removeLast", desc := "()I" } : Jvm.MethodName) prog_22_method_5_code (1 : Nat) (Option.some Jvm.ClassFile.FieldType.int)).before args0 about1 = true := code_word (m := ⟨2, 4⟩) (meth := k2m4) (c := k2c4) (by decide +kernel) rfl rfl rfl (by decide +kernel)
def codes1 : List Jvm.Cond := [Jvm.Cond.code x code maxLocals ret, Jvm.Cond.code ({ cls := "com/example/forward_planner/forwardplanner/heuristic/IntList", name := "<init>", desc := "()V" } : Jvm.MethodName) prog_22_method_1_code (1 : Nat) (Option.none : Option Jvm.ClassFile.FieldType), Jvm.Cond.code ({ cls := "java/lang/Object", name := "<init>", desc := "()V" } : Jvm.MethodName) object_method_1_code (1 : Nat) (Option.none : Option Jvm.ClassFile.FieldType), Jvm.Cond.code ({ cls := "com/example/forward_planner/forwardplanner/heuristic/IntList", name := "add", desc := "(I)V" } : Jvm.MethodName) prog_22_method_4_code (2 : Nat) (Option.none : Option Jvm.ClassFile.FieldType), Jvm.Cond.code ({ cls := "com/example/forward_planner/forwardplanner/heuristic/IntList", name := "get", desc := "(I)I" } : Jvm.MethodName) prog_22_method_3_code (2 : Nat) (Option.some Jvm.ClassFile.FieldType.int), Jvm.Cond.code ({ cls := "com/example/forward_planner/forwardplanner/heuristic/IntList", name := "size", desc := "()I" } : Jvm.MethodName) prog_22_method_2_code (1 : Nat) (Option.some Jvm.ClassFile.FieldType.int), Jvm.Cond.code ({ cls := "com/example/forward_planner/forwardplanner/heuristic/IntList", name := "removeLast", desc := "()I" } : Jvm.MethodName) prog_22_method_5_code (1 : Nat) (Option.some Jvm.ClassFile.FieldType.int)]
set_option maxRecDepth 65536 in
theorem codes_eq : words1.filter isCode = codes1 := rfl
theorem w_codes : ∀ c ∈ words1.filter isCode, c.before args0 about1 = true := by
  rw [codes_eq]
  intro c hc
  simp only [codes1, List.mem_cons, List.not_mem_nil, or_false] at hc
  rcases hc with rfl | rfl | rfl | rfl | rfl | rfl | rfl
  · exact w_c0
  · exact w_c1
  · exact w_c2
  · exact w_c3
  · exact w_c4
  · exact w_c5
  · exact w_c6
set_option maxRecDepth 65536 in
theorem w_t1 : (words1.take 24).all (fun c => isCode c || c.before args0 about1) = true := by decide +kernel
set_option maxRecDepth 65536 in
theorem w_t2 : (words1.drop 24).all (fun c => isCode c || c.before args0 about1) = true := by decide +kernel
theorem w_tables : (allAtoms (Jvm.Cond.code x code maxLocals ret :: tables_1)).before args0 about1 = true := by
  rw [allAtoms_all]
  show words1.all (fun c => c.before args0 about1) = true
  refine all_split ?_ w_codes
  rw [← List.take_append_drop 24 words1, List.all_append, w_t1, w_t2]
  rfl
set_option maxRecDepth 65536 in
theorem w_case : (Jvm.Cond.and given_1 narrow_1).before args0 about1 = true := by decide +kernel
theorem w_applies : (headSpec (Jvm.Cond.code x code maxLocals ret :: tables_1) room_1).applies x e0.platform about1 = true :=
  (Spec.applies_iff w_frames).mpr ⟨w_running, w_runnable, w_alone, w_named, w_hears, w_ripe, w_room, w_tables⟩
theorem atStart : AtStart classFile x code maxLocals ret World_1 tables_1 room_1 Calls_1 rest_1 Pre_1 launch0 p0 e0 about1 theMethod args0 below0 :=
  ⟨lists_1, trivial, launch0.admits_env _ _ _, launch0.least_env, fairChoices_fair.cas, fairChoices_fair.clock, w_frames, w_args, w_heap, w_applies, trivial, trivial, w_case⟩
end start1
theorem witness_1 : WitnessClaimed_1 := ⟨start1.p0, start1.e0, start1.about1, start1.theMethod, start1.args0, start1.below0, start1.atStart⟩
end Jvm.Pilot.@@N@@
