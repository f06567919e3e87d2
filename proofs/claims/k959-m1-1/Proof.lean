import JvmDerived
import JvmDerived.Pilot.@@N@@Statement
import JvmDerived.Pilot.@@N@@Code
set_option linter.unusedVariables false
set_option linter.unusedSimpArgs false
namespace Jvm.OwnGo
open Sem ClassFile Op Lib Jvm.Stand Jvm.Free Jvm.LawKit Jvm.RoadKit
/-- one instruction: where it stands, what it is, its length, the next pc -/
def I1 (code : ByteArray) (pc : Nat) (i : Instr) (len pc' : Nat) : Prop := decode code pc = .ok (i, len) ∧ pc + len = pc'
/-- a branch: besides, where it leads -/
def B1 (code : ByteArray) (pc : Nat) (i : Instr) (o : Int) (pcT pcF : Nat) : Prop := decode code pc = .ok (i, 3) ∧ pc + 3 = pcF ∧ 0 ≤ (pc : Int) + o ∧ ((pc : Int) + o).toNat = pcT
/-- what is fixed while a body runs -/
def Cx (p : Program) (s : State) (m : MethodId) (meth : Method) (c : Code) (Z : State) (code : ByteArray) (maxL : Nat) (own : String) (ret : Option FieldType) : Prop :=
  p.tables.exec = Jvm.exec ∧ c.code = code ∧ c.maxLocals = maxL ∧ Z.Warmed39 s.vm ∧ s.vm.findClass own = some m.cls ∧ meth.sig.returnType = ret ∧ meth.locks = false
/-- from the frame g, over every state that stands there with the heap h, the body ends, and ends in Q -/
def Go (p : Program) (l : Launch) (e : Env) (R : Room) (s : State) (m : MethodId) (args : Array Value) (below : List Frame) (meth : Method) (c : Code) (n0 K N : Nat) (Q : Option Value → Heap → Prop) (h : Heap) (ck cn : Nat) (g : JFrame) : Prop :=
  ∀ (T : State) (locs : List Loc), Stand p l e R s m args below meth c T locs ck cn → T.heap = h → Fr n0 locs →
    ∃ s₂ o, Steps p.tables e below (T.setTop g) s₂ ∧ s₂.status = .running ∧ Ended s₂ below o ∧ ∃ v L, o = .returned v ∧ (Q v s₂.heap ∧ Fr n0 L) ∧ FrameEnd s o s₂ L K N
/-- a body's contract: from these arguments over this heap it returns as Q says, and writes nothing below n0 -/
def Ctr (l : Launch) (Z : State) (y : MethodName) (code : ByteArray) (maxL : Nat) (ret : Option FieldType) (rm : Room) (as' : Array Value) (h0 : Heap) (n0 : Nat) (Q : Option Value → Heap → Prop) : Prop :=
  ∀ ws : List Cond, MetFree l y (head1 (Cond.code y code maxL ret :: ws) rm) (fun a U => a = as' ∧ Z.Warmed39 U.vm ∧ U.heap = h0) (fun _ _ _ _ _ => True)
    (fun _ U o U' => ∃ v L, o = .returned v ∧ (Q v U'.heap ∧ Fr n0 L) ∧ FrameEnd U o U' L rm.cells rm.slots)
section
variable {p : Program} {l : Launch} {e : Env} {R : Room} {s : State} {m : MethodId} {args : Array Value} {below : List Frame} {meth : Method} {c : Code} {n0 K N : Nat} {Q : Option Value → Heap → Prop} {h : Heap} {ck cn : Nat} {Z : State} {a0 : Array Value} {code : ByteArray} {maxL : Nat} {own : String} {ret : Option FieldType}
theorem Ctr.of_go {y : MethodName} {rm : Room} {as' : Array Value} {h0 : Heap} {Ls : Array Slot} (hpl : plainFor y = true) (hef : ∀ m, entryFrame m as' maxL = mkF m 0 Ls [])
    (hgo : ∀ p e s m below meth c, meth.name = y.name → Cx p s m meth c Z code maxL y.cls ret → Go p l e rm s m as' below meth c n0 rm.cells rm.slots Q h0 0 0 (mkF m 0 Ls [])) : Ctr l Z y code maxL ret rm as' h0 n0 Q := fun ws => by
  refine MetFree.of_bodySF hpl hisR ?_
  intro p e s m args below meth c s₁ Bd hml0 hP hK
  obtain ⟨rfl, hZ, hh⟩ := hP
  have X0 : Stand p l e rm s m args below meth c s₁ [] 0 0 := Stand.of_body Bd
  have e0 : s₁.heap = h0 := by rw [← hh, Bd.state]; rfl
  obtain ⟨s₂, o, g1, g2, g3, v, L, g4, g5, g6⟩ := hgo p e s m below meth c (name_of_methodNamed Bd.named Bd.method).1 ⟨Bd.exec, Bd.bytes, hml0, hZ, findClass_of_methodNamed Bd.named, Bd.returns, Bd.notSynchronized⟩ s₁ [] X0 e0 (Fr.nil n0)
  exact ⟨s₂, o, castTop (hef m) g1, g2, g3, v, L, g4, g5, g6⟩
theorem Go.step {g g' : JFrame} (st : ∀ (T : State) (locs : List Loc), Stand p l e R s m args below meth c T locs ck cn → T.heap = h → ∀ target, Steps p.tables e below (T.setTop g') target → Steps p.tables e below (T.setTop g) target)
    (k : Go p l e R s m args below meth c n0 K N Q h ck cn g') : Go p l e R s m args below meth c n0 K N Q h ck cn g := fun T locs X eT hN => by
  obtain ⟨s₂, o, h1, r⟩ := k T locs X eT hN
  exact ⟨s₂, o, st T locs X eT _ h1, r⟩
/-- a step that moves the state: heap, counts -/
theorem Go.move {g g' : JFrame} {h' : Heap} {ck' cn' : Nat} {T : State} {locs : List Loc} (hN : Fr n0 locs) {T' : State} {locs' : List Loc} (X' : Stand p l e R s m args below meth c T' locs' ck' cn') (e' : T'.heap = h') (hN' : Fr n0 locs')
    (st : ∀ target, Steps p.tables e below (T'.setTop g') target → Steps p.tables e below (T.setTop g) target) (k : Go p l e R s m args below meth c n0 K N Q h' ck' cn' g') :
    ∃ s₂ o, Steps p.tables e below (T.setTop g) s₂ ∧ s₂.status = .running ∧ Ended s₂ below o ∧ ∃ v L, o = .returned v ∧ (Q v s₂.heap ∧ Fr n0 L) ∧ FrameEnd s o s₂ L K N := by
  obtain ⟨s₂, o, h1, r⟩ := k T' locs' X' e' hN'
  exact ⟨s₂, o, st _ h1, r⟩
theorem Go.join {g : JFrame} (g' : JFrame) (J : Go p l e R s m args below meth c n0 K N Q h ck cn g') (k : Go p l e R s m args below meth c n0 K N Q h ck cn g' → Go p l e R s m args below meth c n0 K N Q h ck cn g) : Go p l e R s m args below meth c n0 K N Q h ck cn g := k J
theorem Go.cast {g g' : JFrame} (k : Go p l e R s m args below meth c n0 K N Q h ck cn g') (q : g = g') : Go p l e R s m args below meth c n0 K N Q h ck cn g := q ▸ k
theorem Go.more {g : JFrame} {ck' cn' : Nat} (hc : ck ≤ ck') (hs : cn ≤ cn') (k : Go p l e R s m args below meth c n0 K N Q h ck' cn' g) : Go p l e R s m args below meth c n0 K N Q h ck cn g := fun T locs X eT hN => k T locs (X.more hc hs) eT hN
theorem Go.heap {g : JFrame} {h' : Heap} (q : h' = h) (k : Go p l e R s m args below meth c n0 K N Q h' ck cn g) : Go p l e R s m args below meth c n0 K N Q h ck cn g := q ▸ k
theorem Go.some' {v : Value} {pc : Nat} {Ls : Array Slot} {st : List Value} (k : Go p l e R s m args below meth c n0 K N Q h ck cn (mkF m pc Ls (v :: st))) : Go p l e R s m args below meth c n0 K N Q h ck cn (mkF m pc Ls ((some v).toList ++ st)) := k
theorem Go.none' {pc : Nat} {Ls : Array Slot} {st : List Value} (k : Go p l e R s m args below meth c n0 K N Q h ck cn (mkF m pc Ls st)) : Go p l e R s m args below meth c n0 K N Q h ck cn (mkF m pc Ls ((none : Option Value).toList ++ st)) := k
theorem g_iadd (C : Cx p s m meth c Z code maxL own ret) {pc pc' : Nat} {Ls : Array Slot} {st : List Value} {x y : Int32} (hd : I1 code pc (.iadd) 1 pc') (k : Go p l e R s m args below meth c n0 K N Q h ck cn (mkF m pc' Ls (.int (x + y) :: st))) : Go p l e R s m args below meth c n0 K N Q h ck cn (mkF m pc Ls (.int y :: .int x :: st)) := by
  obtain ⟨hd, rfl⟩ := hd
  exact Go.step (fun T locs X _ t k => XS.iadd X.here C.1 rfl (hb C.2.1 hd) rfl k) k
theorem g_isub (C : Cx p s m meth c Z code maxL own ret) {pc pc' : Nat} {Ls : Array Slot} {st : List Value} {x y : Int32} (hd : I1 code pc (.isub) 1 pc') (k : Go p l e R s m args below meth c n0 K N Q h ck cn (mkF m pc' Ls (.int (x - y) :: st))) : Go p l e R s m args below meth c n0 K N Q h ck cn (mkF m pc Ls (.int y :: .int x :: st)) := by
  obtain ⟨hd, rfl⟩ := hd
  exact Go.step (fun T locs X _ t k => XS.isub X.here C.1 rfl (hb C.2.1 hd) rfl k) k
theorem g_imul (C : Cx p s m meth c Z code maxL own ret) {pc pc' : Nat} {Ls : Array Slot} {st : List Value} {x y : Int32} (hd : I1 code pc (.imul) 1 pc') (k : Go p l e R s m args below meth c n0 K N Q h ck cn (mkF m pc' Ls (.int (x * y) :: st))) : Go p l e R s m args below meth c n0 K N Q h ck cn (mkF m pc Ls (.int y :: .int x :: st)) := by
  obtain ⟨hd, rfl⟩ := hd
  exact Go.step (fun T locs X _ t k => XS.imul X.here C.1 rfl (hb C.2.1 hd) rfl k) k
theorem g_iand (C : Cx p s m meth c Z code maxL own ret) {pc pc' : Nat} {Ls : Array Slot} {st : List Value} {x y : Int32} (hd : I1 code pc (.iand) 1 pc') (k : Go p l e R s m args below meth c n0 K N Q h ck cn (mkF m pc' Ls (.int (x &&& y) :: st))) : Go p l e R s m args below meth c n0 K N Q h ck cn (mkF m pc Ls (.int y :: .int x :: st)) := by
  obtain ⟨hd, rfl⟩ := hd
  exact Go.step (fun T locs X _ t k => XS.iand X.here C.1 rfl (hb C.2.1 hd) rfl k) k
theorem g_ior (C : Cx p s m meth c Z code maxL own ret) {pc pc' : Nat} {Ls : Array Slot} {st : List Value} {x y : Int32} (hd : I1 code pc (.ior) 1 pc') (k : Go p l e R s m args below meth c n0 K N Q h ck cn (mkF m pc' Ls (.int (x ||| y) :: st))) : Go p l e R s m args below meth c n0 K N Q h ck cn (mkF m pc Ls (.int y :: .int x :: st)) := by
  obtain ⟨hd, rfl⟩ := hd
  exact Go.step (fun T locs X _ t k => XS.ior X.here C.1 rfl (hb C.2.1 hd) rfl k) k
theorem g_ixor (C : Cx p s m meth c Z code maxL own ret) {pc pc' : Nat} {Ls : Array Slot} {st : List Value} {x y : Int32} (hd : I1 code pc (.ixor) 1 pc') (k : Go p l e R s m args below meth c n0 K N Q h ck cn (mkF m pc' Ls (.int (x ^^^ y) :: st))) : Go p l e R s m args below meth c n0 K N Q h ck cn (mkF m pc Ls (.int y :: .int x :: st)) := by
  obtain ⟨hd, rfl⟩ := hd
  exact Go.step (fun T locs X _ t k => XS.ixor X.here C.1 rfl (hb C.2.1 hd) rfl k) k
theorem g_ishl (C : Cx p s m meth c Z code maxL own ret) {pc pc' : Nat} {Ls : Array Slot} {st : List Value} {x y : Int32} (hd : I1 code pc (.ishl) 1 pc') (k : Go p l e R s m args below meth c n0 K N Q h ck cn (mkF m pc' Ls (.int (x <<< (y &&& 31)) :: st))) : Go p l e R s m args below meth c n0 K N Q h ck cn (mkF m pc Ls (.int y :: .int x :: st)) := by
  obtain ⟨hd, rfl⟩ := hd
  exact Go.step (fun T locs X _ t k => XS.ishl X.here C.1 rfl (hb C.2.1 hd) rfl k) k
theorem g_ishr (C : Cx p s m meth c Z code maxL own ret) {pc pc' : Nat} {Ls : Array Slot} {st : List Value} {x y : Int32} (hd : I1 code pc (.ishr) 1 pc') (k : Go p l e R s m args below meth c n0 K N Q h ck cn (mkF m pc' Ls (.int (x >>> (y &&& 31)) :: st))) : Go p l e R s m args below meth c n0 K N Q h ck cn (mkF m pc Ls (.int y :: .int x :: st)) := by
  obtain ⟨hd, rfl⟩ := hd
  exact Go.step (fun T locs X _ t k => XS.ishr X.here C.1 rfl (hb C.2.1 hd) rfl k) k
theorem g_iushr (C : Cx p s m meth c Z code maxL own ret) {pc pc' : Nat} {Ls : Array Slot} {st : List Value} {x y : Int32} (hd : I1 code pc (.iushr) 1 pc') (k : Go p l e R s m args below meth c n0 K N Q h ck cn (mkF m pc' Ls (.int ((x.toUInt32 >>> (y &&& 31).toUInt32).toInt32) :: st))) : Go p l e R s m args below meth c n0 K N Q h ck cn (mkF m pc Ls (.int y :: .int x :: st)) := by
  obtain ⟨hd, rfl⟩ := hd
  exact Go.step (fun T locs X _ t k => XS.iushr X.here C.1 rfl (hb C.2.1 hd) rfl k) k
theorem g_ladd (C : Cx p s m meth c Z code maxL own ret) {pc pc' : Nat} {Ls : Array Slot} {st : List Value} {x y : Int64} (hd : I1 code pc (.ladd) 1 pc') (k : Go p l e R s m args below meth c n0 K N Q h ck cn (mkF m pc' Ls (.long (x + y) :: st))) : Go p l e R s m args below meth c n0 K N Q h ck cn (mkF m pc Ls (.long y :: .long x :: st)) := by
  obtain ⟨hd, rfl⟩ := hd
  exact Go.step (fun T locs X _ t k => XS.ladd X.here C.1 rfl (hb C.2.1 hd) rfl k) k
theorem g_lsub (C : Cx p s m meth c Z code maxL own ret) {pc pc' : Nat} {Ls : Array Slot} {st : List Value} {x y : Int64} (hd : I1 code pc (.lsub) 1 pc') (k : Go p l e R s m args below meth c n0 K N Q h ck cn (mkF m pc' Ls (.long (x - y) :: st))) : Go p l e R s m args below meth c n0 K N Q h ck cn (mkF m pc Ls (.long y :: .long x :: st)) := by
  obtain ⟨hd, rfl⟩ := hd
  exact Go.step (fun T locs X _ t k => XS.lsub X.here C.1 rfl (hb C.2.1 hd) rfl k) k
theorem g_lmul (C : Cx p s m meth c Z code maxL own ret) {pc pc' : Nat} {Ls : Array Slot} {st : List Value} {x y : Int64} (hd : I1 code pc (.lmul) 1 pc') (k : Go p l e R s m args below meth c n0 K N Q h ck cn (mkF m pc' Ls (.long (x * y) :: st))) : Go p l e R s m args below meth c n0 K N Q h ck cn (mkF m pc Ls (.long y :: .long x :: st)) := by
  obtain ⟨hd, rfl⟩ := hd
  exact Go.step (fun T locs X _ t k => XS.lmul X.here C.1 rfl (hb C.2.1 hd) rfl k) k
theorem g_land (C : Cx p s m meth c Z code maxL own ret) {pc pc' : Nat} {Ls : Array Slot} {st : List Value} {x y : Int64} (hd : I1 code pc (.land) 1 pc') (k : Go p l e R s m args below meth c n0 K N Q h ck cn (mkF m pc' Ls (.long (x &&& y) :: st))) : Go p l e R s m args below meth c n0 K N Q h ck cn (mkF m pc Ls (.long y :: .long x :: st)) := by
  obtain ⟨hd, rfl⟩ := hd
  exact Go.step (fun T locs X _ t k => XS.land X.here C.1 rfl (hb C.2.1 hd) rfl k) k
theorem g_lor (C : Cx p s m meth c Z code maxL own ret) {pc pc' : Nat} {Ls : Array Slot} {st : List Value} {x y : Int64} (hd : I1 code pc (.lor) 1 pc') (k : Go p l e R s m args below meth c n0 K N Q h ck cn (mkF m pc' Ls (.long (x ||| y) :: st))) : Go p l e R s m args below meth c n0 K N Q h ck cn (mkF m pc Ls (.long y :: .long x :: st)) := by
  obtain ⟨hd, rfl⟩ := hd
  exact Go.step (fun T locs X _ t k => XS.lor X.here C.1 rfl (hb C.2.1 hd) rfl k) k
theorem g_lxor (C : Cx p s m meth c Z code maxL own ret) {pc pc' : Nat} {Ls : Array Slot} {st : List Value} {x y : Int64} (hd : I1 code pc (.lxor) 1 pc') (k : Go p l e R s m args below meth c n0 K N Q h ck cn (mkF m pc' Ls (.long (x ^^^ y) :: st))) : Go p l e R s m args below meth c n0 K N Q h ck cn (mkF m pc Ls (.long y :: .long x :: st)) := by
  obtain ⟨hd, rfl⟩ := hd
  exact Go.step (fun T locs X _ t k => XS.lxor X.here C.1 rfl (hb C.2.1 hd) rfl k) k
theorem g_lshl (C : Cx p s m meth c Z code maxL own ret) {pc pc' : Nat} {Ls : Array Slot} {st : List Value} {x : Int64} {y : Int32} (hd : I1 code pc (.lshl) 1 pc') (k : Go p l e R s m args below meth c n0 K N Q h ck cn (mkF m pc' Ls (.long (x <<< (y &&& 0x3f).toInt64) :: st))) : Go p l e R s m args below meth c n0 K N Q h ck cn (mkF m pc Ls (.int y :: .long x :: st)) := by
  obtain ⟨hd, rfl⟩ := hd
  exact Go.step (fun T locs X _ t k => XS.lshl X.here C.1 rfl (hb C.2.1 hd) rfl k) k
theorem g_lshr (C : Cx p s m meth c Z code maxL own ret) {pc pc' : Nat} {Ls : Array Slot} {st : List Value} {x : Int64} {y : Int32} (hd : I1 code pc (.lshr) 1 pc') (k : Go p l e R s m args below meth c n0 K N Q h ck cn (mkF m pc' Ls (.long (x >>> (y &&& 0x3f).toInt64) :: st))) : Go p l e R s m args below meth c n0 K N Q h ck cn (mkF m pc Ls (.int y :: .long x :: st)) := by
  obtain ⟨hd, rfl⟩ := hd
  exact Go.step (fun T locs X _ t k => XS.lshr X.here C.1 rfl (hb C.2.1 hd) rfl k) k
theorem g_lushr (C : Cx p s m meth c Z code maxL own ret) {pc pc' : Nat} {Ls : Array Slot} {st : List Value} {x : Int64} {y : Int32} (hd : I1 code pc (.lushr) 1 pc') (k : Go p l e R s m args below meth c n0 K N Q h ck cn (mkF m pc' Ls (.long ((x.toUInt64 >>> (y &&& 0x3f).toInt64.toUInt64).toInt64) :: st))) : Go p l e R s m args below meth c n0 K N Q h ck cn (mkF m pc Ls (.int y :: .long x :: st)) := by
  obtain ⟨hd, rfl⟩ := hd
  exact Go.step (fun T locs X _ t k => XS.lushr X.here C.1 rfl (hb C.2.1 hd) rfl k) k
theorem g_lcmp (C : Cx p s m meth c Z code maxL own ret) {pc pc' : Nat} {Ls : Array Slot} {st : List Value} {x y : Int64} (hd : I1 code pc (.lcmp) 1 pc') (k : Go p l e R s m args below meth c n0 K N Q h ck cn (mkF m pc' Ls (.int (lcmpW x y) :: st))) : Go p l e R s m args below meth c n0 K N Q h ck cn (mkF m pc Ls (.long y :: .long x :: st)) := by
  obtain ⟨hd, rfl⟩ := hd
  exact Go.step (fun T locs X _ t k => XS.lcmp X.here C.1 rfl (hb C.2.1 hd) rfl k) k
theorem g_ineg (C : Cx p s m meth c Z code maxL own ret) {pc pc' : Nat} {Ls : Array Slot} {st : List Value} {x : Int32} (hd : I1 code pc (.ineg) 1 pc') (k : Go p l e R s m args below meth c n0 K N Q h ck cn (mkF m pc' Ls (.int (-x) :: st))) : Go p l e R s m args below meth c n0 K N Q h ck cn (mkF m pc Ls (.int x :: st)) := by
  obtain ⟨hd, rfl⟩ := hd
  exact Go.step (fun T locs X _ t k => XS.ineg X.here C.1 rfl (hb C.2.1 hd) rfl k) k
theorem g_lneg (C : Cx p s m meth c Z code maxL own ret) {pc pc' : Nat} {Ls : Array Slot} {st : List Value} {x : Int64} (hd : I1 code pc (.lneg) 1 pc') (k : Go p l e R s m args below meth c n0 K N Q h ck cn (mkF m pc' Ls (.long (-x) :: st))) : Go p l e R s m args below meth c n0 K N Q h ck cn (mkF m pc Ls (.long x :: st)) := by
  obtain ⟨hd, rfl⟩ := hd
  exact Go.step (fun T locs X _ t k => XS.lneg X.here C.1 rfl (hb C.2.1 hd) rfl k) k
theorem g_i2l (C : Cx p s m meth c Z code maxL own ret) {pc pc' : Nat} {Ls : Array Slot} {st : List Value} {x : Int32} (hd : I1 code pc (.i2l) 1 pc') (k : Go p l e R s m args below meth c n0 K N Q h ck cn (mkF m pc' Ls (.long x.toInt64 :: st))) : Go p l e R s m args below meth c n0 K N Q h ck cn (mkF m pc Ls (.int x :: st)) := by
  obtain ⟨hd, rfl⟩ := hd
  exact Go.step (fun T locs X _ t k => XS.i2l X.here C.1 rfl (hb C.2.1 hd) rfl k) k
theorem g_l2i (C : Cx p s m meth c Z code maxL own ret) {pc pc' : Nat} {Ls : Array Slot} {st : List Value} {x : Int64} (hd : I1 code pc (.l2i) 1 pc') (k : Go p l e R s m args below meth c n0 K N Q h ck cn (mkF m pc' Ls (.int x.toInt32 :: st))) : Go p l e R s m args below meth c n0 K N Q h ck cn (mkF m pc Ls (.long x :: st)) := by
  obtain ⟨hd, rfl⟩ := hd
  exact Go.step (fun T locs X _ t k => XS.l2i X.here C.1 rfl (hb C.2.1 hd) rfl k) k
theorem g_i2b (C : Cx p s m meth c Z code maxL own ret) {pc pc' : Nat} {Ls : Array Slot} {st : List Value} {x : Int32} (hd : I1 code pc (.i2b) 1 pc') (k : Go p l e R s m args below meth c n0 K N Q h ck cn (mkF m pc' Ls (.int x.toInt8.toInt32 :: st))) : Go p l e R s m args below meth c n0 K N Q h ck cn (mkF m pc Ls (.int x :: st)) := by
  obtain ⟨hd, rfl⟩ := hd
  exact Go.step (fun T locs X _ t k => XS.i2b X.here C.1 rfl (hb C.2.1 hd) rfl k) k
theorem g_i2s (C : Cx p s m meth c Z code maxL own ret) {pc pc' : Nat} {Ls : Array Slot} {st : List Value} {x : Int32} (hd : I1 code pc (.i2s) 1 pc') (k : Go p l e R s m args below meth c n0 K N Q h ck cn (mkF m pc' Ls (.int x.toInt16.toInt32 :: st))) : Go p l e R s m args below meth c n0 K N Q h ck cn (mkF m pc Ls (.int x :: st)) := by
  obtain ⟨hd, rfl⟩ := hd
  exact Go.step (fun T locs X _ t k => XS.i2s X.here C.1 rfl (hb C.2.1 hd) rfl k) k
theorem g_i2c (C : Cx p s m meth c Z code maxL own ret) {pc pc' : Nat} {Ls : Array Slot} {st : List Value} {x : Int32} (hd : I1 code pc (.i2c) 1 pc') (k : Go p l e R s m args below meth c n0 K N Q h ck cn (mkF m pc' Ls (.int x.toUInt32.toUInt16.toUInt32.toInt32 :: st))) : Go p l e R s m args below meth c n0 K N Q h ck cn (mkF m pc Ls (.int x :: st)) := by
  obtain ⟨hd, rfl⟩ := hd
  exact Go.step (fun T locs X _ t k => XS.i2c X.here C.1 rfl (hb C.2.1 hd) rfl k) k
theorem g_idiv (C : Cx p s m meth c Z code maxL own ret) {pc pc' : Nat} {Ls : Array Slot} {st : List Value} {x y : Int32} (hd : I1 code pc (.idiv) 1 pc') (hy : y ≠ 0) (k : Go p l e R s m args below meth c n0 K N Q h ck cn (mkF m pc' Ls (.int (x / y) :: st))) : Go p l e R s m args below meth c n0 K N Q h ck cn (mkF m pc Ls (.int y :: .int x :: st)) := by
  obtain ⟨hd, rfl⟩ := hd
  exact Go.step (fun T locs X _ t k => XS.idiv X.here C.1 rfl (hb C.2.1 hd) rfl hy k) k
theorem g_ldiv (C : Cx p s m meth c Z code maxL own ret) {pc pc' : Nat} {Ls : Array Slot} {st : List Value} {x y : Int64} (hd : I1 code pc (.ldiv) 1 pc') (hy : y ≠ 0) (k : Go p l e R s m args below meth c n0 K N Q h ck cn (mkF m pc' Ls (.long (x / y) :: st))) : Go p l e R s m args below meth c n0 K N Q h ck cn (mkF m pc Ls (.long y :: .long x :: st)) := by
  obtain ⟨hd, rfl⟩ := hd
  exact Go.step (fun T locs X _ t k => XS.ldiv X.here C.1 rfl (hb C.2.1 hd) rfl hy k) k
theorem g_irem (C : Cx p s m meth c Z code maxL own ret) {pc pc' : Nat} {Ls : Array Slot} {st : List Value} {x y : Int32} (hd : I1 code pc .irem 1 pc') (hy : y ≠ 0) (k : Go p l e R s m args below meth c n0 K N Q h ck cn (mkF m pc' Ls (.int (x % y) :: st))) : Go p l e R s m args below meth c n0 K N Q h ck cn (mkF m pc Ls (.int y :: .int x :: st)) := by
  obtain ⟨hd, rfl⟩ := hd
  exact Go.step (fun T locs X _ t k => iremM X C.1 rfl (hb C.2.1 hd) rfl hy k) k
theorem g_lrem (C : Cx p s m meth c Z code maxL own ret) {pc pc' : Nat} {Ls : Array Slot} {st : List Value} {x y : Int64} (hd : I1 code pc .lrem 1 pc') (hy : y ≠ 0) (k : Go p l e R s m args below meth c n0 K N Q h ck cn (mkF m pc' Ls (.long (x % y) :: st))) : Go p l e R s m args below meth c n0 K N Q h ck cn (mkF m pc Ls (.long y :: .long x :: st)) := by
  obtain ⟨hd, rfl⟩ := hd
  exact Go.step (fun T locs X _ t k => XS.lrem X.here C.1 rfl (hb C.2.1 hd) rfl hy (by rw [lrem_mod]; exact k)) k
theorem g_iloadN (C : Cx p s m meth c Z code maxL own ret) {pc pc' : Nat} {Ls : Array Slot} {st : List Value} {k : Fin 4} {v : Int32} (hd : I1 code pc (.iload_n k) 1 pc') (hl : Ls[k.val]? = some (.val (.int v))) (k : Go p l e R s m args below meth c n0 K N Q h ck cn (mkF m pc' Ls (.int v :: st))) : Go p l e R s m args below meth c n0 K N Q h ck cn (mkF m pc Ls (st)) := by
  obtain ⟨hd, rfl⟩ := hd
  exact Go.step (fun T locs X _ t k => XS.iloadN X.here C.1 rfl (hb C.2.1 hd) hl k) k
theorem g_iload (C : Cx p s m meth c Z code maxL own ret) {pc pc' : Nat} {Ls : Array Slot} {st : List Value} {k : Nat} {v : Int32} (hd : I1 code pc (.iload k) 2 pc') (hl : Ls[k]? = some (.val (.int v))) (k : Go p l e R s m args below meth c n0 K N Q h ck cn (mkF m pc' Ls (.int v :: st))) : Go p l e R s m args below meth c n0 K N Q h ck cn (mkF m pc Ls (st)) := by
  obtain ⟨hd, rfl⟩ := hd
  exact Go.step (fun T locs X _ t k => XS.iload X.here C.1 rfl (hb C.2.1 hd) hl k) k
theorem g_istoreN (C : Cx p s m meth c Z code maxL own ret) {pc pc' : Nat} {Ls : Array Slot} {st : List Value} {k : Fin 4} {x : Int32} {Ls' : Array Slot} (hd : I1 code pc (.istore_n k) 1 pc') (hl : storeLocals Ls k.val (.int x) = some Ls') (k : Go p l e R s m args below meth c n0 K N Q h ck cn (mkF m pc' Ls' (st))) : Go p l e R s m args below meth c n0 K N Q h ck cn (mkF m pc Ls (.int x :: st)) := by
  obtain ⟨hd, rfl⟩ := hd
  exact Go.step (fun T locs X _ t k => XS.istoreN X.here C.1 rfl (hb C.2.1 hd) rfl hl k) k
theorem g_istore (C : Cx p s m meth c Z code maxL own ret) {pc pc' : Nat} {Ls : Array Slot} {st : List Value} {k : Nat} {x : Int32} {Ls' : Array Slot} (hd : I1 code pc (.istore k) 2 pc') (hl : storeLocals Ls k (.int x) = some Ls') (k : Go p l e R s m args below meth c n0 K N Q h ck cn (mkF m pc' Ls' (st))) : Go p l e R s m args below meth c n0 K N Q h ck cn (mkF m pc Ls (.int x :: st)) := by
  obtain ⟨hd, rfl⟩ := hd
  exact Go.step (fun T locs X _ t k => XS.istore X.here C.1 rfl (hb C.2.1 hd) rfl hl k) k
theorem g_lloadN (C : Cx p s m meth c Z code maxL own ret) {pc pc' : Nat} {Ls : Array Slot} {st : List Value} {k : Fin 4} {v : Int64} (hd : I1 code pc (.lload_n k) 1 pc') (hl : Ls[k.val]? = some (.val (.long v))) (k : Go p l e R s m args below meth c n0 K N Q h ck cn (mkF m pc' Ls (.long v :: st))) : Go p l e R s m args below meth c n0 K N Q h ck cn (mkF m pc Ls (st)) := by
  obtain ⟨hd, rfl⟩ := hd
  exact Go.step (fun T locs X _ t k => XS.lloadN X.here C.1 rfl (hb C.2.1 hd) hl k) k
theorem g_lload (C : Cx p s m meth c Z code maxL own ret) {pc pc' : Nat} {Ls : Array Slot} {st : List Value} {k : Nat} {v : Int64} (hd : I1 code pc (.lload k) 2 pc') (hl : Ls[k]? = some (.val (.long v))) (k : Go p l e R s m args below meth c n0 K N Q h ck cn (mkF m pc' Ls (.long v :: st))) : Go p l e R s m args below meth c n0 K N Q h ck cn (mkF m pc Ls (st)) := by
  obtain ⟨hd, rfl⟩ := hd
  exact Go.step (fun T locs X _ t k => XS.lload X.here C.1 rfl (hb C.2.1 hd) hl k) k
theorem g_lstoreN (C : Cx p s m meth c Z code maxL own ret) {pc pc' : Nat} {Ls : Array Slot} {st : List Value} {k : Fin 4} {x : Int64} {Ls' : Array Slot} (hd : I1 code pc (.lstore_n k) 1 pc') (hl : storeLocals Ls k.val (.long x) = some Ls') (k : Go p l e R s m args below meth c n0 K N Q h ck cn (mkF m pc' Ls' (st))) : Go p l e R s m args below meth c n0 K N Q h ck cn (mkF m pc Ls (.long x :: st)) := by
  obtain ⟨hd, rfl⟩ := hd
  exact Go.step (fun T locs X _ t k => XS.lstoreN X.here C.1 rfl (hb C.2.1 hd) rfl hl k) k
theorem g_lstore (C : Cx p s m meth c Z code maxL own ret) {pc pc' : Nat} {Ls : Array Slot} {st : List Value} {k : Nat} {x : Int64} {Ls' : Array Slot} (hd : I1 code pc (.lstore k) 2 pc') (hl : storeLocals Ls k (.long x) = some Ls') (k : Go p l e R s m args below meth c n0 K N Q h ck cn (mkF m pc' Ls' (st))) : Go p l e R s m args below meth c n0 K N Q h ck cn (mkF m pc Ls (.long x :: st)) := by
  obtain ⟨hd, rfl⟩ := hd
  exact Go.step (fun T locs X _ t k => XS.lstore X.here C.1 rfl (hb C.2.1 hd) rfl hl k) k
theorem g_aloadN (C : Cx p s m meth c Z code maxL own ret) {pc pc' : Nat} {Ls : Array Slot} {st : List Value} {k : Fin 4} {v : Value} (hd : I1 code pc (.aload_n k) 1 pc') (hl : Ls[k.val]? = some (.val v)) (hv : v.isRef = true) (k : Go p l e R s m args below meth c n0 K N Q h ck cn (mkF m pc' Ls (v :: st))) : Go p l e R s m args below meth c n0 K N Q h ck cn (mkF m pc Ls (st)) := by
  obtain ⟨hd, rfl⟩ := hd
  exact Go.step (fun T locs X _ t k => XS.aloadN X.here C.1 rfl (hb C.2.1 hd) hl hv k) k
theorem g_aload (C : Cx p s m meth c Z code maxL own ret) {pc pc' : Nat} {Ls : Array Slot} {st : List Value} {k : Nat} {v : Value} (hd : I1 code pc (.aload k) 2 pc') (hl : Ls[k]? = some (.val v)) (hv : v.isRef = true) (k : Go p l e R s m args below meth c n0 K N Q h ck cn (mkF m pc' Ls (v :: st))) : Go p l e R s m args below meth c n0 K N Q h ck cn (mkF m pc Ls (st)) := by
  obtain ⟨hd, rfl⟩ := hd
  exact Go.step (fun T locs X _ t k => XS.aload X.here C.1 rfl (hb C.2.1 hd) hl hv k) k
theorem g_astoreN (C : Cx p s m meth c Z code maxL own ret) {pc pc' : Nat} {Ls : Array Slot} {st : List Value} {k : Fin 4} {x : Value} {Ls' : Array Slot} (hd : I1 code pc (.astore_n k) 1 pc') (hv : x.isRef = true) (hl : storeLocals Ls k.val x = some Ls') (k : Go p l e R s m args below meth c n0 K N Q h ck cn (mkF m pc' Ls' (st))) : Go p l e R s m args below meth c n0 K N Q h ck cn (mkF m pc Ls (x :: st)) := by
  obtain ⟨hd, rfl⟩ := hd
  exact Go.step (fun T locs X _ t k => XS.astoreN X.here C.1 rfl (hb C.2.1 hd) rfl hv hl k) k
theorem g_astore (C : Cx p s m meth c Z code maxL own ret) {pc pc' : Nat} {Ls : Array Slot} {st : List Value} {k : Nat} {x : Value} {Ls' : Array Slot} (hd : I1 code pc (.astore k) 2 pc') (hv : x.isRef = true) (hl : storeLocals Ls k x = some Ls') (k : Go p l e R s m args below meth c n0 K N Q h ck cn (mkF m pc' Ls' (st))) : Go p l e R s m args below meth c n0 K N Q h ck cn (mkF m pc Ls (x :: st)) := by
  obtain ⟨hd, rfl⟩ := hd
  exact Go.step (fun T locs X _ t k => XS.astore X.here C.1 rfl (hb C.2.1 hd) rfl hv hl k) k
theorem g_iinc (C : Cx p s m meth c Z code maxL own ret) {pc pc' : Nat} {Ls : Array Slot} {st : List Value} {k : Nat} {cst : Int} {x : Int32} {Ls' : Array Slot} (hd : I1 code pc (.iinc k cst) 3 pc') (hl : Ls[k]? = some (.val (.int x))) (hl' : storeLocals Ls k (.int (x + Int32.ofInt cst)) = some Ls') (k : Go p l e R s m args below meth c n0 K N Q h ck cn (mkF m pc' Ls' (st))) : Go p l e R s m args below meth c n0 K N Q h ck cn (mkF m pc Ls (st)) := by
  obtain ⟨hd, rfl⟩ := hd
  exact Go.step (fun T locs X _ t k => XS.iinc X.here C.1 rfl (hb C.2.1 hd) hl hl' k) k
theorem g_iconst (C : Cx p s m meth c Z code maxL own ret) {pc pc' : Nat} {Ls : Array Slot} {st : List Value} {i : Int} (v : Int32) (hd : I1 code pc (.iconst i) 1 pc') (hv : Int32.ofInt i = v) (k : Go p l e R s m args below meth c n0 K N Q h ck cn (mkF m pc' Ls (.int v :: st))) : Go p l e R s m args below meth c n0 K N Q h ck cn (mkF m pc Ls st) := by
  obtain ⟨hd, rfl⟩ := hd
  subst hv
  exact Go.step (fun T locs X _ t k => XS.iconst X.here C.1 rfl (hb C.2.1 hd) k) k
theorem g_bipush (C : Cx p s m meth c Z code maxL own ret) {pc pc' : Nat} {Ls : Array Slot} {st : List Value} {i : Int} (v : Int32) (hd : I1 code pc (.bipush i) 2 pc') (hv : (Int8.ofInt i).toInt32 = v) (k : Go p l e R s m args below meth c n0 K N Q h ck cn (mkF m pc' Ls (.int v :: st))) : Go p l e R s m args below meth c n0 K N Q h ck cn (mkF m pc Ls st) := by
  obtain ⟨hd, rfl⟩ := hd
  subst hv
  exact Go.step (fun T locs X _ t k => XS.bipush X.here C.1 rfl (hb C.2.1 hd) k) k
theorem g_sipush (C : Cx p s m meth c Z code maxL own ret) {pc pc' : Nat} {Ls : Array Slot} {st : List Value} {i : Int} (v : Int32) (hd : I1 code pc (.sipush i) 3 pc') (hv : (Int16.ofInt i).toInt32 = v) (k : Go p l e R s m args below meth c n0 K N Q h ck cn (mkF m pc' Ls (.int v :: st))) : Go p l e R s m args below meth c n0 K N Q h ck cn (mkF m pc Ls st) := by
  obtain ⟨hd, rfl⟩ := hd
  subst hv
  exact Go.step (fun T locs X _ t k => XS.sipush X.here C.1 rfl (hb C.2.1 hd) k) k
theorem g_lconst (C : Cx p s m meth c Z code maxL own ret) {pc pc' : Nat} {Ls : Array Slot} {st : List Value} {i : Fin 2} (v : Int64) (hd : I1 code pc (.lconst i) 1 pc') (hv : Int64.ofNat i = v) (k : Go p l e R s m args below meth c n0 K N Q h ck cn (mkF m pc' Ls (.long v :: st))) : Go p l e R s m args below meth c n0 K N Q h ck cn (mkF m pc Ls st) := by
  obtain ⟨hd, rfl⟩ := hd
  subst hv
  exact Go.step (fun T locs X _ t k => XS.lconst X.here C.1 rfl (hb C.2.1 hd) k) k
theorem g_aconstNull (C : Cx p s m meth c Z code maxL own ret) {pc pc' : Nat} {Ls : Array Slot} {st : List Value}  (hd : I1 code pc (.aconst_null) 1 pc') (k : Go p l e R s m args below meth c n0 K N Q h ck cn (mkF m pc' Ls (.null :: st))) : Go p l e R s m args below meth c n0 K N Q h ck cn (mkF m pc Ls (st)) := by
  obtain ⟨hd, rfl⟩ := hd
  exact Go.step (fun T locs X _ t k => XS.aconstNull X.here C.1 rfl (hb C.2.1 hd)  k) k
theorem g_ldcInt (C : Cx p s m meth c Z code maxL own ret) {pc pc' : Nat} {Ls : Array Slot} {st : List Value} {i : Nat} {v : Int32} (hd : I1 code pc (.ldc i) 2 pc') (w : (Cond.constant own i v).before a0 Z = true) (k : Go p l e R s m args below meth c n0 K N Q h ck cn (mkF m pc' Ls (.int v :: st))) : Go p l e R s m args below meth c n0 K N Q h ck cn (mkF m pc Ls st) := by
  obtain ⟨hd, rfl⟩ := hd
  exact Go.step (fun T locs X _ t k => X.ldcInt C.1 C.2.2.2.2.1 (mvT C.2.2.2.1 w) (g := mkF m pc Ls st) rfl (hb C.2.1 hd) _ k) k
theorem g_ldcwInt (C : Cx p s m meth c Z code maxL own ret) {pc pc' : Nat} {Ls : Array Slot} {st : List Value} {i : Nat} {v : Int32} (hd : I1 code pc (.ldc_w i) 3 pc') (w : (Cond.constant own i v).before a0 Z = true) (k : Go p l e R s m args below meth c n0 K N Q h ck cn (mkF m pc' Ls (.int v :: st))) : Go p l e R s m args below meth c n0 K N Q h ck cn (mkF m pc Ls st) := by
  obtain ⟨hd, rfl⟩ := hd
  exact Go.step (fun T locs X _ t k => X.ldcwInt C.1 C.2.2.2.2.1 (mvT C.2.2.2.1 w) (g := mkF m pc Ls st) rfl (hb C.2.1 hd) _ k) k
theorem g_ldc2Long (C : Cx p s m meth c Z code maxL own ret) {pc pc' : Nat} {Ls : Array Slot} {st : List Value} {i : Nat} {v : Int64} (hd : I1 code pc (.ldc2_w i) 3 pc') (w : (Cond.constantLong own i v).before a0 Z = true) (k : Go p l e R s m args below meth c n0 K N Q h ck cn (mkF m pc' Ls (.long v :: st))) : Go p l e R s m args below meth c n0 K N Q h ck cn (mkF m pc Ls st) := by
  obtain ⟨hd, rfl⟩ := hd
  exact Go.step (fun T locs X _ t k => X.ldc2Long C.1 C.2.2.2.2.1 (mvT C.2.2.2.1 w) (g := mkF m pc Ls st) rfl (hb C.2.1 hd) _ k) k
theorem g_dup (C : Cx p s m meth c Z code maxL own ret) {pc pc' : Nat} {Ls : Array Slot} {st : List Value} {x : Value} (hd : I1 code pc (.dup) 1 pc') (hc : x.category = 1) (k : Go p l e R s m args below meth c n0 K N Q h ck cn (mkF m pc' Ls (x :: x :: st))) : Go p l e R s m args below meth c n0 K N Q h ck cn (mkF m pc Ls (x :: st)) := by
  obtain ⟨hd, rfl⟩ := hd
  exact Go.step (fun T locs X _ t k => XS.dup X.here C.1 rfl (hb C.2.1 hd) rfl hc k) k
theorem g_pop (C : Cx p s m meth c Z code maxL own ret) {pc pc' : Nat} {Ls : Array Slot} {st : List Value} {x : Value} (hd : I1 code pc (.pop) 1 pc') (hc : x.category = 1) (k : Go p l e R s m args below meth c n0 K N Q h ck cn (mkF m pc' Ls (st))) : Go p l e R s m args below meth c n0 K N Q h ck cn (mkF m pc Ls (x :: st)) := by
  obtain ⟨hd, rfl⟩ := hd
  exact Go.step (fun T locs X _ t k => XS.pop X.here C.1 rfl (hb C.2.1 hd) rfl hc k) k
theorem g_dupX1 (C : Cx p s m meth c Z code maxL own ret) {pc pc' : Nat} {Ls : Array Slot} {st : List Value} {x y : Value} (hd : I1 code pc (.dup_x1) 1 pc') (hc : x.category = 1) (hc' : y.category = 1) (k : Go p l e R s m args below meth c n0 K N Q h ck cn (mkF m pc' Ls (x :: y :: x :: st))) : Go p l e R s m args below meth c n0 K N Q h ck cn (mkF m pc Ls (x :: y :: st)) := by
  obtain ⟨hd, rfl⟩ := hd
  exact Go.step (fun T locs X _ t k => XS.dupX1 X.here C.1 rfl (hb C.2.1 hd) rfl hc hc' k) k
theorem g_dup2 (C : Cx p s m meth c Z code maxL own ret) {pc pc' : Nat} {Ls : Array Slot} {st : List Value} {x y : Value} (hd : I1 code pc (.dup2) 1 pc') (hc : x.category = 1) (hc' : y.category = 1) (k : Go p l e R s m args below meth c n0 K N Q h ck cn (mkF m pc' Ls (x :: y :: x :: y :: st))) : Go p l e R s m args below meth c n0 K N Q h ck cn (mkF m pc Ls (x :: y :: st)) := by
  obtain ⟨hd, rfl⟩ := hd
  exact Go.step (fun T locs X _ t k => Jvm.Free.XT.dup2 X.here C.1 rfl (hb C.2.1 hd) rfl hc hc' k) k
theorem g_dup2L (C : Cx p s m meth c Z code maxL own ret) {pc pc' : Nat} {Ls : Array Slot} {st : List Value} {x : Int64} (hd : I1 code pc (.dup2) 1 pc') (k : Go p l e R s m args below meth c n0 K N Q h ck cn (mkF m pc' Ls (.long x :: .long x :: st))) : Go p l e R s m args below meth c n0 K N Q h ck cn (mkF m pc Ls (.long x :: st)) := by
  obtain ⟨hd, rfl⟩ := hd
  exact Go.step (fun T locs X _ t k => Jvm.Free.XT.dup2L X.here C.1 rfl (hb C.2.1 hd) rfl k) k
theorem g_goto (C : Cx p s m meth c Z code maxL own ret) {pc pcT pcF : Nat} {Ls : Array Slot} {st : List Value} {o : Int} (hd : B1 code pc (.goto o) o pcT pcF) (k : Go p l e R s m args below meth c n0 K N Q h ck cn (mkF m pcT Ls st)) : Go p l e R s m args below meth c n0 K N Q h ck cn (mkF m pc Ls st) := by
  obtain ⟨hd, -, ho, hp⟩ := hd
  exact Go.step (fun T locs X _ t k => XS.goto X.here C.1 rfl (pc0 := pc) rfl (hb C.2.1 hd) ho hp k) k
theorem g_icmp_lt (C : Cx p s m meth c Z code maxL own ret) {pc pcT pcF : Nat} {Ls : Array Slot} {st : List Value} {o : Int} {x y : Int32} (hd : B1 code pc (.if_icmp .lt o) o pcT pcF) (kt : x < y → Go p l e R s m args below meth c n0 K N Q h ck cn (mkF m pcT Ls st)) (kf : ¬ (x < y) → Go p l e R s m args below meth c n0 K N Q h ck cn (mkF m pcF Ls st)) : Go p l e R s m args below meth c n0 K N Q h ck cn (mkF m pc Ls (.int y :: .int x :: st)) := by
  obtain ⟨hd, rfl, ho, hp⟩ := hd
  by_cases q : x < y
  · exact Go.step (fun T locs X _ t k => XS.icmpYes X.here C.1 rfl (pc0 := pc) rfl (hb C.2.1 hd) rfl ((tlt q).1) ho hp k) (kt q)
  · exact Go.step (fun T locs X _ t k => XS.icmpNo X.here C.1 rfl (hb C.2.1 hd) rfl ((flt q).1) k) (kf q)
theorem g_if_lt (C : Cx p s m meth c Z code maxL own ret) {pc pcT pcF : Nat} {Ls : Array Slot} {st : List Value} {o : Int} {x : Int32} (hd : B1 code pc (.ifCond .lt o) o pcT pcF) (kt : x < 0 → Go p l e R s m args below meth c n0 K N Q h ck cn (mkF m pcT Ls st)) (kf : ¬ (x < 0) → Go p l e R s m args below meth c n0 K N Q h ck cn (mkF m pcF Ls st)) : Go p l e R s m args below meth c n0 K N Q h ck cn (mkF m pc Ls (.int x :: st)) := by
  obtain ⟨hd, rfl, ho, hp⟩ := hd
  by_cases q : x < 0
  · exact Go.step (fun T locs X _ t k => XS.ifYes X.here C.1 rfl (pc0 := pc) rfl (hb C.2.1 hd) rfl ((if0 _ _).trans (tlt q).1) ho hp k) (kt q)
  · exact Go.step (fun T locs X _ t k => XS.ifNo X.here C.1 rfl (hb C.2.1 hd) rfl ((if0 _ _).trans (flt q).1) k) (kf q)
theorem g_ifl_lt (C : Cx p s m meth c Z code maxL own ret) {pc pcT pcF : Nat} {Ls : Array Slot} {st : List Value} {o : Int} {x y : Int64} (hd : B1 code pc (.ifCond .lt o) o pcT pcF) (kt : x < y → Go p l e R s m args below meth c n0 K N Q h ck cn (mkF m pcT Ls st)) (kf : ¬ (x < y) → Go p l e R s m args below meth c n0 K N Q h ck cn (mkF m pcF Ls st)) : Go p l e R s m args below meth c n0 K N Q h ck cn (mkF m pc Ls (.int (lcmpW x y) :: st)) := by
  obtain ⟨hd, rfl, ho, hp⟩ := hd
  by_cases q : x < y
  · exact Go.step (fun T locs X _ t k => XS.ifYes X.here C.1 rfl (pc0 := pc) rfl (hb C.2.1 hd) rfl ((if0 _ _).trans (tlt ((lw_lt x y).mpr q)).1) ho hp k) (kt q)
  · exact Go.step (fun T locs X _ t k => XS.ifNo X.here C.1 rfl (hb C.2.1 hd) rfl ((if0 _ _).trans (flt (fun z => q ((lw_lt x y).mp z))).1) k) (kf q)
theorem g_icmp_ge (C : Cx p s m meth c Z code maxL own ret) {pc pcT pcF : Nat} {Ls : Array Slot} {st : List Value} {o : Int} {x y : Int32} (hd : B1 code pc (.if_icmp .ge o) o pcT pcF) (kt : x < y → Go p l e R s m args below meth c n0 K N Q h ck cn (mkF m pcF Ls st)) (kf : ¬ (x < y) → Go p l e R s m args below meth c n0 K N Q h ck cn (mkF m pcT Ls st)) : Go p l e R s m args below meth c n0 K N Q h ck cn (mkF m pc Ls (.int y :: .int x :: st)) := by
  obtain ⟨hd, rfl, ho, hp⟩ := hd
  by_cases q : x < y
  · exact Go.step (fun T locs X _ t k => XS.icmpNo X.here C.1 rfl (hb C.2.1 hd) rfl ((tlt q).2.1) k) (kt q)
  · exact Go.step (fun T locs X _ t k => XS.icmpYes X.here C.1 rfl (pc0 := pc) rfl (hb C.2.1 hd) rfl ((flt q).2.1) ho hp k) (kf q)
theorem g_if_ge (C : Cx p s m meth c Z code maxL own ret) {pc pcT pcF : Nat} {Ls : Array Slot} {st : List Value} {o : Int} {x : Int32} (hd : B1 code pc (.ifCond .ge o) o pcT pcF) (kt : x < 0 → Go p l e R s m args below meth c n0 K N Q h ck cn (mkF m pcF Ls st)) (kf : ¬ (x < 0) → Go p l e R s m args below meth c n0 K N Q h ck cn (mkF m pcT Ls st)) : Go p l e R s m args below meth c n0 K N Q h ck cn (mkF m pc Ls (.int x :: st)) := by
  obtain ⟨hd, rfl, ho, hp⟩ := hd
  by_cases q : x < 0
  · exact Go.step (fun T locs X _ t k => XS.ifNo X.here C.1 rfl (hb C.2.1 hd) rfl ((if0 _ _).trans (tlt q).2.1) k) (kt q)
  · exact Go.step (fun T locs X _ t k => XS.ifYes X.here C.1 rfl (pc0 := pc) rfl (hb C.2.1 hd) rfl ((if0 _ _).trans (flt q).2.1) ho hp k) (kf q)
theorem g_ifl_ge (C : Cx p s m meth c Z code maxL own ret) {pc pcT pcF : Nat} {Ls : Array Slot} {st : List Value} {o : Int} {x y : Int64} (hd : B1 code pc (.ifCond .ge o) o pcT pcF) (kt : x < y → Go p l e R s m args below meth c n0 K N Q h ck cn (mkF m pcF Ls st)) (kf : ¬ (x < y) → Go p l e R s m args below meth c n0 K N Q h ck cn (mkF m pcT Ls st)) : Go p l e R s m args below meth c n0 K N Q h ck cn (mkF m pc Ls (.int (lcmpW x y) :: st)) := by
  obtain ⟨hd, rfl, ho, hp⟩ := hd
  by_cases q : x < y
  · exact Go.step (fun T locs X _ t k => XS.ifNo X.here C.1 rfl (hb C.2.1 hd) rfl ((if0 _ _).trans (tlt ((lw_lt x y).mpr q)).2.1) k) (kt q)
  · exact Go.step (fun T locs X _ t k => XS.ifYes X.here C.1 rfl (pc0 := pc) rfl (hb C.2.1 hd) rfl ((if0 _ _).trans (flt (fun z => q ((lw_lt x y).mp z))).2.1) ho hp k) (kf q)
theorem g_icmp_gt (C : Cx p s m meth c Z code maxL own ret) {pc pcT pcF : Nat} {Ls : Array Slot} {st : List Value} {o : Int} {x y : Int32} (hd : B1 code pc (.if_icmp .gt o) o pcT pcF) (kt : y < x → Go p l e R s m args below meth c n0 K N Q h ck cn (mkF m pcT Ls st)) (kf : ¬ (y < x) → Go p l e R s m args below meth c n0 K N Q h ck cn (mkF m pcF Ls st)) : Go p l e R s m args below meth c n0 K N Q h ck cn (mkF m pc Ls (.int y :: .int x :: st)) := by
  obtain ⟨hd, rfl, ho, hp⟩ := hd
  by_cases q : y < x
  · exact Go.step (fun T locs X _ t k => XS.icmpYes X.here C.1 rfl (pc0 := pc) rfl (hb C.2.1 hd) rfl ((tlt q).2.2.1) ho hp k) (kt q)
  · exact Go.step (fun T locs X _ t k => XS.icmpNo X.here C.1 rfl (hb C.2.1 hd) rfl ((flt q).2.2.1) k) (kf q)
theorem g_if_gt (C : Cx p s m meth c Z code maxL own ret) {pc pcT pcF : Nat} {Ls : Array Slot} {st : List Value} {o : Int} {x : Int32} (hd : B1 code pc (.ifCond .gt o) o pcT pcF) (kt : 0 < x → Go p l e R s m args below meth c n0 K N Q h ck cn (mkF m pcT Ls st)) (kf : ¬ (0 < x) → Go p l e R s m args below meth c n0 K N Q h ck cn (mkF m pcF Ls st)) : Go p l e R s m args below meth c n0 K N Q h ck cn (mkF m pc Ls (.int x :: st)) := by
  obtain ⟨hd, rfl, ho, hp⟩ := hd
  by_cases q : 0 < x
  · exact Go.step (fun T locs X _ t k => XS.ifYes X.here C.1 rfl (pc0 := pc) rfl (hb C.2.1 hd) rfl ((if0 _ _).trans (tlt q).2.2.1) ho hp k) (kt q)
  · exact Go.step (fun T locs X _ t k => XS.ifNo X.here C.1 rfl (hb C.2.1 hd) rfl ((if0 _ _).trans (flt q).2.2.1) k) (kf q)
theorem g_ifl_gt (C : Cx p s m meth c Z code maxL own ret) {pc pcT pcF : Nat} {Ls : Array Slot} {st : List Value} {o : Int} {x y : Int64} (hd : B1 code pc (.ifCond .gt o) o pcT pcF) (kt : y < x → Go p l e R s m args below meth c n0 K N Q h ck cn (mkF m pcT Ls st)) (kf : ¬ (y < x) → Go p l e R s m args below meth c n0 K N Q h ck cn (mkF m pcF Ls st)) : Go p l e R s m args below meth c n0 K N Q h ck cn (mkF m pc Ls (.int (lcmpW x y) :: st)) := by
  obtain ⟨hd, rfl, ho, hp⟩ := hd
  by_cases q : y < x
  · exact Go.step (fun T locs X _ t k => XS.ifYes X.here C.1 rfl (pc0 := pc) rfl (hb C.2.1 hd) rfl ((if0 _ _).trans (tlt ((lw_gt x y).mpr q)).2.2.1) ho hp k) (kt q)
  · exact Go.step (fun T locs X _ t k => XS.ifNo X.here C.1 rfl (hb C.2.1 hd) rfl ((if0 _ _).trans (flt (fun z => q ((lw_gt x y).mp z))).2.2.1) k) (kf q)
theorem g_icmp_le (C : Cx p s m meth c Z code maxL own ret) {pc pcT pcF : Nat} {Ls : Array Slot} {st : List Value} {o : Int} {x y : Int32} (hd : B1 code pc (.if_icmp .le o) o pcT pcF) (kt : y < x → Go p l e R s m args below meth c n0 K N Q h ck cn (mkF m pcF Ls st)) (kf : ¬ (y < x) → Go p l e R s m args below meth c n0 K N Q h ck cn (mkF m pcT Ls st)) : Go p l e R s m args below meth c n0 K N Q h ck cn (mkF m pc Ls (.int y :: .int x :: st)) := by
  obtain ⟨hd, rfl, ho, hp⟩ := hd
  by_cases q : y < x
  · exact Go.step (fun T locs X _ t k => XS.icmpNo X.here C.1 rfl (hb C.2.1 hd) rfl ((tlt q).2.2.2) k) (kt q)
  · exact Go.step (fun T locs X _ t k => XS.icmpYes X.here C.1 rfl (pc0 := pc) rfl (hb C.2.1 hd) rfl ((flt q).2.2.2) ho hp k) (kf q)
theorem g_if_le (C : Cx p s m meth c Z code maxL own ret) {pc pcT pcF : Nat} {Ls : Array Slot} {st : List Value} {o : Int} {x : Int32} (hd : B1 code pc (.ifCond .le o) o pcT pcF) (kt : 0 < x → Go p l e R s m args below meth c n0 K N Q h ck cn (mkF m pcF Ls st)) (kf : ¬ (0 < x) → Go p l e R s m args below meth c n0 K N Q h ck cn (mkF m pcT Ls st)) : Go p l e R s m args below meth c n0 K N Q h ck cn (mkF m pc Ls (.int x :: st)) := by
  obtain ⟨hd, rfl, ho, hp⟩ := hd
  by_cases q : 0 < x
  · exact Go.step (fun T locs X _ t k => XS.ifNo X.here C.1 rfl (hb C.2.1 hd) rfl ((if0 _ _).trans (tlt q).2.2.2) k) (kt q)
  · exact Go.step (fun T locs X _ t k => XS.ifYes X.here C.1 rfl (pc0 := pc) rfl (hb C.2.1 hd) rfl ((if0 _ _).trans (flt q).2.2.2) ho hp k) (kf q)
theorem g_ifl_le (C : Cx p s m meth c Z code maxL own ret) {pc pcT pcF : Nat} {Ls : Array Slot} {st : List Value} {o : Int} {x y : Int64} (hd : B1 code pc (.ifCond .le o) o pcT pcF) (kt : y < x → Go p l e R s m args below meth c n0 K N Q h ck cn (mkF m pcF Ls st)) (kf : ¬ (y < x) → Go p l e R s m args below meth c n0 K N Q h ck cn (mkF m pcT Ls st)) : Go p l e R s m args below meth c n0 K N Q h ck cn (mkF m pc Ls (.int (lcmpW x y) :: st)) := by
  obtain ⟨hd, rfl, ho, hp⟩ := hd
  by_cases q : y < x
  · exact Go.step (fun T locs X _ t k => XS.ifNo X.here C.1 rfl (hb C.2.1 hd) rfl ((if0 _ _).trans (tlt ((lw_gt x y).mpr q)).2.2.2) k) (kt q)
  · exact Go.step (fun T locs X _ t k => XS.ifYes X.here C.1 rfl (pc0 := pc) rfl (hb C.2.1 hd) rfl ((if0 _ _).trans (flt (fun z => q ((lw_gt x y).mp z))).2.2.2) ho hp k) (kf q)
theorem g_icmp_eq (C : Cx p s m meth c Z code maxL own ret) {pc pcT pcF : Nat} {Ls : Array Slot} {st : List Value} {o : Int} {x y : Int32} (hd : B1 code pc (.if_icmp .eq o) o pcT pcF) (kt : x = y → Go p l e R s m args below meth c n0 K N Q h ck cn (mkF m pcT Ls st)) (kf : ¬ (x = y) → Go p l e R s m args below meth c n0 K N Q h ck cn (mkF m pcF Ls st)) : Go p l e R s m args below meth c n0 K N Q h ck cn (mkF m pc Ls (.int y :: .int x :: st)) := by
  obtain ⟨hd, rfl, ho, hp⟩ := hd
  by_cases q : x = y
  · exact Go.step (fun T locs X _ t k => XS.icmpYes X.here C.1 rfl (pc0 := pc) rfl (hb C.2.1 hd) rfl ((teq q).1) ho hp k) (kt q)
  · exact Go.step (fun T locs X _ t k => XS.icmpNo X.here C.1 rfl (hb C.2.1 hd) rfl ((feq q).1) k) (kf q)
theorem g_if_eq (C : Cx p s m meth c Z code maxL own ret) {pc pcT pcF : Nat} {Ls : Array Slot} {st : List Value} {o : Int} {x : Int32} (hd : B1 code pc (.ifCond .eq o) o pcT pcF) (kt : x = 0 → Go p l e R s m args below meth c n0 K N Q h ck cn (mkF m pcT Ls st)) (kf : ¬ (x = 0) → Go p l e R s m args below meth c n0 K N Q h ck cn (mkF m pcF Ls st)) : Go p l e R s m args below meth c n0 K N Q h ck cn (mkF m pc Ls (.int x :: st)) := by
  obtain ⟨hd, rfl, ho, hp⟩ := hd
  by_cases q : x = 0
  · exact Go.step (fun T locs X _ t k => XS.ifYes X.here C.1 rfl (pc0 := pc) rfl (hb C.2.1 hd) rfl ((if0 _ _).trans (teq q).1) ho hp k) (kt q)
  · exact Go.step (fun T locs X _ t k => XS.ifNo X.here C.1 rfl (hb C.2.1 hd) rfl ((if0 _ _).trans (feq q).1) k) (kf q)
theorem g_ifl_eq (C : Cx p s m meth c Z code maxL own ret) {pc pcT pcF : Nat} {Ls : Array Slot} {st : List Value} {o : Int} {x y : Int64} (hd : B1 code pc (.ifCond .eq o) o pcT pcF) (kt : x = y → Go p l e R s m args below meth c n0 K N Q h ck cn (mkF m pcT Ls st)) (kf : ¬ (x = y) → Go p l e R s m args below meth c n0 K N Q h ck cn (mkF m pcF Ls st)) : Go p l e R s m args below meth c n0 K N Q h ck cn (mkF m pc Ls (.int (lcmpW x y) :: st)) := by
  obtain ⟨hd, rfl, ho, hp⟩ := hd
  by_cases q : x = y
  · exact Go.step (fun T locs X _ t k => XS.ifYes X.here C.1 rfl (pc0 := pc) rfl (hb C.2.1 hd) rfl ((if0 _ _).trans (teq ((lw_eq x y).mpr q)).1) ho hp k) (kt q)
  · exact Go.step (fun T locs X _ t k => XS.ifNo X.here C.1 rfl (hb C.2.1 hd) rfl ((if0 _ _).trans (feq (fun z => q ((lw_eq x y).mp z))).1) k) (kf q)
theorem g_icmp_ne (C : Cx p s m meth c Z code maxL own ret) {pc pcT pcF : Nat} {Ls : Array Slot} {st : List Value} {o : Int} {x y : Int32} (hd : B1 code pc (.if_icmp .ne o) o pcT pcF) (kt : x = y → Go p l e R s m args below meth c n0 K N Q h ck cn (mkF m pcF Ls st)) (kf : ¬ (x = y) → Go p l e R s m args below meth c n0 K N Q h ck cn (mkF m pcT Ls st)) : Go p l e R s m args below meth c n0 K N Q h ck cn (mkF m pc Ls (.int y :: .int x :: st)) := by
  obtain ⟨hd, rfl, ho, hp⟩ := hd
  by_cases q : x = y
  · exact Go.step (fun T locs X _ t k => XS.icmpNo X.here C.1 rfl (hb C.2.1 hd) rfl ((teq q).2) k) (kt q)
  · exact Go.step (fun T locs X _ t k => XS.icmpYes X.here C.1 rfl (pc0 := pc) rfl (hb C.2.1 hd) rfl ((feq q).2) ho hp k) (kf q)
theorem g_if_ne (C : Cx p s m meth c Z code maxL own ret) {pc pcT pcF : Nat} {Ls : Array Slot} {st : List Value} {o : Int} {x : Int32} (hd : B1 code pc (.ifCond .ne o) o pcT pcF) (kt : x = 0 → Go p l e R s m args below meth c n0 K N Q h ck cn (mkF m pcF Ls st)) (kf : ¬ (x = 0) → Go p l e R s m args below meth c n0 K N Q h ck cn (mkF m pcT Ls st)) : Go p l e R s m args below meth c n0 K N Q h ck cn (mkF m pc Ls (.int x :: st)) := by
  obtain ⟨hd, rfl, ho, hp⟩ := hd
  by_cases q : x = 0
  · exact Go.step (fun T locs X _ t k => XS.ifNo X.here C.1 rfl (hb C.2.1 hd) rfl ((if0 _ _).trans (teq q).2) k) (kt q)
  · exact Go.step (fun T locs X _ t k => XS.ifYes X.here C.1 rfl (pc0 := pc) rfl (hb C.2.1 hd) rfl ((if0 _ _).trans (feq q).2) ho hp k) (kf q)
theorem g_ifl_ne (C : Cx p s m meth c Z code maxL own ret) {pc pcT pcF : Nat} {Ls : Array Slot} {st : List Value} {o : Int} {x y : Int64} (hd : B1 code pc (.ifCond .ne o) o pcT pcF) (kt : x = y → Go p l e R s m args below meth c n0 K N Q h ck cn (mkF m pcF Ls st)) (kf : ¬ (x = y) → Go p l e R s m args below meth c n0 K N Q h ck cn (mkF m pcT Ls st)) : Go p l e R s m args below meth c n0 K N Q h ck cn (mkF m pc Ls (.int (lcmpW x y) :: st)) := by
  obtain ⟨hd, rfl, ho, hp⟩ := hd
  by_cases q : x = y
  · exact Go.step (fun T locs X _ t k => XS.ifNo X.here C.1 rfl (hb C.2.1 hd) rfl ((if0 _ _).trans (teq ((lw_eq x y).mpr q)).2) k) (kt q)
  · exact Go.step (fun T locs X _ t k => XS.ifYes X.here C.1 rfl (pc0 := pc) rfl (hb C.2.1 hd) rfl ((if0 _ _).trans (feq (fun z => q ((lw_eq x y).mp z))).2) ho hp k) (kf q)
theorem g_ifnullN (C : Cx p s m meth c Z code maxL own ret) {pc pcT pcF : Nat} {Ls : Array Slot} {st : List Value} {o : Int} {b : Addr} (hd : B1 code pc (.ifnull o) o pcT pcF) (k : Go p l e R s m args below meth c n0 K N Q h ck cn (mkF m pcF Ls st)) : Go p l e R s m args below meth c n0 K N Q h ck cn (mkF m pc Ls (.ref b :: st)) := by
  obtain ⟨hd, rfl, ho, hp⟩ := hd
  exact Go.step (fun T locs X _ t k => XS.ifnullNo X.here C.1 rfl (hb C.2.1 hd) rfl k) k
theorem g_ifnullY (C : Cx p s m meth c Z code maxL own ret) {pc pcT pcF : Nat} {Ls : Array Slot} {st : List Value} {o : Int} (hd : B1 code pc (.ifnull o) o pcT pcF) (k : Go p l e R s m args below meth c n0 K N Q h ck cn (mkF m pcT Ls st)) : Go p l e R s m args below meth c n0 K N Q h ck cn (mkF m pc Ls (.null :: st)) := by
  obtain ⟨hd, rfl, ho, hp⟩ := hd
  exact Go.step (fun T locs X _ t k => XS.ifnullYes X.here C.1 rfl (pc0 := pc) rfl (hb C.2.1 hd) rfl ho hp k) k
theorem g_ifnonnullY (C : Cx p s m meth c Z code maxL own ret) {pc pcT pcF : Nat} {Ls : Array Slot} {st : List Value} {o : Int} {b : Addr} (hd : B1 code pc (.ifnonnull o) o pcT pcF) (k : Go p l e R s m args below meth c n0 K N Q h ck cn (mkF m pcT Ls st)) : Go p l e R s m args below meth c n0 K N Q h ck cn (mkF m pc Ls (.ref b :: st)) := by
  obtain ⟨hd, rfl, ho, hp⟩ := hd
  exact Go.step (fun T locs X _ t k => XS.ifnonnullYes X.here C.1 rfl (pc0 := pc) rfl (hb C.2.1 hd) rfl ho hp k) k
theorem g_ifnonnullN (C : Cx p s m meth c Z code maxL own ret) {pc pcT pcF : Nat} {Ls : Array Slot} {st : List Value} {o : Int} (hd : B1 code pc (.ifnonnull o) o pcT pcF) (k : Go p l e R s m args below meth c n0 K N Q h ck cn (mkF m pcF Ls st)) : Go p l e R s m args below meth c n0 K N Q h ck cn (mkF m pc Ls (.null :: st)) := by
  obtain ⟨hd, rfl, ho, hp⟩ := hd
  exact Go.step (fun T locs X _ t k => XS.ifnonnullNo X.here C.1 rfl (hb C.2.1 hd) rfl k) k
theorem g_acmp_eq (C : Cx p s m meth c Z code maxL own ret) {pc pcT pcF : Nat} {Ls : Array Slot} {st : List Value} {o : Int} {x y : Value} (h1 : x.isRef = true) (h2 : y.isRef = true) (hd : B1 code pc (.if_acmp .eq o) o pcT pcF) (kt : x = y → Go p l e R s m args below meth c n0 K N Q h ck cn (mkF m pcT Ls st)) (kf : ¬ x = y → Go p l e R s m args below meth c n0 K N Q h ck cn (mkF m pcF Ls st)) : Go p l e R s m args below meth c n0 K N Q h ck cn (mkF m pc Ls (y :: x :: st)) := by
  obtain ⟨hd, rfl, ho, rfl⟩ := hd
  by_cases q : x = y
  · exact Go.step (fun T locs X _ t k => Jvm.RoadKit.acmp X C.1 rfl h1 h2 (pc0 := pc) (same := true) rfl (hb C.2.1 hd) rfl (by simp [q]) ho rfl k) (kt q)
  · exact Go.step (fun T locs X _ t k => Jvm.RoadKit.acmp X C.1 rfl h1 h2 (pc0 := pc) (same := false) rfl (hb C.2.1 hd) rfl (by simp [q]) ho rfl k) (kf q)
theorem g_acmp_ne (C : Cx p s m meth c Z code maxL own ret) {pc pcT pcF : Nat} {Ls : Array Slot} {st : List Value} {o : Int} {x y : Value} (h1 : x.isRef = true) (h2 : y.isRef = true) (hd : B1 code pc (.if_acmp .ne o) o pcT pcF) (kt : x = y → Go p l e R s m args below meth c n0 K N Q h ck cn (mkF m pcF Ls st)) (kf : ¬ x = y → Go p l e R s m args below meth c n0 K N Q h ck cn (mkF m pcT Ls st)) : Go p l e R s m args below meth c n0 K N Q h ck cn (mkF m pc Ls (y :: x :: st)) := by
  obtain ⟨hd, rfl, ho, rfl⟩ := hd
  by_cases q : x = y
  · exact Go.step (fun T locs X _ t k => Jvm.RoadKit.acmp X C.1 rfl h1 h2 (pc0 := pc) (same := true) rfl (hb C.2.1 hd) rfl (by simp [q]) ho rfl k) (kt q)
  · exact Go.step (fun T locs X _ t k => Jvm.RoadKit.acmp X C.1 rfl h1 h2 (pc0 := pc) (same := false) rfl (hb C.2.1 hd) rfl (by simp [q]) ho rfl k) (kf q)
theorem ret0 {v : Option Value} {g : JFrame} (hlk : meth.locks = false) (hret : meth.sig.returnType = none → v = none) (hck : ck ≤ K) (hcn : cn ≤ N) (hQ : Q v h)
    (st : ∀ (T : State) (locs : List Loc) (fs : List Frame), Stand p l e R s m args below meth c T locs ck cn → (∀ (f : JFrame) (acts : List Action), f.method = m → f.locked = none → f.entered = [] → (doReturn e (T.setTop f) acts v).1 = T.setFrames fs) → Steps p.tables e below (T.setTop g) (T.setFrames fs)) :
    Go p l e R s m args below meth c n0 K N Q h ck cn g := fun T locs X eT hN => by
  obtain ⟨fs, hr, hrun, hended, hW, hsame⟩ := X.leave (v := v) hret hlk
  exact ⟨_, _, st T locs fs X hr, hrun, hended, v, locs, rfl, ⟨by show Q v T.heap; rw [eT]; exact hQ, hN⟩, ⟨_, rfl⟩, hW, hsame.mono hck hcn⟩
theorem g_retV (C : Cx p s m meth c Z code maxL own ret) {pc : Nat} {Ls : Array Slot} {pc' : Nat} (hd : I1 code pc .return_ 1 pc') (hret : ret = none) (hck : ck ≤ K) (hcn : cn ≤ N) (hQ : Q none h) : Go p l e R s m args below meth c n0 K N Q h ck cn (mkF m pc Ls []) := by
  obtain ⟨hd, -⟩ := hd
  exact ret0 C.2.2.2.2.2.2 (fun _ => rfl) hck hcn hQ (fun T locs fs X hr => X.returnOut C.1 (C.2.2.2.2.2.1.trans hret) (hb C.2.1 hd) hr)
theorem g_retInt (C : Cx p s m meth c Z code maxL own ret) {pc : Nat} {Ls : Array Slot} {pc' : Nat} {st : List Value} {z : Int32} (hd : I1 code pc .ireturn 1 pc') (hret : ret = some .int) (hck : ck ≤ K) (hcn : cn ≤ N) (hQ : Q (some (.int z)) h) : Go p l e R s m args below meth c n0 K N Q h ck cn (mkF m pc Ls (.int z :: st)) := by
  obtain ⟨hd, -⟩ := hd
  have hr' := C.2.2.2.2.2.1.trans hret
  exact ret0 C.2.2.2.2.2.2 (fun q => by rw [hr'] at q; cases q) hck hcn hQ (fun T locs fs X hr => retOut X C.1 hr' rfl (Or.inl ⟨rfl, Or.inl rfl, z, rfl⟩) (hb C.2.1 hd) hr)
theorem g_retLong (C : Cx p s m meth c Z code maxL own ret) {pc : Nat} {Ls : Array Slot} {pc' : Nat} {st : List Value} {z : Int64} (hd : I1 code pc .lreturn 1 pc') (hret : ret = some .long) (hck : ck ≤ K) (hcn : cn ≤ N) (hQ : Q (some (.long z)) h) : Go p l e R s m args below meth c n0 K N Q h ck cn (mkF m pc Ls (.long z :: st)) := by
  obtain ⟨hd, -⟩ := hd
  have hr' := C.2.2.2.2.2.1.trans hret
  exact ret0 C.2.2.2.2.2.2 (fun q => by rw [hr'] at q; cases q) hck hcn hQ (fun T locs fs X hr => retOut X C.1 hr' rfl (Or.inr (Or.inl ⟨rfl, rfl, z, rfl⟩)) (hb C.2.1 hd) hr)
theorem nar_ref {t : FieldType} {v : Value} (hv : v.isRef = true) : narrow t v = v := by
  rcases ref_cases hv with rfl | ⟨a, rfl⟩ <;> cases t <;> rfl
theorem g_retRef (C : Cx p s m meth c Z code maxL own ret) {pc : Nat} {Ls : Array Slot} {pc' : Nat} {st : List Value} {v : Value} {t : FieldType} (hd : I1 code pc .areturn 1 pc') (hret : ret = some t) (ht : t.isReference = true) (hv : v.isRef = true) (hck : ck ≤ K) (hcn : cn ≤ N) (hQ : Q (some v) h) : Go p l e R s m args below meth c n0 K N Q h ck cn (mkF m pc Ls (v :: st)) := by
  obtain ⟨hd, -⟩ := hd
  have hr' := C.2.2.2.2.2.1.trans hret
  exact ret0 C.2.2.2.2.2.2 (fun q => by rw [hr'] at q; cases q) hck hcn hQ (fun T locs fs X hr => retOut X C.1 hr' (nar_ref hv) (Or.inr (Or.inr (Or.inr (Or.inr ⟨rfl, ht, hv⟩)))) (hb C.2.1 hd) hr)
theorem g_retNar (C : Cx p s m meth c Z code maxL own ret) {pc : Nat} {Ls : Array Slot} {pc' : Nat} {st : List Value} {z : Int32} {t : FieldType} (hd : I1 code pc .ireturn 1 pc') (hret : ret = some t) (ht : t = .boolean ∨ t = .byte ∨ t = .char ∨ t = .short) (hck : ck ≤ K) (hcn : cn ≤ N) (hQ : Q (some (.int (nar t z))) h) : Go p l e R s m args below meth c n0 K N Q h ck cn (mkF m pc Ls (.int z :: st)) := by
  obtain ⟨hd, -⟩ := hd
  have hr' := C.2.2.2.2.2.1.trans hret
  exact ret0 C.2.2.2.2.2.2 (fun q => by rw [hr'] at q; cases q) hck hcn hQ (fun T locs fs X hr => retN X C.1 hr' ht (hb C.2.1 hd) hr)
theorem g_getF (C : Cx p s m meth c Z code maxL own ret) {pc pc' : Nat} {Ls : Array Slot} {st : List Value} {R0 O n d host : String} {index : Nat} {a : Addr} {v : Value} (hd : I1 code pc (.getfield index) 3 pc') (w : (Cond.fieldLink own index R0 n d).before a0 Z = true ∨ (Cond.fieldLinkNest own index R0 n d host).before a0 Z = true) (via : Via Z R0 O n d) (F : Fld Z h a O n d v)
    (k : Go p l e R s m args below meth c n0 K N Q h ck cn (mkF m pc' Ls (v :: st))) : Go p l e R s m args below meth c n0 K N Q h ck cn (mkF m pc Ls (.ref a :: st)) := fun T locs X eT hN => by
  obtain ⟨hd, rfl⟩ := hd
  obtain ⟨T', X', e', st'⟩ := Jvm.RoadKit.getF X C.1 C.2.2.2.1 C.2.2.2.2.1 w via eT F (g := mkF m pc Ls (.ref a :: st)) rfl rfl (hb C.2.1 hd)
  exact Go.move hN X' e' hN st' k
theorem g_getS (C : Cx p s m meth c Z code maxL own ret) {pc pc' : Nat} {Ls : Array Slot} {st : List Value} {R0 O n d host : String} {index : Nat} {v : Value} (hd : I1 code pc (.getstatic index) 3 pc') (w : (Cond.fieldLink own index R0 n d).before a0 Z = true ∨ (Cond.fieldLinkNest own index R0 n d host).before a0 Z = true) (via : Via Z R0 O n d) (F : Sta Z h O n d v)
    (k : Go p l e R s m args below meth c n0 K N Q h ck cn (mkF m pc' Ls (v :: st))) : Go p l e R s m args below meth c n0 K N Q h ck cn (mkF m pc Ls st) := fun T locs X eT hN => by
  obtain ⟨hd, rfl⟩ := hd
  obtain ⟨T', X', e', st'⟩ := Jvm.RoadKit.getS2 X C.1 C.2.2.2.1 C.2.2.2.2.1 w via eT F (g := mkF m pc Ls st) rfl (hb C.2.1 hd)
  exact Go.move hN X' e' hN st' k
theorem g_putF (C : Cx p s m meth c Z code maxL own ret) {pc pc' : Nat} {Ls : Array Slot} {st : List Value} {R0 O n d host Cl : String} {index kk : Nat} {ty : FieldType} {a : Addr} {v old : Value} (hd : I1 code pc (.putfield index) 3 pc') (w : (Cond.fieldLink own index R0 n d).before a0 Z = true ∨ (Cond.fieldLinkNest own index R0 n d host).before a0 Z = true) (via : Via Z R0 O n d) (F : Fld Z h a O n d old) (E : Exa Z h a Cl)
    (L : (Cond.lays Cl O n d).before a0 Z = true ∨ ((Cond.laysFinal Cl O n d).before a0 Z = true ∧ own = O ∧ meth.name = "<init>")) (wi : (Cond.instantiable Cl kk).before a0 Z = true) (hty : parseFieldDescriptor d = some ty) (hn : narrow ty v = v) (hf : fits ty v = true) (ha : n0 ≤ a)
    (k : ∀ h', Wr h h' a (Jvm.RoadKit.slotOf Z O n d) v → Go p l e R s m args below meth c n0 K N Q h' ck cn (mkF m pc' Ls st)) : Go p l e R s m args below meth c n0 K N Q h ck cn (mkF m pc Ls (v :: .ref a :: st)) := fun T locs X eT hN => by
  obtain ⟨hd, rfl⟩ := hd
  obtain ⟨T', h', X', e', W, st'⟩ := Jvm.RoadKit.putF X C.1 C.2.2.2.1 C.2.2.2.2.1 w via eT F E L wi hty hn hf (g := mkF m pc Ls (v :: .ref a :: st)) rfl rfl (hb C.2.1 hd)
  exact Go.move hN X' e' (Fr.snoc X' hN ha) st' (k h' W)
theorem g_putFN (C : Cx p s m meth c Z code maxL own ret) {pc pc' : Nat} {Ls : Array Slot} {st : List Value} {R0 O n d Cl : String} {index kk : Nat} {ty : FieldType} {a : Addr} {v v' old : Value} (hd : I1 code pc (.putfield index) 3 pc') (w : (Cond.fieldLink own index R0 n d).before a0 Z = true) (via : Via Z R0 O n d) (F : Fld Z h a O n d old) (E : Exa Z h a Cl)
    (L : (Cond.lays Cl O n d).before a0 Z = true ∨ ((Cond.laysFinal Cl O n d).before a0 Z = true ∧ own = O ∧ meth.name = "<init>")) (wi : (Cond.instantiable Cl kk).before a0 Z = true) (hty : parseFieldDescriptor d = some ty) (hn : narrow ty v = v') (hf : fits ty v' = true) (ha : n0 ≤ a)
    (k : ∀ h', Wr h h' a (Jvm.RoadKit.slotOf Z O n d) v' → Go p l e R s m args below meth c n0 K N Q h' ck cn (mkF m pc' Ls st)) : Go p l e R s m args below meth c n0 K N Q h ck cn (mkF m pc Ls (v :: .ref a :: st)) := fun T locs X eT hN => by
  obtain ⟨hd, rfl⟩ := hd
  obtain ⟨T', h', X', e', W, st'⟩ := Jvm.RoadKit.putFN X C.1 C.2.2.2.1 C.2.2.2.2.1 w via eT F E L wi hty hn hf (g := mkF m pc Ls (v :: .ref a :: st)) rfl rfl (hb C.2.1 hd)
  exact Go.move hN X' e' (Fr.snoc X' hN ha) st' (k h' W)
theorem g_newO (C : Cx p s m meth c Z code maxL own ret) {pc pc' : Nat} {Ls : Array Slot} {st : List Value} {Cl : String} {index n : Nat} (hd : I1 code pc (.new index) 3 pc') (w : (Cond.classLink own index Cl).before a0 Z = true) (wi : (Cond.instantiable Cl n).before a0 Z = true) (wz : (Cond.initialized Cl).before a0 Z = true) (hc : ck + 1 ≤ R.cells) (hl : cn + n ≤ R.slots) {ck' cn' : Nat} (hck : ck + 1 = ck') (hcn : cn + n = cn')
    (k : ∀ (h' : Heap) (a : Addr), a = h.size → Ext h h' → Exa Z h' a Cl → (∀ {O nm d : String} {ty : FieldType}, Laid Z a0 Cl O nm d → parseFieldDescriptor d = some ty → Fld Z h' a O nm d (defaultValue ty)) → Go p l e R s m args below meth c n0 K N Q h' ck' cn' (mkF m pc' Ls (.ref a :: st))) : Go p l e R s m args below meth c n0 K N Q h ck cn (mkF m pc Ls st) := fun T locs X eT hN => by
  obtain ⟨hd, rfl⟩ := hd
  subst hck hcn
  obtain ⟨T', h', X', e', E, A, D, -, st'⟩ := Jvm.RoadKit.newO X C.1 C.2.2.2.1 C.2.2.2.2.1 w wi wz eT (g := mkF m pc Ls st) rfl (hb C.2.1 hd) hc hl
  exact Go.move hN X' e' hN st' (k h' _ rfl E A D)
theorem g_initO (C : Cx p s m meth c Z code maxL own ret) {pc pc' : Nat} {Ls : Array Slot} {st : List Value} {a : Addr} {idx : Nat} (hd : I1 code pc (.invokespecial idx) 3 pc') (w1 : (Cond.methodLink own idx Lib.objectInit).before a0 Z = true) (w2 : (Cond.instanceMethod Lib.objectInit).before a0 Z = true) (w3 : (Cond.code Lib.objectInit ⟨#[0xb1]⟩ 1 none).before a0 Z = true) (hsz : Ls.size = maxL)
    (hf : 1 ≤ R.frames) (W : Nat) (hW : 2 * 0 + (st.map fun v => v.category).sum ≤ W) (hl : W + 12 ≤ R.locals) (k : Go p l e R s m args below meth c n0 K N Q h ck cn (mkF m pc' Ls st)) : Go p l e R s m args below meth c n0 K N Q h ck cn (mkF m pc Ls (.ref a :: st)) := fun T locs X eT hN => by
  obtain ⟨hd, rfl⟩ := hd
  obtain ⟨T', X', e', st'⟩ := Jvm.RoadKit.initO X C.1 C.2.2.2.1 C.2.2.2.2.1 w1 w2 w3 eT (g := mkF m pc Ls (.ref a :: st)) rfl (hsz.trans C.2.2.1.symm) rfl (hb C.2.1 hd) hf (W := W) hW hl
  exact Go.move hN X' e' hN st' k
theorem g_castY (C : Cx p s m meth c Z code maxL own ret) {pc pc' : Nat} {Ls : Array Slot} {st : List Value} {Kl : String} {index : Nat} {a : Addr} (hd : I1 code pc (.checkcast index) 3 pc') (w : (Cond.classLink own index Kl).before a0 Z = true) (F : Ins Z h a Kl true) (k : Go p l e R s m args below meth c n0 K N Q h ck cn (mkF m pc' Ls (.ref a :: st))) : Go p l e R s m args below meth c n0 K N Q h ck cn (mkF m pc Ls (.ref a :: st)) := fun T locs X eT hN => by
  obtain ⟨hd, rfl⟩ := hd
  obtain ⟨T', X', e', st'⟩ := Jvm.RoadKit.castY X C.1 C.2.2.2.1 C.2.2.2.2.1 w eT F (g := mkF m pc Ls (.ref a :: st)) rfl rfl (hb C.2.1 hd)
  exact Go.move hN X' e' hN st' k
theorem g_castNull (C : Cx p s m meth c Z code maxL own ret) {pc pc' : Nat} {Ls : Array Slot} {st : List Value} {index : Nat} (hd : I1 code pc (.checkcast index) 3 pc') (k : Go p l e R s m args below meth c n0 K N Q h ck cn (mkF m pc' Ls (.null :: st))) : Go p l e R s m args below meth c n0 K N Q h ck cn (mkF m pc Ls (.null :: st)) := by
  obtain ⟨hd, rfl⟩ := hd
  exact Go.step (fun T locs X _ t k => X.checkcastNull C.1 (g := mkF m pc Ls (.null :: st)) rfl rfl (hb C.2.1 hd) _ k) k
theorem g_instY (C : Cx p s m meth c Z code maxL own ret) {pc pc' : Nat} {Ls : Array Slot} {st : List Value} {Kl : String} {index : Nat} {a : Addr} (hd : I1 code pc (.instanceof index) 3 pc') (w : (Cond.classLink own index Kl).before a0 Z = true) (F : Ins Z h a Kl true) (k : Go p l e R s m args below meth c n0 K N Q h ck cn (mkF m pc' Ls (.int 1 :: st))) : Go p l e R s m args below meth c n0 K N Q h ck cn (mkF m pc Ls (.ref a :: st)) := fun T locs X eT hN => by
  obtain ⟨hd, rfl⟩ := hd
  obtain ⟨T', X', e', st'⟩ := Jvm.RoadKit.instY X C.1 C.2.2.2.1 C.2.2.2.2.1 w eT F (g := mkF m pc Ls (.ref a :: st)) rfl rfl (hb C.2.1 hd)
  exact Go.move hN X' e' hN st' k
theorem g_instNull (C : Cx p s m meth c Z code maxL own ret) {pc pc' : Nat} {Ls : Array Slot} {st : List Value} {index : Nat} (hd : I1 code pc (.instanceof index) 3 pc') (k : Go p l e R s m args below meth c n0 K N Q h ck cn (mkF m pc' Ls (.int 0 :: st))) : Go p l e R s m args below meth c n0 K N Q h ck cn (mkF m pc Ls (.null :: st)) := by
  obtain ⟨hd, rfl⟩ := hd
  exact Go.step (fun T locs X _ t k => X.instanceofNull C.1 (g := mkF m pc Ls (.null :: st)) rfl rfl (hb C.2.1 hd) _ k) k
/-- an array of n places: what each holds -/
def AV (Z : State) (h : Heap) (a : Addr) (ty : FieldType) (n : Nat) (f : Nat → Value) : Prop := ∃ c : Cell, Arr Z h a c ty ∧ c.slots.size = n ∧ n < 2 ^ 31 ∧ ∀ i, i < n → c.slots[i]? = some (f i)
theorem AV.lt {a : Addr} {ty : FieldType} {n : Nat} {f : Nat → Value} (F : AV Z h a ty n f) : a < h.size := by obtain ⟨c, A, -⟩ := F; exact A.lt
theorem AV.ext {h' : Heap} {a : Addr} {ty : FieldType} {n : Nat} {f : Nat → Value} (F : AV Z h a ty n f) (E : Ext h h') : AV Z h' a ty n f := by obtain ⟨c, A, r⟩ := F; exact ⟨c, A.ext E, r⟩
theorem AV.other {h' : Heap} {a b : Addr} {sl : Nat} {v : Value} {ty : FieldType} {n : Nat} {f : Nat → Value} (F : AV Z h b ty n f) (W : Wr h h' a sl v) (q : b ≠ a) : AV Z h' b ty n f := by obtain ⟨c, A, r⟩ := F; exact ⟨c, A.other W q, r⟩
theorem AV.keep {h' : Heap} {ws : List Addr} {a : Addr} {ty : FieldType} {n : Nat} {f : Nat → Value} (F : AV Z h a ty n f) (K : Keep h h' ws) (q : a ∉ ws) : AV Z h' a ty n f := by obtain ⟨c, A, r⟩ := F; exact ⟨c, ⟨K.2.1 a c A.1 q, A.2⟩, r⟩
theorem AV.congr {a : Addr} {ty : FieldType} {n : Nat} {f g : Nat → Value} (F : AV Z h a ty n f) (q : ∀ i, i < n → f i = g i) : AV Z h a ty n g := by obtain ⟨c, A, r1, r2, r3⟩ := F; exact ⟨c, A, r1, r2, fun i hi => by rw [← q i hi]; exact r3 i hi⟩
theorem AV.ofNew {a : Addr} {ty : FieldType} {cA : ClassId} {z : Int32} (A : Arr Z h a (newA cA ty z) ty) (q : ¬ z < 0) : AV Z h a ty z.toNatClampNeg (fun _ => defaultValue ty) :=
  ⟨_, A, sz_new _ _ _, (back32 q).2, fun i hi => by simp [newA, hi]⟩
theorem AV.set {h' : Heap} {a : Addr} {ty : FieldType} {n : Nat} {f : Nat → Value} {j : Nat} {v : Value} (F : AV Z h a ty n f) (W : Wr h h' a j v) : AV Z h' a ty n (fun i => if i = j then v else f i) := by
  obtain ⟨c, A, r1, r2, r3⟩ := F
  obtain ⟨cell, w1, w2, w3, w4⟩ := W
  cases w1.symm.trans A.1
  refine ⟨c.setSlot j v, A.same ⟨c, w1, w2, w3, w4⟩, by rw [sz_set, r1], r2, fun i hi => ?_⟩
  by_cases q : i = j
  · subst q; simp [Cell.setSlot, w3]
  · simp only [q, if_false]; rw [← r3 i hi]; exact Array.getElem?_setIfInBounds_ne (Ne.symm q)
/-- the place lies inside -/
def Inb (j : Int32) (n : Nat) : Prop := ¬ j < 0 ∧ j.toNatClampNeg < n
theorem Inb.not {j : Int32} {n : Nat} (q : Inb j n) : ¬ (j < 0 ∨ n ≤ j.toNatClampNeg) := fun r => r.elim q.1 (fun z => Nat.not_lt.mpr z q.2)
theorem inb_int {j : Int32} {n : Nat} (h1 : 0 ≤ j.toInt) (h2 : j.toInt < n) : Inb j n := ⟨by simp only [Int32.lt_iff_toInt_lt, Int32.reduceToInt]; omega, by simp only [Int32.toNatClampNeg]; omega⟩
theorem g_newP (C : Cx p s m meth c Z code maxL own ret) {pc pc' : Nat} {Ls : Array Slot} {st : List Value} {aty : ArrayType} {n : Int32} (hd : I1 code pc (.newarray aty) 2 pc') (w : (Cond.arrayClass (newarray.typeOf aty)).before a0 Z = true) (hn : ¬ n < 0) (cap : Nat) (hcap : n.toNatClampNeg ≤ cap) (hb8 : cap * 8 ≤ 536870912) (hc : ck + 1 ≤ R.cells) (hl : cn + cap ≤ R.slots) {ck' cn' : Nat} (hck : ck + 1 = ck') (hcn : cn + cap = cn')
    (k : ∀ (h' : Heap) (a : Addr), a = h.size → Ext h h' → AV Z h' a (newarray.typeOf aty) n.toNatClampNeg (fun _ => defaultValue (newarray.typeOf aty)) → Go p l e R s m args below meth c n0 K N Q h' ck' cn' (mkF m pc' Ls (.ref a :: st))) : Go p l e R s m args below meth c n0 K N Q h ck cn (mkF m pc Ls (.int n :: st)) := fun T locs X eT hN => by
  obtain ⟨hd, rfl⟩ := hd
  subst hck hcn
  obtain ⟨T', h', cA, X', e', E, A, st'⟩ := Jvm.RoadKit.newP X C.1 C.2.2.2.1 w eT (g := mkF m pc Ls (.int n :: st)) rfl (hb C.2.1 hd) rfl hn hcap hb8 hc hl
  exact Go.move hN X' e' hN st' (k h' _ rfl E (AV.ofNew A hn))
theorem g_alen (C : Cx p s m meth c Z code maxL own ret) {pc pc' : Nat} {Ls : Array Slot} {st : List Value} {a : Addr} {ty : FieldType} {n : Nat} {f : Nat → Value} (z : Int32) (hd : I1 code pc .arraylength 1 pc') (F : AV Z h a ty n f) (hz : n.toInt32 = z) (k : Go p l e R s m args below meth c n0 K N Q h ck cn (mkF m pc' Ls (.int z :: st))) : Go p l e R s m args below meth c n0 K N Q h ck cn (mkF m pc Ls (.ref a :: st)) := by
  obtain ⟨hd, rfl⟩ := hd
  obtain ⟨cl, A, r1, r2, r3⟩ := F
  subst hz
  exact Go.step (fun T locs X eT t k => X.arraylength C.1 (by rw [eT]; exact A.1) (State.isArrayOf_alike C.2.2.2.1.alike A.2.1) (g := mkF m pc Ls (.ref a :: st)) rfl rfl (hb C.2.1 hd) _ (by rw [r1]; exact k)) k
theorem g_iald (C : Cx p s m meth c Z code maxL own ret) {pc pc' : Nat} {Ls : Array Slot} {st : List Value} {a : Addr} {j : Int32} {n : Nat} {f : Nat → Value} (v : Value) (hd : I1 code pc .iaload 1 pc') (F : AV Z h a .int n f) (hj : Inb j n) (hv : f j.toNatClampNeg = v) (k : Go p l e R s m args below meth c n0 K N Q h ck cn (mkF m pc' Ls (v :: st))) : Go p l e R s m args below meth c n0 K N Q h ck cn (mkF m pc Ls (.int j :: .ref a :: st)) := by
  obtain ⟨hd, rfl⟩ := hd
  obtain ⟨cl, A, r1, r2, r3⟩ := F
  subst hv
  exact Go.step (fun T locs X eT t k => X.iaload C.1 (by rw [eT]; exact A.1) (State.isArrayOf_alike C.2.2.2.1.alike A.2.1) A.2.2 (by rw [r1]; exact hj.not) (r3 _ hj.2) (g := mkF m pc Ls (.int j :: .ref a :: st)) rfl rfl (hb C.2.1 hd) _ k) k
theorem g_lald (C : Cx p s m meth c Z code maxL own ret) {pc pc' : Nat} {Ls : Array Slot} {st : List Value} {a : Addr} {j : Int32} {n : Nat} {f : Nat → Value} (v : Value) (hd : I1 code pc .laload 1 pc') (F : AV Z h a .long n f) (hj : Inb j n) (hv : f j.toNatClampNeg = v) (k : Go p l e R s m args below meth c n0 K N Q h ck cn (mkF m pc' Ls (v :: st))) : Go p l e R s m args below meth c n0 K N Q h ck cn (mkF m pc Ls (.int j :: .ref a :: st)) := by
  obtain ⟨hd, rfl⟩ := hd
  obtain ⟨cl, A, r1, r2, r3⟩ := F
  subst hv
  exact Go.step (fun T locs X eT t k => X.laload C.1 (by rw [eT]; exact A.1) (State.isArrayOf_alike C.2.2.2.1.alike A.2.1) A.2.2 (by rw [r1]; exact hj.not) (r3 _ hj.2) (g := mkF m pc Ls (.int j :: .ref a :: st)) rfl rfl (hb C.2.1 hd) _ k) k
theorem g_cald (C : Cx p s m meth c Z code maxL own ret) {pc pc' : Nat} {Ls : Array Slot} {st : List Value} {a : Addr} {j : Int32} {n : Nat} {f : Nat → Value} (v : Value) (hd : I1 code pc .caload 1 pc') (F : AV Z h a .char n f) (hj : Inb j n) (hv : f j.toNatClampNeg = v) (k : Go p l e R s m args below meth c n0 K N Q h ck cn (mkF m pc' Ls (v :: st))) : Go p l e R s m args below meth c n0 K N Q h ck cn (mkF m pc Ls (.int j :: .ref a :: st)) := by
  obtain ⟨hd, rfl⟩ := hd
  obtain ⟨cl, A, r1, r2, r3⟩ := F
  subst hv
  exact Go.step (fun T locs X eT t k => X.caload C.1 (by rw [eT]; exact A.1) (State.isArrayOf_alike C.2.2.2.1.alike A.2.1) A.2.2 (by rw [r1]; exact hj.not) (r3 _ hj.2) (g := mkF m pc Ls (.int j :: .ref a :: st)) rfl rfl (hb C.2.1 hd) _ k) k
theorem g_sald (C : Cx p s m meth c Z code maxL own ret) {pc pc' : Nat} {Ls : Array Slot} {st : List Value} {a : Addr} {j : Int32} {n : Nat} {f : Nat → Value} (v : Value) (hd : I1 code pc .saload 1 pc') (F : AV Z h a .short n f) (hj : Inb j n) (hv : f j.toNatClampNeg = v) (k : Go p l e R s m args below meth c n0 K N Q h ck cn (mkF m pc' Ls (v :: st))) : Go p l e R s m args below meth c n0 K N Q h ck cn (mkF m pc Ls (.int j :: .ref a :: st)) := by
  obtain ⟨hd, rfl⟩ := hd
  obtain ⟨cl, A, r1, r2, r3⟩ := F
  subst hv
  exact Go.step (fun T locs X eT t k => X.saload C.1 (by rw [eT]; exact A.1) (State.isArrayOf_alike C.2.2.2.1.alike A.2.1) A.2.2 (by rw [r1]; exact hj.not) (r3 _ hj.2) (g := mkF m pc Ls (.int j :: .ref a :: st)) rfl rfl (hb C.2.1 hd) _ k) k
theorem g_bald (C : Cx p s m meth c Z code maxL own ret) {pc pc' : Nat} {Ls : Array Slot} {st : List Value} {a : Addr} {j : Int32} {n : Nat} {f : Nat → Value} (v : Value) (hd : I1 code pc .baload 1 pc') (F : AV Z h a .byte n f) (hj : Inb j n) (hv : f j.toNatClampNeg = v) (k : Go p l e R s m args below meth c n0 K N Q h ck cn (mkF m pc' Ls (v :: st))) : Go p l e R s m args below meth c n0 K N Q h ck cn (mkF m pc Ls (.int j :: .ref a :: st)) := by
  obtain ⟨hd, rfl⟩ := hd
  obtain ⟨cl, A, r1, r2, r3⟩ := F
  subst hv
  exact Go.step (fun T locs X eT t k => X.baloadBytes C.1 (by rw [eT]; exact A.1) (State.isArrayOf_alike C.2.2.2.1.alike A.2.1) A.2.2 (by rw [r1]; exact hj.not) (r3 _ hj.2) (g := mkF m pc Ls (.int j :: .ref a :: st)) rfl rfl (hb C.2.1 hd) _ k) k
theorem g_zald (C : Cx p s m meth c Z code maxL own ret) {pc pc' : Nat} {Ls : Array Slot} {st : List Value} {a : Addr} {j : Int32} {n : Nat} {f : Nat → Value} (v : Value) (hd : I1 code pc .baload 1 pc') (F : AV Z h a .boolean n f) (hj : Inb j n) (hv : f j.toNatClampNeg = v) (k : Go p l e R s m args below meth c n0 K N Q h ck cn (mkF m pc' Ls (v :: st))) : Go p l e R s m args below meth c n0 K N Q h ck cn (mkF m pc Ls (.int j :: .ref a :: st)) := by
  obtain ⟨hd, rfl⟩ := hd
  obtain ⟨cl, A, r1, r2, r3⟩ := F
  subst hv
  exact Go.step (fun T locs X eT t k => X.baloadBooleans C.1 (by rw [eT]; exact A.1) (State.isArrayOf_alike C.2.2.2.1.alike A.2.1) A.2.2 (by rw [r1]; exact hj.not) (r3 _ hj.2) (g := mkF m pc Ls (.int j :: .ref a :: st)) rfl rfl (hb C.2.1 hd) _ k) k
theorem g_aald (C : Cx p s m meth c Z code maxL own ret) {pc pc' : Nat} {Ls : Array Slot} {st : List Value} {a : Addr} {j : Int32} {ty : FieldType} {n : Nat} {f : Nat → Value} (v : Value) (hd : I1 code pc .aaload 1 pc') (F : AV Z h a ty n f) (hj : Inb j n) (hv : f j.toNatClampNeg = v) (ht : ty.isReference = true) (k : Go p l e R s m args below meth c n0 K N Q h ck cn (mkF m pc' Ls (v :: st))) : Go p l e R s m args below meth c n0 K N Q h ck cn (mkF m pc Ls (.int j :: .ref a :: st)) := by
  obtain ⟨hd, rfl⟩ := hd
  obtain ⟨cl, A, r1, r2, r3⟩ := F
  subst hv
  exact Go.step (fun T locs X eT t k => X.aaload C.1 (by rw [eT]; exact A.1) (State.isArrayOf_alike C.2.2.2.1.alike A.2.1) ht A.2.2 (by rw [r1]; exact hj.not) (r3 _ hj.2) (g := mkF m pc Ls (.int j :: .ref a :: st)) rfl rfl (hb C.2.1 hd) _ k) k
theorem g_iast (C : Cx p s m meth c Z code maxL own ret) {pc pc' : Nat} {Ls : Array Slot} {st : List Value} {a : Addr} {j : Int32} {x : Int32} {n : Nat} {f : Nat → Value} (hd : I1 code pc .iastore 1 pc') (F : AV Z h a .int n f) (hj : Inb j n) (ha : n0 ≤ a)
    (k : ∀ h', Wr h h' a j.toNatClampNeg (.int x) → AV Z h' a .int n (fun i => if i = j.toNatClampNeg then .int x else f i) → Go p l e R s m args below meth c n0 K N Q h' ck cn (mkF m pc' Ls st)) : Go p l e R s m args below meth c n0 K N Q h ck cn (mkF m pc Ls (.int x :: .int j :: .ref a :: st)) := fun T locs X eT hN => by
  obtain ⟨hd, rfl⟩ := hd
  have F' := F
  obtain ⟨cl, A, r1, r2, r3⟩ := F
  obtain ⟨T', h', X', e', W, st'⟩ := Jvm.RoadKit.stI X C.1 C.2.2.2.1 eT A (by rw [r1]; exact hj.not) (g := mkF m pc Ls (.int x :: .int j :: .ref a :: st)) rfl rfl (hb C.2.1 hd)
  exact Go.move hN X' e' (Fr.snoc X' hN ha) st' (k h' W (F'.set W))
theorem g_last (C : Cx p s m meth c Z code maxL own ret) {pc pc' : Nat} {Ls : Array Slot} {st : List Value} {a : Addr} {j : Int32} {x : Int64} {n : Nat} {f : Nat → Value} (hd : I1 code pc .lastore 1 pc') (F : AV Z h a .long n f) (hj : Inb j n) (ha : n0 ≤ a)
    (k : ∀ h', Wr h h' a j.toNatClampNeg (.long x) → AV Z h' a .long n (fun i => if i = j.toNatClampNeg then .long x else f i) → Go p l e R s m args below meth c n0 K N Q h' ck cn (mkF m pc' Ls st)) : Go p l e R s m args below meth c n0 K N Q h ck cn (mkF m pc Ls (.long x :: .int j :: .ref a :: st)) := fun T locs X eT hN => by
  obtain ⟨hd, rfl⟩ := hd
  have F' := F
  obtain ⟨cl, A, r1, r2, r3⟩ := F
  obtain ⟨T', h', X', e', W, st'⟩ := Jvm.RoadKit.stJ X C.1 C.2.2.2.1 eT A (by rw [r1]; exact hj.not) (g := mkF m pc Ls (.long x :: .int j :: .ref a :: st)) rfl rfl (hb C.2.1 hd)
  exact Go.move hN X' e' (Fr.snoc X' hN ha) st' (k h' W (F'.set W))
theorem g_cast (C : Cx p s m meth c Z code maxL own ret) {pc pc' : Nat} {Ls : Array Slot} {st : List Value} {a : Addr} {j : Int32} {x : Int32} {n : Nat} {f : Nat → Value} (hd : I1 code pc .castore 1 pc') (F : AV Z h a .char n f) (hj : Inb j n) (ha : n0 ≤ a)
    (k : ∀ h', Wr h h' a j.toNatClampNeg (.int (nar .char x)) → AV Z h' a .char n (fun i => if i = j.toNatClampNeg then .int (nar .char x) else f i) → Go p l e R s m args below meth c n0 K N Q h' ck cn (mkF m pc' Ls st)) : Go p l e R s m args below meth c n0 K N Q h ck cn (mkF m pc Ls (.int x :: .int j :: .ref a :: st)) := fun T locs X eT hN => by
  obtain ⟨hd, rfl⟩ := hd
  have F' := F
  obtain ⟨cl, A, r1, r2, r3⟩ := F
  obtain ⟨T', h', X', e', W, st'⟩ := Jvm.RoadKit.stC X C.1 C.2.2.2.1 eT A (by rw [r1]; exact hj.not) (g := mkF m pc Ls (.int x :: .int j :: .ref a :: st)) rfl rfl (hb C.2.1 hd)
  exact Go.move hN X' e' (Fr.snoc X' hN ha) st' (k h' W (F'.set W))
theorem g_sast (C : Cx p s m meth c Z code maxL own ret) {pc pc' : Nat} {Ls : Array Slot} {st : List Value} {a : Addr} {j : Int32} {x : Int32} {n : Nat} {f : Nat → Value} (hd : I1 code pc .sastore 1 pc') (F : AV Z h a .short n f) (hj : Inb j n) (ha : n0 ≤ a)
    (k : ∀ h', Wr h h' a j.toNatClampNeg (.int (nar .short x)) → AV Z h' a .short n (fun i => if i = j.toNatClampNeg then .int (nar .short x) else f i) → Go p l e R s m args below meth c n0 K N Q h' ck cn (mkF m pc' Ls st)) : Go p l e R s m args below meth c n0 K N Q h ck cn (mkF m pc Ls (.int x :: .int j :: .ref a :: st)) := fun T locs X eT hN => by
  obtain ⟨hd, rfl⟩ := hd
  have F' := F
  obtain ⟨cl, A, r1, r2, r3⟩ := F
  obtain ⟨T', h', X', e', W, st'⟩ := Jvm.RoadKit.stS X C.1 C.2.2.2.1 eT A (by rw [r1]; exact hj.not) (g := mkF m pc Ls (.int x :: .int j :: .ref a :: st)) rfl rfl (hb C.2.1 hd)
  exact Go.move hN X' e' (Fr.snoc X' hN ha) st' (k h' W (F'.set W))
theorem g_bast (C : Cx p s m meth c Z code maxL own ret) {pc pc' : Nat} {Ls : Array Slot} {st : List Value} {a : Addr} {j : Int32} {x : Int32} {n : Nat} {f : Nat → Value} (hd : I1 code pc .bastore 1 pc') (F : AV Z h a .byte n f) (hj : Inb j n) (ha : n0 ≤ a)
    (k : ∀ h', Wr h h' a j.toNatClampNeg (.int (nar .byte x)) → AV Z h' a .byte n (fun i => if i = j.toNatClampNeg then .int (nar .byte x) else f i) → Go p l e R s m args below meth c n0 K N Q h' ck cn (mkF m pc' Ls st)) : Go p l e R s m args below meth c n0 K N Q h ck cn (mkF m pc Ls (.int x :: .int j :: .ref a :: st)) := fun T locs X eT hN => by
  obtain ⟨hd, rfl⟩ := hd
  have F' := F
  obtain ⟨cl, A, r1, r2, r3⟩ := F
  obtain ⟨T', h', X', e', W, st'⟩ := Jvm.RoadKit.stB X C.1 C.2.2.2.1 eT A (by rw [r1]; exact hj.not) (g := mkF m pc Ls (.int x :: .int j :: .ref a :: st)) rfl rfl (hb C.2.1 hd)
  exact Go.move hN X' e' (Fr.snoc X' hN ha) st' (k h' W (F'.set W))
theorem g_zast (C : Cx p s m meth c Z code maxL own ret) {pc pc' : Nat} {Ls : Array Slot} {st : List Value} {a : Addr} {j : Int32} {x : Int32} {n : Nat} {f : Nat → Value} (hd : I1 code pc .bastore 1 pc') (F : AV Z h a .boolean n f) (hj : Inb j n) (ha : n0 ≤ a)
    (k : ∀ h', Wr h h' a j.toNatClampNeg (.int (nar .boolean x)) → AV Z h' a .boolean n (fun i => if i = j.toNatClampNeg then .int (nar .boolean x) else f i) → Go p l e R s m args below meth c n0 K N Q h' ck cn (mkF m pc' Ls st)) : Go p l e R s m args below meth c n0 K N Q h ck cn (mkF m pc Ls (.int x :: .int j :: .ref a :: st)) := fun T locs X eT hN => by
  obtain ⟨hd, rfl⟩ := hd
  have F' := F
  obtain ⟨cl, A, r1, r2, r3⟩ := F
  obtain ⟨T', h', X', e', W, st'⟩ := Jvm.RoadKit.stZ X C.1 C.2.2.2.1 eT A (by rw [r1]; exact hj.not) (g := mkF m pc Ls (.int x :: .int j :: .ref a :: st)) rfl rfl (hb C.2.1 hd)
  exact Go.move hN X' e' (Fr.snoc X' hN ha) st' (k h' W (F'.set W))
theorem g_callS (C : Cx p s m meth c Z code maxL own ret) {pc pc' : Nat} {Ls : Array Slot} {y : MethodName} {ycode : ByteArray} {ymax : Nat} {yret : Option FieldType} {rm : Room} {as' : Array Value} {Q' : Option Value → Heap → Prop} {index : Nat} (hC : Ctr l Z y ycode ymax yret rm as' h n0 Q') (hd : I1 code pc (.invokestatic index) 3 pc') (w1 : (Cond.methodLink own index y).before a0 Z = true) (w2 : (Cond.static y).before a0 Z = true) (w3 : (Cond.initialized y.cls).before a0 Z = true) (w4 : (Cond.code y ycode ymax yret).before a0 Z = true) (hy : y.cls ≠ "java/lang/invoke/MethodHandle" ∧ y.cls ≠ "java/lang/invoke/VarHandle")
    {argsL st rest : List Value} (hst : st = argsL.reverse ++ rest) (has : argsL.toArray = as') {ps : List FieldType} {r : Option FieldType} (hpd : parseMethodDescriptor y.desc = some ⟨ps, r⟩) (hlen : argsL.length = ps.length) (hsz : Ls.size = maxL) (W : Nat) (hW : 2 * 0 + (rest.map fun v => v.category).sum ≤ W)
    (hf : rm.frames + 1 ≤ R.frames) (hl : W + (ymax + 11) + rm.locals ≤ R.locals) (hc : ck + rm.cells ≤ R.cells) (hs : cn + rm.slots ≤ R.slots) {ck' cn' : Nat} (hck : ck + rm.cells = ck') (hcn : cn + rm.slots = cn')
    (k : ∀ v h', Q' v h' → Go p l e R s m args below meth c n0 K N Q h' ck' cn' (mkF m pc' Ls (v.toList ++ rest))) : Go p l e R s m args below meth c n0 K N Q h ck cn (mkF m pc Ls st) := fun T locs X eT hN => by
  obtain ⟨hd, rfl⟩ := hd
  subst hck hcn hst
  obtain ⟨v, _, ⟨T', L', k', n'⟩, -, X', ⟨Lc, hQ, l1, l2, l3⟩, st'⟩ := Jvm.LawKit.callS X C.1 C.2.2.2.2.1 (mvT C.2.2.2.1 w1) (mvT C.2.2.2.1 w2) (mvT C.2.2.2.1 w3) (mvT C.2.2.2.1 w4) hy (backOf (W := W) (Q := fun v h L => Q' v h ∧ Fr n0 L) (hC []) C.2.2.2.1 w4 w3 hf hl) (g := mkF m pc Ls (argsL.reverse ++ rest)) rfl (hsz.trans C.2.2.1.symm) (argsL := argsL) (rest := rest) (lenOf hpd hlen) rfl hW (hb C.2.1 hd) (fun _ _ => ⟨has, eT, hc, hs⟩)
  dsimp only [Pt.U, Pt.locs, Pt.cells, Pt.slots] at X' l1 l2 l3 st' hQ
  subst l1 l2 l3
  exact Go.move hN X' rfl (Fr.app hN hQ.2) st' (k v _ hQ.1)
theorem g_callI (C : Cx p s m meth c Z code maxL own ret) {pc pc' : Nat} {Ls : Array Slot} {y : MethodName} {ycode : ByteArray} {ymax : Nat} {yret : Option FieldType} {rm : Room} {as' : Array Value} {Q' : Option Value → Heap → Prop} {index : Nat} (hC : Ctr l Z y ycode ymax yret rm as' h n0 Q') {a : Addr} (hd : I1 code pc (.invokespecial index) 3 pc') (hy1 : y.name = "<init>") (w1 : (Cond.methodLink own index y).before a0 Z = true) (w2 : (Cond.instanceMethod y).before a0 Z = true) (w3 : (Cond.initialized y.cls).before a0 Z = true) (w4 : (Cond.code y ycode ymax none).before a0 Z = true) (hyr : yret = none) (hy : y.cls ≠ "java/lang/invoke/MethodHandle" ∧ y.cls ≠ "java/lang/invoke/VarHandle")
    {argsL st rest : List Value} (hst : st = argsL.reverse ++ .ref a :: rest) (has : (.ref a :: argsL).toArray = as') {ps : List FieldType} {r : Option FieldType} (hpd : parseMethodDescriptor y.desc = some ⟨ps, r⟩) (hlen : argsL.length = ps.length) (hsz : Ls.size = maxL) (W : Nat) (hW : 2 * 0 + (rest.map fun v => v.category).sum ≤ W)
    (hf : rm.frames + 1 ≤ R.frames) (hl : W + (ymax + 11) + rm.locals ≤ R.locals) (hc : ck + rm.cells ≤ R.cells) (hs : cn + rm.slots ≤ R.slots) {ck' cn' : Nat} (hck : ck + rm.cells = ck') (hcn : cn + rm.slots = cn')
    (k : ∀ v h', Q' v h' → Go p l e R s m args below meth c n0 K N Q h' ck' cn' (mkF m pc' Ls (v.toList ++ rest))) : Go p l e R s m args below meth c n0 K N Q h ck cn (mkF m pc Ls st) := fun T locs X eT hN => by
  obtain ⟨hd, rfl⟩ := hd
  subst hck hcn hst
  subst hyr
  obtain ⟨v, _, ⟨T', L', k', n'⟩, -, X', ⟨Lc, hQ, l1, l2, l3⟩, st'⟩ := X.specialBack C.1 hy1 C.2.2.2.2.1 (mvT C.2.2.2.1 w1) (mvT C.2.2.2.1 w2) (mvT C.2.2.2.1 w4) hy (backOf (W := W) (Q := fun v h L => Q' v h ∧ Fr n0 L) (hC []) C.2.2.2.1 w4 w3 hf hl) (g := mkF m pc Ls (argsL.reverse ++ .ref a :: rest)) rfl (hsz.trans C.2.2.1.symm) (Steps.refl _) (a := a) (argsL := argsL) (rest := rest) (lenOf hpd hlen) rfl hW (hb C.2.1 hd) (fun _ _ => ⟨has, eT, hc, hs⟩)
  dsimp only [Pt.U, Pt.locs, Pt.cells, Pt.slots] at X' l1 l2 l3 st' hQ
  subst l1 l2 l3
  exact Go.move hN X' rfl (Fr.app hN hQ.2) (fun _ z => st'.trans z) (k v _ hQ.1)
theorem g_callV (C : Cx p s m meth c Z code maxL own ret) {pc pc' : Nat} {Ls : Array Slot} {y : MethodName} {ycode : ByteArray} {ymax : Nat} {yret : Option FieldType} {rm : Room} {as' : Array Value} {Q' : Option Value → Heap → Prop} {index : Nat} (hC : Ctr l Z y ycode ymax yret rm as' h n0 Q') {a : Addr} {x : MethodName} {Cl : String} (hd : I1 code pc (.invokevirtual index) 3 pc') (w1 : (Cond.methodLink own index x).before a0 Z = true) (w2 : (Cond.declares x).before a0 Z = true) (hnf : ∀ s : State, Z.Warmed39 s.vm → NotFace s x) (w5 : (Cond.selects Cl x y).before a0 Z = true) (w6 : (Cond.instanceMethod y).before a0 Z = true) (w3 : (Cond.initialized y.cls).before a0 Z = true) (w4 : (Cond.code y ycode ymax yret).before a0 Z = true) (hy : x.cls ≠ "java/lang/invoke/MethodHandle" ∧ x.cls ≠ "java/lang/invoke/VarHandle") (E : Exa Z h a Cl)
    {argsL st rest : List Value} (hst : st = argsL.reverse ++ .ref a :: rest) (has : (.ref a :: argsL).toArray = as') {ps : List FieldType} {r : Option FieldType} (hpd : parseMethodDescriptor x.desc = some ⟨ps, r⟩) (hlen : argsL.length = ps.length) (hsz : Ls.size = maxL) (W : Nat) (hW : 2 * 0 + (rest.map fun v => v.category).sum ≤ W)
    (hf : rm.frames + 1 ≤ R.frames) (hl : W + (ymax + 11) + rm.locals ≤ R.locals) (hc : ck + rm.cells ≤ R.cells) (hs : cn + rm.slots ≤ R.slots) {ck' cn' : Nat} (hck : ck + rm.cells = ck') (hcn : cn + rm.slots = cn')
    (k : ∀ v h', Q' v h' → Go p l e R s m args below meth c n0 K N Q h' ck' cn' (mkF m pc' Ls (v.toList ++ rest))) : Go p l e R s m args below meth c n0 K N Q h ck cn (mkF m pc Ls st) := fun T locs X eT hN => by
  obtain ⟨hd, rfl⟩ := hd
  subst hck hcn hst
  obtain ⟨cq, kq, q1, q2, q3⟩ := isOf C.2.2.2.1 eT E
  obtain ⟨v, _, ⟨T', L', k', n'⟩, -, X', ⟨Lc, hQ, l1, l2, l3⟩, st'⟩ := X.virtualBack C.1 (y := x) (z := y) C.2.2.2.2.1 (mvT C.2.2.2.1 w1) (mvT C.2.2.2.1 w2) (hnf s C.2.2.2.1) (mvT C.2.2.2.1 w5) (mvT C.2.2.2.1 w6) hy (backOf (W := W) (Q := fun v h L => Q' v h ∧ Fr n0 L) (hC []) C.2.2.2.1 w4 w3 hf hl) q1 q3 (g := mkF m pc Ls (argsL.reverse ++ .ref a :: rest)) rfl (hsz.trans C.2.2.1.symm) (Steps.refl _) (argsL := argsL) (rest := rest) (lenOf hpd hlen) rfl hW (hb C.2.1 hd) (fun _ _ => ⟨has, eT, hc, hs⟩)
  dsimp only [Pt.U, Pt.locs, Pt.cells, Pt.slots] at X' l1 l2 l3 st' hQ
  subst l1 l2 l3
  exact Go.move hN X' rfl (Fr.app hN hQ.2) (fun _ z => st'.trans z) (k v _ hQ.1)
theorem g_callP (C : Cx p s m meth c Z code maxL own ret) {pc pc' : Nat} {Ls : Array Slot} {y : MethodName} {ycode : ByteArray} {ymax : Nat} {yret : Option FieldType} {rm : Room} {as' : Array Value} {Q' : Option Value → Heap → Prop} {index : Nat} (hC : Ctr l Z y ycode ymax yret rm as' h n0 Q') {a : Addr} {Cl : String} (hd : I1 code pc (.invokevirtual index) 3 pc') (w1 : (Cond.methodLink own index y).before a0 Z = true) (w2 : (Cond.instanceMethod y).before a0 Z = true) (w5 : (Cond.selects y.cls y y).before a0 Z = true) (w6 : (Cond.privateMethod y).before a0 Z = true) (w3 : (Cond.initialized y.cls).before a0 Z = true) (w4 : (Cond.code y ycode ymax yret).before a0 Z = true) (hy : y.cls ≠ "java/lang/invoke/MethodHandle" ∧ y.cls ≠ "java/lang/invoke/VarHandle") (E : Exa Z h a Cl)
    {argsL st rest : List Value} (hst : st = argsL.reverse ++ .ref a :: rest) (has : (.ref a :: argsL).toArray = as') {ps : List FieldType} {r : Option FieldType} (hpd : parseMethodDescriptor y.desc = some ⟨ps, r⟩) (hlen : argsL.length = ps.length) (hsz : Ls.size = maxL) (W : Nat) (hW : 2 * 0 + (rest.map fun v => v.category).sum ≤ W)
    (hf : rm.frames + 1 ≤ R.frames) (hl : W + (ymax + 11) + rm.locals ≤ R.locals) (hc : ck + rm.cells ≤ R.cells) (hs : cn + rm.slots ≤ R.slots) {ck' cn' : Nat} (hck : ck + rm.cells = ck') (hcn : cn + rm.slots = cn')
    (k : ∀ v h', Q' v h' → Go p l e R s m args below meth c n0 K N Q h' ck' cn' (mkF m pc' Ls (v.toList ++ rest))) : Go p l e R s m args below meth c n0 K N Q h ck cn (mkF m pc Ls st) := fun T locs X eT hN => by
  obtain ⟨hd, rfl⟩ := hd
  subst hck hcn hst
  obtain ⟨cq, q1, q2⟩ := E.cell
  obtain ⟨v, _, ⟨T', L', k', n'⟩, -, X', ⟨Lc, hQ, l1, l2, l3⟩, st'⟩ := X.privateBack C.1 (y := y) C.2.2.2.2.1 (mvT C.2.2.2.1 w1) (mvT C.2.2.2.1 w2) (mvT C.2.2.2.1 w5) (Cond.privateMethod_at (mvP C.2.2.2.1 w6 (args := #[]))) (mvT C.2.2.2.1 w4) hy (backOf (W := W) (Q := fun v h L => Q' v h ∧ Fr n0 L) (hC []) C.2.2.2.1 w4 w3 hf hl) (g := mkF m pc Ls (argsL.reverse ++ .ref a :: rest)) rfl (hsz.trans C.2.2.1.symm) (Steps.refl _) (a := a) (by rw [eT]; exact q1) q2 (argsL := argsL) (rest := rest) (lenOf hpd hlen) rfl hW (hb C.2.1 hd) (fun _ _ => ⟨has, eT, hc, hs⟩)
  dsimp only [Pt.U, Pt.locs, Pt.cells, Pt.slots] at X' l1 l2 l3 st' hQ
  subst l1 l2 l3
  exact Go.move hN X' rfl (Fr.app hN hQ.2) (fun _ z => st'.trans z) (k v _ hQ.1)
end
end Jvm.OwnGo
namespace Jvm.OwnGo
open Jvm.RoadKit
theorem nar_b (x : Int32) : nar .boolean x = x &&& 1 := rfl
theorem nbT {P : Prop} [Decidable P] : nar .boolean (if P then (1 : Int32) else (0 : Int32)) = 1 ↔ P := by
  by_cases h : P
  · simp only [if_pos h]; exact ⟨fun _ => h, fun _ => rfl⟩
  · simp only [if_neg h]; exact ⟨fun q => absurd q (by decide), fun q => absurd q h⟩
theorem own_nat {i : Nat} (h : i < 2147483648) : i.toInt32.toInt = i := len_toInt h
theorem own_cl {i : Nat} (h : i < 2147483648) : i.toInt32.toNatClampNeg = i := by simp only [Int32.toNatClampNeg, own_nat h]; omega
theorem own_lt {i n : Nat} (hi : i < 2147483648) (hn : n < 2147483648) : i.toInt32 < n.toInt32 ↔ i < n := by
  rw [Int32.lt_iff_toInt_lt, own_nat hi, own_nat hn]; omega
theorem own_inN {i n : Nat} (hi : i < 2147483648) (h : i < n) : Inb i.toInt32 n := inb_int (by rw [own_nat hi]; omega) (by rw [own_nat hi]; omega)
theorem own_rd {α : Type} (F : Nat → α) {i : Nat} (h : i < 2147483648) : F i.toInt32.toNatClampNeg = F i := by rw [own_cl h]
theorem own_succ {i : Nat} (h : i < 2147483647) : i.toInt32 + (1 : Int32) = (i + 1).toInt32 := by
  rw [← Int32.toInt_inj]
  have h1 := c_iadd i.toInt32 1
  have h2 := rng32 (i.toInt32 + 1)
  have h3 : (1 : Int32).toInt = 1 := rfl
  rw [own_nat (by omega), h3] at h1
  rw [own_nat (by omega)]
  omega
theorem AV.small {Z : State} {h : Heap} {a : Addr} {ty : ClassFile.FieldType} {n : Nat} {f : Nat → Value} (V : AV Z h a ty n f) : n < 2147483648 := by
  obtain ⟨c, -, -, r, -⟩ := V; exact r
theorem own_inb {Z : State} {h : Heap} {a : Addr} {ty : ClassFile.FieldType} {n : Nat} {f : Nat → Value} (V : AV Z h a ty n f) {j : Int32} (h0 : ¬ (j < (0 : Int32))) (h1 : j < n.toInt32) : Inb j n := by
  have hn := V.small
  have e0 : (0 : Int32).toInt = 0 := rfl
  rw [Int32.lt_iff_toInt_lt] at h0 h1
  rw [own_nat hn] at h1
  exact inb_int (by omega) (by omega)
end Jvm.OwnGo
namespace Jvm.Pilot.@@N@@
open Jvm Jvm.ClassFile Sem Op Lib Jvm.Free Jvm.Stand Jvm.LawKit Jvm.RoadKit Bundle Jvm.Pilot.@@N@@.Jvm.D
open Jvm.OwnGo
theorem iN_0 : I1 jdk_29_method_70_code 0 (.lload_n 0) 1 1 := ⟨(by decide +kernel), rfl⟩
theorem iN_1 : I1 jdk_29_method_70_code 1 (.lload_n 2) 1 2 := ⟨(by decide +kernel), rfl⟩
theorem iN_2 : I1 jdk_29_method_70_code 2 (.lcmp) 1 3 := ⟨(by decide +kernel), rfl⟩
theorem iN_3 : B1 jdk_29_method_70_code 3 (.ifCond .gt 7) 7 10 6 := ⟨(by decide +kernel), rfl, by decide, by decide⟩
theorem iN_6 : I1 jdk_29_method_70_code 6 (.lload_n 0) 1 7 := ⟨(by decide +kernel), rfl⟩
theorem iN_7 : B1 jdk_29_method_70_code 7 (.goto 4) 4 11 10 := ⟨(by decide +kernel), rfl, by decide, by decide⟩
theorem iN_10 : I1 jdk_29_method_70_code 10 (.lload_n 2) 1 11 := ⟨(by decide +kernel), rfl⟩
theorem iN_11 : I1 jdk_29_method_70_code 11 (.lreturn) 1 12 := ⟨(by decide +kernel), rfl⟩
def vN_0 (q0 : Int64) (q1 : Int64) : Int64 := (if q1 < q0 then q1 else q0)
theorem efN (m : MethodId) (q0 : Int64) (q1 : Int64) : entryFrame m #[(.long q0), (.long q1)] 4 = mkF m 0 #[.val (.long q0), .second, .val (.long q1), .second] [] := by first | (simp [entryFrame, mkF, argsToLocals, Value.category]; done) | rfl
def QN (Z : State) (q0 : Int64) (q1 : Int64) (h0 : Heap) (n0 : Nat) (v : Option Value) (h : Heap) : Prop := v = some (.long (vN_0 q0 q1)) ∧ h = h0
set_option maxRecDepth 65536 in
set_option maxHeartbeats 40000000 in
theorem rmN (l : Launch) (Z : State) (aZ : Array Value) (hw : ∀ d ∈ tables_1, d.before aZ Z = true) (q0 : Int64) (q1 : Int64) (h0 : Heap) (n0 : Nat) (Z0 : n0 ≤ h0.size) :
    Ctr l Z (⟨"java/lang/Math", "min", "(JJ)J"⟩ : MethodName) jdk_29_method_70_code 4 (some .long) ({ frames := 0, cells := 0, slots := 0, locals := 0 } : Room) #[(.long q0), (.long q1)] h0 n0 (QN Z q0 q1 h0 n0) := by
  refine Ctr.of_go (Jvm.Free.JP.mathPlain rfl (by decide +kernel)) (fun m => efN m q0 q1) ?_
  intro p e s m below meth c hnm C
  refine g_lloadN C iN_0 rfl ?_
  refine g_lloadN C iN_1 rfl ?_
  refine g_lcmp C iN_2 ?_
  refine Go.join (mkF m 11 #[.val (.long q0), .second, .val (.long q1), .second] [(.long (vN_0 q0 q1))]) ?_ (fun J => ?_)
  · exact g_retLong C iN_11 rfl (by decide) (by decide) ⟨rfl, rfl⟩
  · refine g_ifl_gt C iN_3 (fun hc3_1 => ?_) (fun hc3_1 => ?_)
    · refine g_lloadN C iN_10 rfl ?_
      have e0 : (vN_0 q0 q1) = q1 := by simp only [vN_0, if_pos hc3_1]
      exact Go.cast J (by rw [e0])
    · refine g_lloadN C iN_6 rfl ?_
      refine g_goto C iN_7 ?_
      have e0 : (vN_0 q0 q1) = q0 := by simp only [vN_0, if_neg hc3_1]
      exact Go.cast J (by rw [e0])
theorem iX_0 : I1 jdk_29_method_66_code 0 (.lload_n 0) 1 1 := ⟨(by decide +kernel), rfl⟩
theorem iX_1 : I1 jdk_29_method_66_code 1 (.lload_n 2) 1 2 := ⟨(by decide +kernel), rfl⟩
theorem iX_2 : I1 jdk_29_method_66_code 2 (.lcmp) 1 3 := ⟨(by decide +kernel), rfl⟩
theorem iX_3 : B1 jdk_29_method_66_code 3 (.ifCond .lt 7) 7 10 6 := ⟨(by decide +kernel), rfl, by decide, by decide⟩
theorem iX_6 : I1 jdk_29_method_66_code 6 (.lload_n 0) 1 7 := ⟨(by decide +kernel), rfl⟩
theorem iX_7 : B1 jdk_29_method_66_code 7 (.goto 4) 4 11 10 := ⟨(by decide +kernel), rfl, by decide, by decide⟩
theorem iX_10 : I1 jdk_29_method_66_code 10 (.lload_n 2) 1 11 := ⟨(by decide +kernel), rfl⟩
theorem iX_11 : I1 jdk_29_method_66_code 11 (.lreturn) 1 12 := ⟨(by decide +kernel), rfl⟩
def vX_0 (q0 : Int64) (q1 : Int64) : Int64 := (if q0 < q1 then q1 else q0)
theorem efX (m : MethodId) (q0 : Int64) (q1 : Int64) : entryFrame m #[(.long q0), (.long q1)] 4 = mkF m 0 #[.val (.long q0), .second, .val (.long q1), .second] [] := by first | (simp [entryFrame, mkF, argsToLocals, Value.category]; done) | rfl
def QX (Z : State) (q0 : Int64) (q1 : Int64) (h0 : Heap) (n0 : Nat) (v : Option Value) (h : Heap) : Prop := v = some (.long (vX_0 q0 q1)) ∧ h = h0
set_option maxRecDepth 65536 in
set_option maxHeartbeats 40000000 in
theorem rmX (l : Launch) (Z : State) (aZ : Array Value) (hw : ∀ d ∈ tables_1, d.before aZ Z = true) (q0 : Int64) (q1 : Int64) (h0 : Heap) (n0 : Nat) (Z0 : n0 ≤ h0.size) :
    Ctr l Z (⟨"java/lang/Math", "max", "(JJ)J"⟩ : MethodName) jdk_29_method_66_code 4 (some .long) ({ frames := 0, cells := 0, slots := 0, locals := 0 } : Room) #[(.long q0), (.long q1)] h0 n0 (QX Z q0 q1 h0 n0) := by
  refine Ctr.of_go (Jvm.Free.JP.mathPlain rfl (by decide +kernel)) (fun m => efX m q0 q1) ?_
  intro p e s m below meth c hnm C
  refine g_lloadN C iX_0 rfl ?_
  refine g_lloadN C iX_1 rfl ?_
  refine g_lcmp C iX_2 ?_
  refine Go.join (mkF m 11 #[.val (.long q0), .second, .val (.long q1), .second] [(.long (vX_0 q0 q1))]) ?_ (fun J => ?_)
  · exact g_retLong C iX_11 rfl (by decide) (by decide) ⟨rfl, rfl⟩
  · refine g_ifl_lt C iX_3 (fun hc3_1 => ?_) (fun hc3_1 => ?_)
    · refine g_lloadN C iX_10 rfl ?_
      have e0 : (vX_0 q0 q1) = q1 := by simp only [vX_0, if_pos hc3_1]
      exact Go.cast J (by rw [e0])
    · refine g_lloadN C iX_6 rfl ?_
      refine g_goto C iX_7 ?_
      have e0 : (vX_0 q0 q1) = q0 := by simp only [vX_0, if_neg hc3_1]
      exact Go.cast J (by rw [e0])
theorem pn0 : plainFor (⟨"java/lang/Record", "<init>", "()V"⟩ : MethodName) = true := by decide +kernel
theorem iR_0 : I1 jdk_30_method_1_code 0 (.aload_n 0) 1 1 := ⟨(by decide +kernel), rfl⟩
theorem iR_1 : I1 jdk_30_method_1_code 1 (.invokespecial 1) 3 4 := ⟨(by decide +kernel), rfl⟩
theorem iR_4 : I1 jdk_30_method_1_code 4 (.return_) 1 5 := ⟨(by decide +kernel), rfl⟩
theorem efR (m : MethodId) (a0 : Addr) : entryFrame m #[(.ref a0)] 1 = mkF m 0 #[.val (.ref a0)] [] := by first | (simp [entryFrame, mkF, argsToLocals, Value.category]; done) | rfl
def QR (Z : State) (a0 : Addr) (h0 : Heap) (n0 : Nat) (v : Option Value) (h : Heap) : Prop := v = none ∧ h = h0
set_option maxRecDepth 65536 in
set_option maxHeartbeats 40000000 in
theorem rmR (l : Launch) (Z : State) (aZ : Array Value) (hw : ∀ d ∈ tables_1, d.before aZ Z = true) (a0 : Addr) (h0 : Heap) (n0 : Nat) (Z0 : n0 ≤ h0.size) :
    Ctr l Z (⟨"java/lang/Record", "<init>", "()V"⟩ : MethodName) jdk_30_method_1_code 1 none ({ frames := 1, cells := 0, slots := 0, locals := 12 } : Room) #[(.ref a0)] h0 n0 (QR Z a0 h0 n0) := by
  refine Ctr.of_go pn0 (fun m => efR m a0) ?_
  intro p e s m below meth c hnm C
  refine g_aloadN C iR_0 rfl rfl ?_
  refine g_initO C iR_1 (hw _ (List.mem_of_getElem? (i := 19) rfl)) (hw _ (List.mem_of_getElem? (i := 20) rfl)) (hw _ (List.mem_of_getElem? (i := 21) rfl)) rfl (by decide) 0 (Nat.le_of_eq rfl) (by decide) ?_
  exact g_retV C iR_4 rfl (by decide) (by decide) ⟨rfl, rfl⟩
theorem pn1 : plainFor (⟨"java/lang/Long", "compare", "(JJ)I"⟩ : MethodName) = true := by decide +kernel
theorem iQ_0 : I1 jdk_35_method_42_code 0 (.lload_n 0) 1 1 := ⟨(by decide +kernel), rfl⟩
theorem iQ_1 : I1 jdk_35_method_42_code 1 (.lload_n 2) 1 2 := ⟨(by decide +kernel), rfl⟩
theorem iQ_2 : I1 jdk_35_method_42_code 2 (.lcmp) 1 3 := ⟨(by decide +kernel), rfl⟩
theorem iQ_3 : B1 jdk_35_method_42_code 3 (.ifCond .ge 7) 7 10 6 := ⟨(by decide +kernel), rfl, by decide, by decide⟩
theorem iQ_6 : I1 jdk_35_method_42_code 6 (.iconst (-1)) 1 7 := ⟨(by decide +kernel), rfl⟩
theorem iQ_7 : B1 jdk_35_method_42_code 7 (.goto 14) 14 21 10 := ⟨(by decide +kernel), rfl, by decide, by decide⟩
theorem iQ_10 : I1 jdk_35_method_42_code 10 (.lload_n 0) 1 11 := ⟨(by decide +kernel), rfl⟩
theorem iQ_11 : I1 jdk_35_method_42_code 11 (.lload_n 2) 1 12 := ⟨(by decide +kernel), rfl⟩
theorem iQ_12 : I1 jdk_35_method_42_code 12 (.lcmp) 1 13 := ⟨(by decide +kernel), rfl⟩
theorem iQ_13 : B1 jdk_35_method_42_code 13 (.ifCond .ne 7) 7 20 16 := ⟨(by decide +kernel), rfl, by decide, by decide⟩
theorem iQ_16 : I1 jdk_35_method_42_code 16 (.iconst 0) 1 17 := ⟨(by decide +kernel), rfl⟩
theorem iQ_17 : B1 jdk_35_method_42_code 17 (.goto 4) 4 21 20 := ⟨(by decide +kernel), rfl, by decide, by decide⟩
theorem iQ_20 : I1 jdk_35_method_42_code 20 (.iconst 1) 1 21 := ⟨(by decide +kernel), rfl⟩
theorem iQ_21 : I1 jdk_35_method_42_code 21 (.ireturn) 1 22 := ⟨(by decide +kernel), rfl⟩
def vQ_0 (q0 : Int64) (q1 : Int64) : Int32 := (if q0 = q1 then (0 : Int32) else (1 : Int32))
def vQ_1 (q0 : Int64) (q1 : Int64) : Int32 := (if q0 < q1 then (-1 : Int32) else (if q0 = q1 then (0 : Int32) else (1 : Int32)))
theorem efQ (m : MethodId) (q0 : Int64) (q1 : Int64) : entryFrame m #[(.long q0), (.long q1)] 4 = mkF m 0 #[.val (.long q0), .second, .val (.long q1), .second] [] := by first | (simp [entryFrame, mkF, argsToLocals, Value.category]; done) | rfl
def QQ (Z : State) (q0 : Int64) (q1 : Int64) (h0 : Heap) (n0 : Nat) (v : Option Value) (h : Heap) : Prop := v = some (.int (vQ_1 q0 q1)) ∧ h = h0
set_option maxRecDepth 65536 in
set_option maxHeartbeats 40000000 in
theorem rmQ (l : Launch) (Z : State) (aZ : Array Value) (hw : ∀ d ∈ tables_1, d.before aZ Z = true) (q0 : Int64) (q1 : Int64) (h0 : Heap) (n0 : Nat) (Z0 : n0 ≤ h0.size) :
    Ctr l Z (⟨"java/lang/Long", "compare", "(JJ)I"⟩ : MethodName) jdk_35_method_42_code 4 (some .int) ({ frames := 0, cells := 0, slots := 0, locals := 0 } : Room) #[(.long q0), (.long q1)] h0 n0 (QQ Z q0 q1 h0 n0) := by
  refine Ctr.of_go pn1 (fun m => efQ m q0 q1) ?_
  intro p e s m below meth c hnm C
  refine g_lloadN C iQ_0 rfl ?_
  refine g_lloadN C iQ_1 rfl ?_
  refine g_lcmp C iQ_2 ?_
  refine Go.join (mkF m 21 #[.val (.long q0), .second, .val (.long q1), .second] [(.int (vQ_1 q0 q1))]) ?_ (fun J => ?_)
  · exact g_retInt C iQ_21 rfl (by decide) (by decide) ⟨rfl, rfl⟩
  · refine g_ifl_ge C iQ_3 (fun hc3_1 => ?_) (fun hc3_1 => ?_)
    · refine g_iconst C (-1 : Int32) iQ_6 rfl ?_
      refine g_goto C iQ_7 ?_
      have e0 : (vQ_1 q0 q1) = (-1 : Int32) := by simp only [vQ_1, if_pos hc3_1]
      exact Go.cast J (by rw [e0])
    · refine g_lloadN C iQ_10 rfl ?_
      refine g_lloadN C iQ_11 rfl ?_
      refine g_lcmp C iQ_12 ?_
      refine g_ifl_ne C iQ_13 (fun hc13_1 => ?_) (fun hc13_1 => ?_)
      · refine g_iconst C (0 : Int32) iQ_16 rfl ?_
        refine g_goto C iQ_17 ?_
        have e0 : (vQ_1 q0 q1) = (0 : Int32) := by simp only [vQ_1, if_neg hc3_1, if_pos hc13_1]
        exact Go.cast J (by rw [e0])
      · refine g_iconst C (1 : Int32) iQ_20 rfl ?_
        have e0 : (vQ_1 q0 q1) = (1 : Int32) := by simp only [vQ_1, if_neg hc3_1, if_neg hc13_1]
        exact Go.cast J (by rw [e0])
theorem pd0 : parseMethodDescriptor "(JJ)I" = some ⟨[.long, .long], some .int⟩ := by decide +kernel
theorem pn2 : plainFor (⟨"java/lang/Long", "compareUnsigned", "(JJ)I"⟩ : MethodName) = true := by decide +kernel
theorem iU_0 : I1 jdk_35_method_43_code 0 (.lload_n 0) 1 1 := ⟨(by decide +kernel), rfl⟩
theorem iU_1 : I1 jdk_35_method_43_code 1 (.ldc2_w 168) 3 4 := ⟨(by decide +kernel), rfl⟩
theorem iU_4 : I1 jdk_35_method_43_code 4 (.ladd) 1 5 := ⟨(by decide +kernel), rfl⟩
theorem iU_5 : I1 jdk_35_method_43_code 5 (.lload_n 2) 1 6 := ⟨(by decide +kernel), rfl⟩
theorem iU_6 : I1 jdk_35_method_43_code 6 (.ldc2_w 168) 3 9 := ⟨(by decide +kernel), rfl⟩
theorem iU_9 : I1 jdk_35_method_43_code 9 (.ladd) 1 10 := ⟨(by decide +kernel), rfl⟩
theorem iU_10 : I1 jdk_35_method_43_code 10 (.invokestatic 302) 3 13 := ⟨(by decide +kernel), rfl⟩
theorem iU_13 : I1 jdk_35_method_43_code 13 (.ireturn) 1 14 := ⟨(by decide +kernel), rfl⟩
def ret_U (q0 : Int64) (q1 : Int64) : Int32 := (vQ_1 (q0 + (-9223372036854775808 : Int64)) (q1 + (-9223372036854775808 : Int64)))
theorem efU (m : MethodId) (q0 : Int64) (q1 : Int64) : entryFrame m #[(.long q0), (.long q1)] 4 = mkF m 0 #[.val (.long q0), .second, .val (.long q1), .second] [] := by first | (simp [entryFrame, mkF, argsToLocals, Value.category]; done) | rfl
def QU (Z : State) (q0 : Int64) (q1 : Int64) (h0 : Heap) (n0 : Nat) (v : Option Value) (h : Heap) : Prop := v = some (.int (ret_U q0 q1)) ∧ h = h0
set_option maxRecDepth 65536 in
set_option maxHeartbeats 40000000 in
theorem rmU (l : Launch) (Z : State) (aZ : Array Value) (hw : ∀ d ∈ tables_1, d.before aZ Z = true) (q0 : Int64) (q1 : Int64) (h0 : Heap) (n0 : Nat) (Z0 : n0 ≤ h0.size) :
    Ctr l Z (⟨"java/lang/Long", "compareUnsigned", "(JJ)I"⟩ : MethodName) jdk_35_method_43_code 4 (some .int) ({ frames := 1, cells := 0, slots := 0, locals := 15 } : Room) #[(.long q0), (.long q1)] h0 n0 (QU Z q0 q1 h0 n0) := by
  refine Ctr.of_go pn2 (fun m => efU m q0 q1) ?_
  intro p e s m below meth c hnm C
  refine g_lloadN C iU_0 rfl ?_
  refine g_ldc2Long C iU_1 (hw _ (List.mem_of_getElem? (i := 27) rfl)) ?_
  refine g_ladd C iU_4 ?_
  refine g_lloadN C iU_5 rfl ?_
  refine g_ldc2Long C iU_6 (hw _ (List.mem_of_getElem? (i := 27) rfl)) ?_
  refine g_ladd C iU_9 ?_
  refine g_callS C (rmQ l Z aZ hw (q0 + (-9223372036854775808 : Int64)) (q1 + (-9223372036854775808 : Int64)) h0 n0 Z0) iU_10 (hw _ (List.mem_of_getElem? (i := 28) rfl)) (hw _ (List.mem_of_getElem? (i := 29) rfl)) (hw _ (List.mem_of_getElem? (i := 25) rfl)) (hw _ (List.mem_of_getElem? (i := 30) rfl)) (by decide) (argsL := [(.long (q0 + (-9223372036854775808 : Int64))), (.long (q1 + (-9223372036854775808 : Int64)))]) (rest := []) rfl rfl pd0 rfl rfl 0 (Nat.le_of_eq rfl) (by decide) (by decide) (by decide) (by decide) rfl rfl ?_
  rintro _ _ ⟨rfl, he2⟩
  refine Go.heap he2.symm ?_
  refine Go.some' ?_
  have r0 : (ret_U q0 q1) = (vQ_1 (q0 + (-9223372036854775808 : Int64)) (q1 + (-9223372036854775808 : Int64))) := by simp only [ret_U]
  exact g_retInt C iU_13 rfl (by decide) (by decide) (show QU Z q0 q1 h0 n0 _ _ from by unfold QU; rw [r0]; exact ⟨rfl, rfl⟩)
theorem pd1 : parseMethodDescriptor "()V" = some ⟨[], none⟩ := by decide +kernel
theorem pn3 : plainFor (⟨"com/example/strict_aspect/strictaspect/model/RangeType", "<init>", "(JJ)V"⟩ : MethodName) = true := by decide +kernel
theorem iI_0 : I1 prog_65_method_1_code 0 (.aload_n 0) 1 1 := ⟨(by decide +kernel), rfl⟩
theorem iI_1 : I1 prog_65_method_1_code 1 (.invokespecial 1) 3 4 := ⟨(by decide +kernel), rfl⟩
theorem iI_4 : I1 prog_65_method_1_code 4 (.lload_n 1) 1 5 := ⟨(by decide +kernel), rfl⟩
theorem iI_5 : I1 prog_65_method_1_code 5 (.lload_n 3) 1 6 := ⟨(by decide +kernel), rfl⟩
theorem iI_6 : I1 prog_65_method_1_code 6 (.lcmp) 1 7 := ⟨(by decide +kernel), rfl⟩
theorem iI_7 : B1 prog_65_method_1_code 7 (.ifCond .le 11) 11 18 10 := ⟨(by decide +kernel), rfl, by decide, by decide⟩
theorem iI_18 : I1 prog_65_method_1_code 18 (.lload_n 3) 1 19 := ⟨(by decide +kernel), rfl⟩
theorem iI_19 : I1 prog_65_method_1_code 19 (.lload_n 1) 1 20 := ⟨(by decide +kernel), rfl⟩
theorem iI_20 : I1 prog_65_method_1_code 20 (.lsub) 1 21 := ⟨(by decide +kernel), rfl⟩
theorem iI_21 : I1 prog_65_method_1_code 21 (.ldc2_w 17) 3 24 := ⟨(by decide +kernel), rfl⟩
theorem iI_24 : I1 prog_65_method_1_code 24 (.invokestatic 19) 3 27 := ⟨(by decide +kernel), rfl⟩
theorem iI_27 : B1 prog_65_method_1_code 27 (.ifCond .lt 11) 11 38 30 := ⟨(by decide +kernel), rfl, by decide, by decide⟩
theorem iI_38 : I1 prog_65_method_1_code 38 (.aload_n 0) 1 39 := ⟨(by decide +kernel), rfl⟩
theorem iI_39 : I1 prog_65_method_1_code 39 (.lload_n 1) 1 40 := ⟨(by decide +kernel), rfl⟩
theorem iI_40 : I1 prog_65_method_1_code 40 (.putfield 25) 3 43 := ⟨(by decide +kernel), rfl⟩
theorem iI_43 : I1 prog_65_method_1_code 43 (.aload_n 0) 1 44 := ⟨(by decide +kernel), rfl⟩
theorem iI_44 : I1 prog_65_method_1_code 44 (.lload_n 3) 1 45 := ⟨(by decide +kernel), rfl⟩
theorem iI_45 : I1 prog_65_method_1_code 45 (.putfield 29) 3 48 := ⟨(by decide +kernel), rfl⟩
theorem iI_48 : I1 prog_65_method_1_code 48 (.return_) 1 49 := ⟨(by decide +kernel), rfl⟩
theorem efI (m : MethodId) (a0 : Addr) (q1 : Int64) (q2 : Int64) : entryFrame m #[(.ref a0), (.long q1), (.long q2)] 5 = mkF m 0 #[.val (.ref a0), .val (.long q1), .second, .val (.long q2), .second] [] := by first | (simp [entryFrame, mkF, argsToLocals, Value.category]; done) | rfl
def QI (Z : State) (a0 : Addr) (q1 : Int64) (q2 : Int64) (w_low_a0 : Int64) (w_high_a0 : Int64) (h0 : Heap) (n0 : Nat) (v : Option Value) (h : Heap) : Prop := v = none ∧ Keep h0 h [a0] ∧ Exa Z h a0 "com/example/strict_aspect/strictaspect/model/RangeType" ∧ Fld Z h a0 "com/example/strict_aspect/strictaspect/model/RangeType" "low" "J" (.long q1) ∧ Fld Z h a0 "com/example/strict_aspect/strictaspect/model/RangeType" "high" "J" (.long q2)
set_option maxRecDepth 65536 in
set_option maxHeartbeats 40000000 in
theorem rmI (l : Launch) (Z : State) (aZ : Array Value) (hw : ∀ d ∈ tables_1, d.before aZ Z = true) (a0 : Addr) (q1 : Int64) (q2 : Int64) (w_low_a0 : Int64) (w_high_a0 : Int64) (h0 : Heap) (n0 : Nat) (Z0 : n0 ≤ h0.size) (hg7 : ¬ (q2 < q1)) (hg27 : (ret_U (q2 - q1) (9223372036854775807 : Int64)) < (0 : Int32)) (E_a0 : Exa Z h0 a0 "com/example/strict_aspect/strictaspect/model/RangeType") (F_low_a0 : Fld Z h0 a0 "com/example/strict_aspect/strictaspect/model/RangeType" "low" "J" (.long w_low_a0)) (g_a0 : n0 ≤ a0) (F_high_a0 : Fld Z h0 a0 "com/example/strict_aspect/strictaspect/model/RangeType" "high" "J" (.long w_high_a0)) :
    Ctr l Z (⟨"com/example/strict_aspect/strictaspect/model/RangeType", "<init>", "(JJ)V"⟩ : MethodName) prog_65_method_1_code 5 none ({ frames := 2, cells := 0, slots := 0, locals := 30 } : Room) #[(.ref a0), (.long q1), (.long q2)] h0 n0 (QI Z a0 q1 q2 w_low_a0 w_high_a0 h0 n0) := by
  refine Ctr.of_go pn3 (fun m => efI m a0 q1 q2) ?_
  intro p e s m below meth c hnm C
  refine g_aloadN C iI_0 rfl rfl ?_
  refine g_callI C (rmR l Z aZ hw a0 h0 n0 Z0) (a := a0) iI_1 rfl (hw _ (List.mem_of_getElem? (i := 14) rfl)) (hw _ (List.mem_of_getElem? (i := 15) rfl)) (hw _ (List.mem_of_getElem? (i := 17) rfl)) (hw _ (List.mem_of_getElem? (i := 18) rfl)) rfl (by decide) (argsL := []) (rest := []) rfl rfl pd1 rfl rfl 0 (Nat.le_of_eq rfl) (by decide) (by decide) (by decide) (by decide) rfl rfl ?_
  rintro _ _ ⟨rfl, he3⟩
  refine Go.heap he3.symm ?_
  refine Go.none' ?_
  refine g_lloadN C iI_4 rfl ?_
  refine g_lloadN C iI_5 rfl ?_
  refine g_lcmp C iI_6 ?_
  refine g_ifl_le C iI_7 (fun q => absurd q hg7) (fun _ => ?_)
  refine g_lloadN C iI_18 rfl ?_
  refine g_lloadN C iI_19 rfl ?_
  refine g_lsub C iI_20 ?_
  refine g_ldc2Long C iI_21 (hw _ (List.mem_of_getElem? (i := 22) rfl)) ?_
  refine g_callS C (rmU l Z aZ hw (q2 - q1) (9223372036854775807 : Int64) h0 n0 Z0) iI_24 (hw _ (List.mem_of_getElem? (i := 23) rfl)) (hw _ (List.mem_of_getElem? (i := 24) rfl)) (hw _ (List.mem_of_getElem? (i := 25) rfl)) (hw _ (List.mem_of_getElem? (i := 26) rfl)) (by decide) (argsL := [(.long (q2 - q1)), (.long (9223372036854775807 : Int64))]) (rest := []) rfl rfl pd0 rfl rfl 0 (Nat.le_of_eq rfl) (by decide) (by decide) (by decide) (by decide) rfl rfl ?_
  rintro _ _ ⟨rfl, he4⟩
  refine Go.heap he4.symm ?_
  refine Go.some' ?_
  refine g_if_lt C iI_27 (fun _ => ?_) (fun q => absurd hg27 q)
  refine g_aloadN C iI_38 rfl rfl ?_
  refine g_lloadN C iI_39 rfl ?_
  refine g_putF C iI_40 (host := "") (Or.inl (hw _ (List.mem_of_getElem? (i := 31) rfl))) Via.refl F_low_a0 E_a0 (Or.inr ⟨(hw _ (List.mem_of_getElem? (i := 32) rfl)), rfl, hnm⟩) (hw _ (List.mem_of_getElem? (i := 9) rfl)) (ty := .long) (by decide) rfl rfl g_a0 (fun h5 W5 => ?_)
  have E_a0_c5 := Exa.wr W5 E_a0
  have F_high_a0_c5 := Fld.other W5 F_high_a0 (Or.inr (slot_ne (a0 := aZ) (Or.inr (hw _ (List.mem_of_getElem? (i := 34) rfl))) (Or.inr (hw _ (List.mem_of_getElem? (i := 32) rfl))) (by decide) (t := .long) (t' := .long) (by decide) (by decide)))
  have Fw5 := Fld.same W5 F_low_a0
  have K5 := Keep.wr (Keep.refl h0 [a0]) W5 (Or.inl (List.mem_of_getElem? (i := 0) rfl))
  have Z5 : n0 ≤ h5.size := Nat.le_trans Z0 (Keep.of_wr W5).1
  refine g_aloadN C iI_43 rfl rfl ?_
  refine g_lloadN C iI_44 rfl ?_
  refine g_putF C iI_45 (host := "") (Or.inl (hw _ (List.mem_of_getElem? (i := 33) rfl))) Via.refl F_high_a0_c5 E_a0_c5 (Or.inr ⟨(hw _ (List.mem_of_getElem? (i := 34) rfl)), rfl, hnm⟩) (hw _ (List.mem_of_getElem? (i := 9) rfl)) (ty := .long) (by decide) rfl rfl g_a0 (fun h6 W6 => ?_)
  have E_a0_c6 := Exa.wr W6 E_a0_c5
  have Fw5_c6 := Fld.other W6 Fw5 (Or.inr (slot_ne (a0 := aZ) (Or.inr (hw _ (List.mem_of_getElem? (i := 32) rfl))) (Or.inr (hw _ (List.mem_of_getElem? (i := 34) rfl))) (by decide) (t := .long) (t' := .long) (by decide) (by decide)))
  have Fw6 := Fld.same W6 F_high_a0_c5
  have K6 := Keep.wr K5 W6 (Or.inl (List.mem_of_getElem? (i := 0) rfl))
  have Z6 : n0 ≤ h6.size := Nat.le_trans Z5 (Keep.of_wr W6).1
  exact g_retV C iI_48 rfl (by decide) (by decide) ⟨rfl, K6, E_a0_c6, Fw5_c6, Fw6⟩
theorem pn4 : plainFor (⟨"com/example/strict_aspect/strictaspect/model/RangeType", "indexOf", "(J)J"⟩ : MethodName) = true := by decide +kernel
theorem iK_0 : I1 prog_65_method_5_code 0 (.lload_n 1) 1 1 := ⟨(by decide +kernel), rfl⟩
theorem iK_1 : I1 prog_65_method_5_code 1 (.aload_n 0) 1 2 := ⟨(by decide +kernel), rfl⟩
theorem iK_2 : I1 prog_65_method_5_code 2 (.getfield 25) 3 5 := ⟨(by decide +kernel), rfl⟩
theorem iK_5 : I1 prog_65_method_5_code 5 (.lcmp) 1 6 := ⟨(by decide +kernel), rfl⟩
theorem iK_6 : B1 prog_65_method_5_code 6 (.ifCond .lt 12) 12 18 9 := ⟨(by decide +kernel), rfl, by decide, by decide⟩
theorem iK_9 : I1 prog_65_method_5_code 9 (.lload_n 1) 1 10 := ⟨(by decide +kernel), rfl⟩
theorem iK_10 : I1 prog_65_method_5_code 10 (.aload_n 0) 1 11 := ⟨(by decide +kernel), rfl⟩
theorem iK_11 : I1 prog_65_method_5_code 11 (.getfield 29) 3 14 := ⟨(by decide +kernel), rfl⟩
theorem iK_14 : I1 prog_65_method_5_code 14 (.lcmp) 1 15 := ⟨(by decide +kernel), rfl⟩
theorem iK_15 : B1 prog_65_method_5_code 15 (.ifCond .le 9) 9 24 18 := ⟨(by decide +kernel), rfl, by decide, by decide⟩
theorem iK_18 : I1 prog_65_method_5_code 18 (.ldc2_w 47) 3 21 := ⟨(by decide +kernel), rfl⟩
theorem iK_21 : B1 prog_65_method_5_code 21 (.goto 9) 9 30 24 := ⟨(by decide +kernel), rfl, by decide, by decide⟩
theorem iK_24 : I1 prog_65_method_5_code 24 (.lload_n 1) 1 25 := ⟨(by decide +kernel), rfl⟩
theorem iK_25 : I1 prog_65_method_5_code 25 (.aload_n 0) 1 26 := ⟨(by decide +kernel), rfl⟩
theorem iK_26 : I1 prog_65_method_5_code 26 (.getfield 25) 3 29 := ⟨(by decide +kernel), rfl⟩
theorem iK_29 : I1 prog_65_method_5_code 29 (.lsub) 1 30 := ⟨(by decide +kernel), rfl⟩
theorem iK_30 : I1 prog_65_method_5_code 30 (.lreturn) 1 31 := ⟨(by decide +kernel), rfl⟩
def vK_0 (q1 : Int64) (w_low_a0 : Int64) (w_high_a0 : Int64) : Int64 := (if w_high_a0 < q1 then (-1 : Int64) else (q1 - w_low_a0))
def vK_1 (q1 : Int64) (w_low_a0 : Int64) (w_high_a0 : Int64) : Int64 := (if q1 < w_low_a0 then (-1 : Int64) else (if w_high_a0 < q1 then (-1 : Int64) else (q1 - w_low_a0)))
theorem efK (m : MethodId) (a0 : Addr) (q1 : Int64) : entryFrame m #[(.ref a0), (.long q1)] 3 = mkF m 0 #[.val (.ref a0), .val (.long q1), .second] [] := by first | (simp [entryFrame, mkF, argsToLocals, Value.category]; done) | rfl
def QK (Z : State) (a0 : Addr) (q1 : Int64) (w_low_a0 : Int64) (w_high_a0 : Int64) (h0 : Heap) (n0 : Nat) (v : Option Value) (h : Heap) : Prop := v = some (.long (vK_1 q1 w_low_a0 w_high_a0)) ∧ h = h0
set_option maxRecDepth 65536 in
set_option maxHeartbeats 40000000 in
theorem rmK (l : Launch) (Z : State) (aZ : Array Value) (hw : ∀ d ∈ tables_1, d.before aZ Z = true) (a0 : Addr) (q1 : Int64) (w_low_a0 : Int64) (w_high_a0 : Int64) (h0 : Heap) (n0 : Nat) (Z0 : n0 ≤ h0.size) (F_low_a0 : Fld Z h0 a0 "com/example/strict_aspect/strictaspect/model/RangeType" "low" "J" (.long w_low_a0)) (F_high_a0 : Fld Z h0 a0 "com/example/strict_aspect/strictaspect/model/RangeType" "high" "J" (.long w_high_a0)) :
    Ctr l Z (⟨"com/example/strict_aspect/strictaspect/model/RangeType", "indexOf", "(J)J"⟩ : MethodName) prog_65_method_5_code 3 (some .long) ({ frames := 0, cells := 0, slots := 0, locals := 0 } : Room) #[(.ref a0), (.long q1)] h0 n0 (QK Z a0 q1 w_low_a0 w_high_a0 h0 n0) := by
  refine Ctr.of_go pn4 (fun m => efK m a0 q1) ?_
  intro p e s m below meth c hnm C
  refine g_lloadN C iK_0 rfl ?_
  refine g_aloadN C iK_1 rfl rfl ?_
  refine g_getF C iK_2 (host := "") (Or.inl (hw _ (List.mem_of_getElem? (i := 31) rfl))) Via.refl F_low_a0 ?_
  refine g_lcmp C iK_5 ?_
  refine Go.join (mkF m 30 #[.val (.ref a0), .val (.long q1), .second] [(.long (vK_1 q1 w_low_a0 w_high_a0))]) ?_ (fun J => ?_)
  · exact g_retLong C iK_30 rfl (by decide) (by decide) ⟨rfl, rfl⟩
  · refine g_ifl_lt C iK_6 (fun hc6_1 => ?_) (fun hc6_1 => ?_)
    · refine g_ldc2Long C iK_18 (hw _ (List.mem_of_getElem? (i := 41) rfl)) ?_
      refine g_goto C iK_21 ?_
      have e0 : (vK_1 q1 w_low_a0 w_high_a0) = (-1 : Int64) := by simp only [vK_1, if_pos hc6_1]
      exact Go.cast J (by rw [e0])
    · refine g_lloadN C iK_9 rfl ?_
      refine g_aloadN C iK_10 rfl rfl ?_
      refine g_getF C iK_11 (host := "") (Or.inl (hw _ (List.mem_of_getElem? (i := 33) rfl))) Via.refl F_high_a0 ?_
      refine g_lcmp C iK_14 ?_
      refine g_ifl_le C iK_15 (fun hc15_1 => ?_) (fun hc15_1 => ?_)
      · refine g_ldc2Long C iK_18 (hw _ (List.mem_of_getElem? (i := 41) rfl)) ?_
        refine g_goto C iK_21 ?_
        have e0 : (vK_1 q1 w_low_a0 w_high_a0) = (-1 : Int64) := by simp only [vK_1, if_neg hc6_1, if_pos hc15_1]
        exact Go.cast J (by rw [e0])
      · refine g_lloadN C iK_24 rfl ?_
        refine g_aloadN C iK_25 rfl rfl ?_
        refine g_getF C iK_26 (host := "") (Or.inl (hw _ (List.mem_of_getElem? (i := 31) rfl))) Via.refl F_low_a0 ?_
        refine g_lsub C iK_29 ?_
        have e0 : (vK_1 q1 w_low_a0 w_high_a0) = (q1 - w_low_a0) := by simp only [vK_1, if_neg hc6_1, if_neg hc15_1]
        exact Go.cast J (by rw [e0])
theorem own_mm (a b : Int64) : ¬ (vX_0 a b < vN_0 a b) := by
  simp only [vX_0, vN_0, Int64.lt_iff_toInt_lt]
  split <;> split <;> omega
theorem own_cu (d : Int64) (h1 : ¬ (d < (0 : Int64))) (h2 : ¬ (d = (9223372036854775807 : Int64))) : ret_U d (9223372036854775807 : Int64) < (0 : Int32) := by
  have e : ((9223372036854775807 : Int64) + (-9223372036854775808 : Int64)) = -1 := by decide
  have g1 := c_ladd d (-9223372036854775808)
  have g2 := rng64 (d + (-9223372036854775808))
  have g3 := rng64 d
  have g4 : (-9223372036854775808 : Int64).toInt = -9223372036854775808 := rfl
  have g5 : (9223372036854775807 : Int64).toInt = 9223372036854775807 := rfl
  have g6 : (-1 : Int64).toInt = -1 := rfl
  have g7 : (0 : Int64).toInt = 0 := rfl
  have h2' : d.toInt ≠ 9223372036854775807 := fun q => h2 (Int64.toInt_inj.mp (q.trans g5.symm))
  have k : d + (-9223372036854775808) < (-1 : Int64) := by
    rw [Int64.lt_iff_toInt_lt] at h1 ⊢
    rw [g4] at g1
    omega
  simp only [ret_U, vQ_1, e, if_pos k]; decide
theorem own_out (v lo hi : Int64) (h : (if v < lo then (0 : Int32) else (if hi < v then (0 : Int32) else (1 : Int32))) = 0) : vK_1 v lo hi = (-1 : Int64) := by
  simp only [vK_1]
  by_cases h1 : v < lo
  · simp only [if_pos h1]
  · by_cases h2 : hi < v
    · simp only [if_neg h1, if_pos h2]
    · simp only [if_neg h1, if_neg h2] at h; exact absurd h (by decide)
theorem own_in (v lo hi : Int64) (hle : ¬ (hi < lo)) (hd : ¬ (hi - lo < (0 : Int64))) (h : ¬ ((if v < lo then (0 : Int32) else (if hi < v then (0 : Int32) else (1 : Int32))) = 0)) :
    nar .boolean (if (vK_1 v lo hi) < (0 : Int64) then (0 : Int32) else (if (hi - lo) < (vK_1 v lo hi) then (0 : Int32) else (if (lo + (vK_1 v lo hi)) = v then (1 : Int32) else (0 : Int32)))) = 1 := by
  by_cases h1 : v < lo
  · exact absurd (if_pos h1) h
  · by_cases h2 : hi < v
    · exact absurd ((if_neg h1).trans (if_pos h2)) h
    · simp only [vK_1, if_neg h1, if_neg h2]
      have g1 := c_lsub hi lo
      have g2 := rng64 (hi - lo)
      have g3 := c_lsub v lo
      have g4 := rng64 (v - lo)
      have g5 := c_ladd lo (v - lo)
      have g6 := rng64 (lo + (v - lo))
      have g7 := rng64 lo
      have g8 := rng64 hi
      have g9 := rng64 v
      have g0 : (0 : Int64).toInt = 0 := rfl
      simp only [Int64.lt_iff_toInt_lt, g0] at h1 h2 hle hd ⊢
      have k1 : ¬ ((v - lo).toInt < 0) := by omega
      have k2 : ¬ ((hi - lo).toInt < (v - lo).toInt) := by omega
      have k3 : lo + (v - lo) = v := by rw [← Int64.toInt_inj]; omega
      simp only [if_neg k1, if_neg k2, if_pos k3]; rfl
theorem pd2 : parseMethodDescriptor "(JJ)J" = some ⟨[.long, .long], some .long⟩ := by decide +kernel
theorem pd3 : parseMethodDescriptor "(JJ)V" = some ⟨[.long, .long], none⟩ := by decide +kernel
theorem pd4 : parseMethodDescriptor "(J)J" = some ⟨[.long], some .long⟩ := by decide +kernel
theorem pn5 : plainFor (⟨"com/example/strict_aspect/strictaspect/model/RangeTypeIndexOfPinLaw", "law", "(JJJI)Z"⟩ : MethodName) = true := by decide +kernel
theorem iM_0 : I1 code 0 (.iload 6) 2 2 := ⟨at_0, rfl⟩
theorem iM_2 : I1 code 2 (.iconst 1) 1 3 := ⟨at_2, rfl⟩
theorem iM_3 : I1 code 3 (.iand) 1 4 := ⟨at_3, rfl⟩
theorem iM_4 : B1 code 4 (.ifCond .ne 20) 20 24 7 := ⟨at_4, rfl, by decide, by decide⟩
theorem iM_7 : I1 code 7 (.lload_n 0) 1 8 := ⟨at_7, rfl⟩
theorem iM_8 : I1 code 8 (.lload_n 2) 1 9 := ⟨at_8, rfl⟩
theorem iM_9 : I1 code 9 (.invokestatic 7) 3 12 := ⟨at_9, rfl⟩
theorem iM_12 : I1 code 12 (.lstore 7) 2 14 := ⟨at_12, rfl⟩
theorem iM_14 : I1 code 14 (.lload_n 0) 1 15 := ⟨at_14, rfl⟩
theorem iM_15 : I1 code 15 (.lload_n 2) 1 16 := ⟨at_15, rfl⟩
theorem iM_16 : I1 code 16 (.invokestatic 13) 3 19 := ⟨at_16, rfl⟩
theorem iM_19 : I1 code 19 (.lstore 9) 2 21 := ⟨at_19, rfl⟩
theorem iM_21 : B1 code 21 (.goto 36) 36 57 24 := ⟨at_21, rfl, by decide, by decide⟩
theorem iM_24 : I1 code 24 (.lload_n 2) 1 25 := ⟨at_24, rfl⟩
theorem iM_25 : I1 code 25 (.ldc2_w 16) 3 28 := ⟨at_25, rfl⟩
theorem iM_28 : I1 code 28 (.land) 1 29 := ⟨at_28, rfl⟩
theorem iM_29 : I1 code 29 (.lstore 11) 2 31 := ⟨at_29, rfl⟩
theorem iM_31 : I1 code 31 (.lload_n 0) 1 32 := ⟨at_31, rfl⟩
theorem iM_32 : I1 code 32 (.lstore 7) 2 34 := ⟨at_32, rfl⟩
theorem iM_34 : I1 code 34 (.lload_n 0) 1 35 := ⟨at_34, rfl⟩
theorem iM_35 : I1 code 35 (.lload 11) 2 37 := ⟨at_35, rfl⟩
theorem iM_37 : I1 code 37 (.ladd) 1 38 := ⟨at_37, rfl⟩
theorem iM_38 : I1 code 38 (.lstore 9) 2 40 := ⟨at_38, rfl⟩
theorem iM_40 : I1 code 40 (.lload 9) 2 42 := ⟨at_40, rfl⟩
theorem iM_42 : I1 code 42 (.lload 7) 2 44 := ⟨at_42, rfl⟩
theorem iM_44 : I1 code 44 (.lcmp) 1 45 := ⟨at_44, rfl⟩
theorem iM_45 : B1 code 45 (.ifCond .ge 12) 12 57 48 := ⟨at_45, rfl, by decide, by decide⟩
theorem iM_48 : I1 code 48 (.lload_n 0) 1 49 := ⟨at_48, rfl⟩
theorem iM_49 : I1 code 49 (.lload 11) 2 51 := ⟨at_49, rfl⟩
theorem iM_51 : I1 code 51 (.lsub) 1 52 := ⟨at_51, rfl⟩
theorem iM_52 : I1 code 52 (.lstore 7) 2 54 := ⟨at_52, rfl⟩
theorem iM_54 : I1 code 54 (.lload_n 0) 1 55 := ⟨at_54, rfl⟩
theorem iM_55 : I1 code 55 (.lstore 9) 2 57 := ⟨at_55, rfl⟩
theorem iM_57 : I1 code 57 (.lload 9) 2 59 := ⟨at_57, rfl⟩
theorem iM_59 : I1 code 59 (.lload 7) 2 61 := ⟨at_59, rfl⟩
theorem iM_61 : I1 code 61 (.lsub) 1 62 := ⟨at_61, rfl⟩
theorem iM_62 : I1 code 62 (.lstore 11) 2 64 := ⟨at_62, rfl⟩
theorem iM_64 : I1 code 64 (.lload 11) 2 66 := ⟨at_64, rfl⟩
theorem iM_66 : I1 code 66 (.lconst 0) 1 67 := ⟨at_66, rfl⟩
theorem iM_67 : I1 code 67 (.lcmp) 1 68 := ⟨at_67, rfl⟩
theorem iM_68 : B1 code 68 (.ifCond .lt 12) 12 80 71 := ⟨at_68, rfl, by decide, by decide⟩
theorem iM_71 : I1 code 71 (.lload 11) 2 73 := ⟨at_71, rfl⟩
theorem iM_73 : I1 code 73 (.ldc2_w 20) 3 76 := ⟨at_73, rfl⟩
theorem iM_76 : I1 code 76 (.lcmp) 1 77 := ⟨at_76, rfl⟩
theorem iM_77 : B1 code 77 (.ifCond .ne 5) 5 82 80 := ⟨at_77, rfl, by decide, by decide⟩
theorem iM_80 : I1 code 80 (.iconst 1) 1 81 := ⟨at_80, rfl⟩
theorem iM_81 : I1 code 81 (.ireturn) 1 82 := ⟨at_81, rfl⟩
theorem iM_82 : I1 code 82 (.iload 6) 2 84 := ⟨at_82, rfl⟩
theorem iM_84 : I1 code 84 (.iconst 1) 1 85 := ⟨at_84, rfl⟩
theorem iM_85 : I1 code 85 (.ishr) 1 86 := ⟨at_85, rfl⟩
theorem iM_86 : I1 code 86 (.bipush 7) 2 88 := ⟨at_86, rfl⟩
theorem iM_88 : I1 code 88 (.iand) 1 89 := ⟨at_88, rfl⟩
theorem iM_89 : I1 code 89 (.istore 13) 2 91 := ⟨at_89, rfl⟩
theorem iM_91 : I1 code 91 (.iload 13) 2 93 := ⟨at_91, rfl⟩
theorem iM_93 : I1 code 93 (.iconst 1) 1 94 := ⟨at_93, rfl⟩
theorem iM_94 : B1 code 94 (.if_icmp .ne 10) 10 104 97 := ⟨at_94, rfl, by decide, by decide⟩
theorem iM_97 : I1 code 97 (.lload 7) 2 99 := ⟨at_97, rfl⟩
theorem iM_99 : I1 code 99 (.lstore 14) 2 101 := ⟨at_99, rfl⟩
theorem iM_101 : B1 code 101 (.goto 91) 91 192 104 := ⟨at_101, rfl, by decide, by decide⟩
theorem iM_104 : I1 code 104 (.iload 13) 2 106 := ⟨at_104, rfl⟩
theorem iM_106 : I1 code 106 (.iconst 2) 1 107 := ⟨at_106, rfl⟩
theorem iM_107 : B1 code 107 (.if_icmp .ne 10) 10 117 110 := ⟨at_107, rfl, by decide, by decide⟩
theorem iM_110 : I1 code 110 (.lload 9) 2 112 := ⟨at_110, rfl⟩
theorem iM_112 : I1 code 112 (.lstore 14) 2 114 := ⟨at_112, rfl⟩
theorem iM_114 : B1 code 114 (.goto 78) 78 192 117 := ⟨at_114, rfl, by decide, by decide⟩
theorem iM_117 : I1 code 117 (.iload 13) 2 119 := ⟨at_117, rfl⟩
theorem iM_119 : I1 code 119 (.iconst 3) 1 120 := ⟨at_119, rfl⟩
theorem iM_120 : B1 code 120 (.if_icmp .ne 12) 12 132 123 := ⟨at_120, rfl, by decide, by decide⟩
theorem iM_123 : I1 code 123 (.lload 7) 2 125 := ⟨at_123, rfl⟩
theorem iM_125 : I1 code 125 (.lconst 1) 1 126 := ⟨at_125, rfl⟩
theorem iM_126 : I1 code 126 (.lsub) 1 127 := ⟨at_126, rfl⟩
theorem iM_127 : I1 code 127 (.lstore 14) 2 129 := ⟨at_127, rfl⟩
theorem iM_129 : B1 code 129 (.goto 63) 63 192 132 := ⟨at_129, rfl, by decide, by decide⟩
theorem iM_132 : I1 code 132 (.iload 13) 2 134 := ⟨at_132, rfl⟩
theorem iM_134 : I1 code 134 (.iconst 4) 1 135 := ⟨at_134, rfl⟩
theorem iM_135 : B1 code 135 (.if_icmp .ne 12) 12 147 138 := ⟨at_135, rfl, by decide, by decide⟩
theorem iM_138 : I1 code 138 (.lload 9) 2 140 := ⟨at_138, rfl⟩
theorem iM_140 : I1 code 140 (.lconst 1) 1 141 := ⟨at_140, rfl⟩
theorem iM_141 : I1 code 141 (.ladd) 1 142 := ⟨at_141, rfl⟩
theorem iM_142 : I1 code 142 (.lstore 14) 2 144 := ⟨at_142, rfl⟩
theorem iM_144 : B1 code 144 (.goto 48) 48 192 147 := ⟨at_144, rfl, by decide, by decide⟩
theorem iM_147 : I1 code 147 (.iload 13) 2 149 := ⟨at_147, rfl⟩
theorem iM_149 : I1 code 149 (.iconst 5) 1 150 := ⟨at_149, rfl⟩
theorem iM_150 : B1 code 150 (.if_icmp .ne 17) 17 167 153 := ⟨at_150, rfl, by decide, by decide⟩
theorem iM_153 : I1 code 153 (.lload 7) 2 155 := ⟨at_153, rfl⟩
theorem iM_155 : I1 code 155 (.lload 4) 2 157 := ⟨at_155, rfl⟩
theorem iM_157 : I1 code 157 (.ldc2_w 16) 3 160 := ⟨at_157, rfl⟩
theorem iM_160 : I1 code 160 (.land) 1 161 := ⟨at_160, rfl⟩
theorem iM_161 : I1 code 161 (.ladd) 1 162 := ⟨at_161, rfl⟩
theorem iM_162 : I1 code 162 (.lstore 14) 2 164 := ⟨at_162, rfl⟩
theorem iM_164 : B1 code 164 (.goto 28) 28 192 167 := ⟨at_164, rfl, by decide, by decide⟩
theorem iM_167 : I1 code 167 (.iload 13) 2 169 := ⟨at_167, rfl⟩
theorem iM_169 : I1 code 169 (.bipush 6) 2 171 := ⟨at_169, rfl⟩
theorem iM_171 : B1 code 171 (.if_icmp .ne 17) 17 188 174 := ⟨at_171, rfl, by decide, by decide⟩
theorem iM_174 : I1 code 174 (.lload 9) 2 176 := ⟨at_174, rfl⟩
theorem iM_176 : I1 code 176 (.lload 4) 2 178 := ⟨at_176, rfl⟩
theorem iM_178 : I1 code 178 (.ldc2_w 16) 3 181 := ⟨at_178, rfl⟩
theorem iM_181 : I1 code 181 (.land) 1 182 := ⟨at_181, rfl⟩
theorem iM_182 : I1 code 182 (.lsub) 1 183 := ⟨at_182, rfl⟩
theorem iM_183 : I1 code 183 (.lstore 14) 2 185 := ⟨at_183, rfl⟩
theorem iM_185 : B1 code 185 (.goto 7) 7 192 188 := ⟨at_185, rfl, by decide, by decide⟩
theorem iM_188 : I1 code 188 (.lload 4) 2 190 := ⟨at_188, rfl⟩
theorem iM_190 : I1 code 190 (.lstore 14) 2 192 := ⟨at_190, rfl⟩
theorem iM_192 : I1 code 192 (.new 22) 3 195 := ⟨at_192, rfl⟩
theorem iM_195 : I1 code 195 (.dup) 1 196 := ⟨at_195, rfl⟩
theorem iM_196 : I1 code 196 (.lload 7) 2 198 := ⟨at_196, rfl⟩
theorem iM_198 : I1 code 198 (.lload 9) 2 200 := ⟨at_198, rfl⟩
theorem iM_200 : I1 code 200 (.invokespecial 24) 3 203 := ⟨at_200, rfl⟩
theorem iM_203 : I1 code 203 (.astore 16) 2 205 := ⟨at_203, rfl⟩
theorem iM_205 : I1 code 205 (.aload 16) 2 207 := ⟨at_205, rfl⟩
theorem iM_207 : I1 code 207 (.lload 14) 2 209 := ⟨at_207, rfl⟩
theorem iM_209 : I1 code 209 (.invokevirtual 27) 3 212 := ⟨at_209, rfl⟩
theorem iM_212 : I1 code 212 (.lstore 17) 2 214 := ⟨at_212, rfl⟩
theorem iM_214 : I1 code 214 (.lload 7) 2 216 := ⟨at_214, rfl⟩
theorem iM_216 : I1 code 216 (.lload 14) 2 218 := ⟨at_216, rfl⟩
theorem iM_218 : I1 code 218 (.lcmp) 1 219 := ⟨at_218, rfl⟩
theorem iM_219 : B1 code 219 (.ifCond .gt 15) 15 234 222 := ⟨at_219, rfl, by decide, by decide⟩
theorem iM_222 : I1 code 222 (.lload 14) 2 224 := ⟨at_222, rfl⟩
theorem iM_224 : I1 code 224 (.lload 9) 2 226 := ⟨at_224, rfl⟩
theorem iM_226 : I1 code 226 (.lcmp) 1 227 := ⟨at_226, rfl⟩
theorem iM_227 : B1 code 227 (.ifCond .gt 7) 7 234 230 := ⟨at_227, rfl, by decide, by decide⟩
theorem iM_230 : I1 code 230 (.iconst 1) 1 231 := ⟨at_230, rfl⟩
theorem iM_231 : B1 code 231 (.goto 4) 4 235 234 := ⟨at_231, rfl, by decide, by decide⟩
theorem iM_234 : I1 code 234 (.iconst 0) 1 235 := ⟨at_234, rfl⟩
theorem iM_235 : I1 code 235 (.istore 19) 2 237 := ⟨at_235, rfl⟩
theorem iM_237 : I1 code 237 (.iload 19) 2 239 := ⟨at_237, rfl⟩
theorem iM_239 : B1 code 239 (.ifCond .ne 18) 18 257 242 := ⟨at_239, rfl, by decide, by decide⟩
theorem iM_242 : I1 code 242 (.lload 17) 2 244 := ⟨at_242, rfl⟩
theorem iM_244 : I1 code 244 (.ldc2_w 31) 3 247 := ⟨at_244, rfl⟩
theorem iM_247 : I1 code 247 (.lcmp) 1 248 := ⟨at_247, rfl⟩
theorem iM_248 : B1 code 248 (.ifCond .ne 7) 7 255 251 := ⟨at_248, rfl, by decide, by decide⟩
theorem iM_251 : I1 code 251 (.iconst 1) 1 252 := ⟨at_251, rfl⟩
theorem iM_252 : B1 code 252 (.goto 4) 4 256 255 := ⟨at_252, rfl, by decide, by decide⟩
theorem iM_255 : I1 code 255 (.iconst 0) 1 256 := ⟨at_255, rfl⟩
theorem iM_256 : I1 code 256 (.ireturn) 1 257 := ⟨at_256, rfl⟩
theorem iM_257 : I1 code 257 (.lload 17) 2 259 := ⟨at_257, rfl⟩
theorem iM_259 : I1 code 259 (.lconst 0) 1 260 := ⟨at_259, rfl⟩
theorem iM_260 : I1 code 260 (.lcmp) 1 261 := ⟨at_260, rfl⟩
theorem iM_261 : B1 code 261 (.ifCond .lt 26) 26 287 264 := ⟨at_261, rfl, by decide, by decide⟩
theorem iM_264 : I1 code 264 (.lload 17) 2 266 := ⟨at_264, rfl⟩
theorem iM_266 : I1 code 266 (.lload 11) 2 268 := ⟨at_266, rfl⟩
theorem iM_268 : I1 code 268 (.lcmp) 1 269 := ⟨at_268, rfl⟩
theorem iM_269 : B1 code 269 (.ifCond .gt 18) 18 287 272 := ⟨at_269, rfl, by decide, by decide⟩
theorem iM_272 : I1 code 272 (.lload 7) 2 274 := ⟨at_272, rfl⟩
theorem iM_274 : I1 code 274 (.lload 17) 2 276 := ⟨at_274, rfl⟩
theorem iM_276 : I1 code 276 (.ladd) 1 277 := ⟨at_276, rfl⟩
theorem iM_277 : I1 code 277 (.lload 14) 2 279 := ⟨at_277, rfl⟩
theorem iM_279 : I1 code 279 (.lcmp) 1 280 := ⟨at_279, rfl⟩
theorem iM_280 : B1 code 280 (.ifCond .ne 7) 7 287 283 := ⟨at_280, rfl, by decide, by decide⟩
theorem iM_283 : I1 code 283 (.iconst 1) 1 284 := ⟨at_283, rfl⟩
theorem iM_284 : B1 code 284 (.goto 4) 4 288 287 := ⟨at_284, rfl, by decide, by decide⟩
theorem iM_287 : I1 code 287 (.iconst 0) 1 288 := ⟨at_287, rfl⟩
theorem iM_288 : I1 code 288 (.ireturn) 1 289 := ⟨at_288, rfl⟩
def vM_0 (q0 : Int64) (q1 : Int64) (q2 : Int64) (p3 : Int32) : Int64 := (if ((p3 >>> ((1 : Int32) &&& 31)) &&& (7 : Int32)) = (6 : Int32) then ((vX_0 q0 q1) - (q2 &&& (15 : Int64))) else q2)
def vM_1 (q0 : Int64) (q1 : Int64) (q2 : Int64) (p3 : Int32) : Int64 := (if ((p3 >>> ((1 : Int32) &&& 31)) &&& (7 : Int32)) = (5 : Int32) then ((vN_0 q0 q1) + (q2 &&& (15 : Int64))) else (if ((p3 >>> ((1 : Int32) &&& 31)) &&& (7 : Int32)) = (6 : Int32) then ((vX_0 q0 q1) - (q2 &&& (15 : Int64))) else q2))
def vM_2 (q0 : Int64) (q1 : Int64) (q2 : Int64) (p3 : Int32) : Int64 := (if ((p3 >>> ((1 : Int32) &&& 31)) &&& (7 : Int32)) = (4 : Int32) then ((vX_0 q0 q1) + (1 : Int64)) else (if ((p3 >>> ((1 : Int32) &&& 31)) &&& (7 : Int32)) = (5 : Int32) then ((vN_0 q0 q1) + (q2 &&& (15 : Int64))) else (if ((p3 >>> ((1 : Int32) &&& 31)) &&& (7 : Int32)) = (6 : Int32) then ((vX_0 q0 q1) - (q2 &&& (15 : Int64))) else q2)))
def vM_3 (q0 : Int64) (q1 : Int64) (q2 : Int64) (p3 : Int32) : Int64 := (if ((p3 >>> ((1 : Int32) &&& 31)) &&& (7 : Int32)) = (3 : Int32) then ((vN_0 q0 q1) - (1 : Int64)) else (if ((p3 >>> ((1 : Int32) &&& 31)) &&& (7 : Int32)) = (4 : Int32) then ((vX_0 q0 q1) + (1 : Int64)) else (if ((p3 >>> ((1 : Int32) &&& 31)) &&& (7 : Int32)) = (5 : Int32) then ((vN_0 q0 q1) + (q2 &&& (15 : Int64))) else (if ((p3 >>> ((1 : Int32) &&& 31)) &&& (7 : Int32)) = (6 : Int32) then ((vX_0 q0 q1) - (q2 &&& (15 : Int64))) else q2))))
def vM_4 (q0 : Int64) (q1 : Int64) (q2 : Int64) (p3 : Int32) : Int64 := (if ((p3 >>> ((1 : Int32) &&& 31)) &&& (7 : Int32)) = (2 : Int32) then (vX_0 q0 q1) else (if ((p3 >>> ((1 : Int32) &&& 31)) &&& (7 : Int32)) = (3 : Int32) then ((vN_0 q0 q1) - (1 : Int64)) else (if ((p3 >>> ((1 : Int32) &&& 31)) &&& (7 : Int32)) = (4 : Int32) then ((vX_0 q0 q1) + (1 : Int64)) else (if ((p3 >>> ((1 : Int32) &&& 31)) &&& (7 : Int32)) = (5 : Int32) then ((vN_0 q0 q1) + (q2 &&& (15 : Int64))) else (if ((p3 >>> ((1 : Int32) &&& 31)) &&& (7 : Int32)) = (6 : Int32) then ((vX_0 q0 q1) - (q2 &&& (15 : Int64))) else q2)))))
def vM_5 (q0 : Int64) (q1 : Int64) (q2 : Int64) (p3 : Int32) : Int64 := (if ((p3 >>> ((1 : Int32) &&& 31)) &&& (7 : Int32)) = (1 : Int32) then (vN_0 q0 q1) else (if ((p3 >>> ((1 : Int32) &&& 31)) &&& (7 : Int32)) = (2 : Int32) then (vX_0 q0 q1) else (if ((p3 >>> ((1 : Int32) &&& 31)) &&& (7 : Int32)) = (3 : Int32) then ((vN_0 q0 q1) - (1 : Int64)) else (if ((p3 >>> ((1 : Int32) &&& 31)) &&& (7 : Int32)) = (4 : Int32) then ((vX_0 q0 q1) + (1 : Int64)) else (if ((p3 >>> ((1 : Int32) &&& 31)) &&& (7 : Int32)) = (5 : Int32) then ((vN_0 q0 q1) + (q2 &&& (15 : Int64))) else (if ((p3 >>> ((1 : Int32) &&& 31)) &&& (7 : Int32)) = (6 : Int32) then ((vX_0 q0 q1) - (q2 &&& (15 : Int64))) else q2))))))
def vM_6 (q0 : Int64) (q1 : Int64) (q2 : Int64) (p3 : Int32) : Int32 := (if (vX_0 q0 q1) < (vM_5 q0 q1 q2 p3) then (0 : Int32) else (1 : Int32))
def vM_7 (q0 : Int64) (q1 : Int64) (q2 : Int64) (p3 : Int32) : Int32 := (if (vM_5 q0 q1 q2 p3) < (vN_0 q0 q1) then (0 : Int32) else (if (vX_0 q0 q1) < (vM_5 q0 q1 q2 p3) then (0 : Int32) else (1 : Int32)))
def vM_8 (q0 : Int64) (q1 : Int64) (q2 : Int64) (p3 : Int32) : Int32 := (if (vK_1 (vM_5 q0 q1 q2 p3) (vN_0 q0 q1) (vX_0 q0 q1)) = (-1 : Int64) then (1 : Int32) else (0 : Int32))
def vM_9 (q0 : Int64) (q1 : Int64) (q2 : Int64) (p3 : Int32) : Int32 := (if ((vN_0 q0 q1) + (vK_1 (vM_5 q0 q1 q2 p3) (vN_0 q0 q1) (vX_0 q0 q1))) = (vM_5 q0 q1 q2 p3) then (1 : Int32) else (0 : Int32))
def vM_10 (q0 : Int64) (q1 : Int64) (q2 : Int64) (p3 : Int32) : Int32 := (if ((vX_0 q0 q1) - (vN_0 q0 q1)) < (vK_1 (vM_5 q0 q1 q2 p3) (vN_0 q0 q1) (vX_0 q0 q1)) then (0 : Int32) else (if ((vN_0 q0 q1) + (vK_1 (vM_5 q0 q1 q2 p3) (vN_0 q0 q1) (vX_0 q0 q1))) = (vM_5 q0 q1 q2 p3) then (1 : Int32) else (0 : Int32)))
def vM_11 (q0 : Int64) (q1 : Int64) (q2 : Int64) (p3 : Int32) : Int32 := (if (vK_1 (vM_5 q0 q1 q2 p3) (vN_0 q0 q1) (vX_0 q0 q1)) < (0 : Int64) then (0 : Int32) else (if ((vX_0 q0 q1) - (vN_0 q0 q1)) < (vK_1 (vM_5 q0 q1 q2 p3) (vN_0 q0 q1) (vX_0 q0 q1)) then (0 : Int32) else (if ((vN_0 q0 q1) + (vK_1 (vM_5 q0 q1 q2 p3) (vN_0 q0 q1) (vX_0 q0 q1))) = (vM_5 q0 q1 q2 p3) then (1 : Int32) else (0 : Int32))))
def vM_12 (q0 : Int64) (q1 : Int64) (q2 : Int64) (p3 : Int32) : Int64 := (if (q0 + (q1 &&& (15 : Int64))) < q0 then (q0 - (q1 &&& (15 : Int64))) else q0)
def vM_13 (q0 : Int64) (q1 : Int64) (q2 : Int64) (p3 : Int32) : Int64 := (if (q0 + (q1 &&& (15 : Int64))) < q0 then q0 else (q0 + (q1 &&& (15 : Int64))))
def vM_14 (q0 : Int64) (q1 : Int64) (q2 : Int64) (p3 : Int32) : Int64 := (if ((p3 >>> ((1 : Int32) &&& 31)) &&& (7 : Int32)) = (6 : Int32) then ((vM_13 q0 q1 q2 p3) - (q2 &&& (15 : Int64))) else q2)
def vM_15 (q0 : Int64) (q1 : Int64) (q2 : Int64) (p3 : Int32) : Int64 := (if ((p3 >>> ((1 : Int32) &&& 31)) &&& (7 : Int32)) = (5 : Int32) then ((vM_12 q0 q1 q2 p3) + (q2 &&& (15 : Int64))) else (if ((p3 >>> ((1 : Int32) &&& 31)) &&& (7 : Int32)) = (6 : Int32) then ((vM_13 q0 q1 q2 p3) - (q2 &&& (15 : Int64))) else q2))
def vM_16 (q0 : Int64) (q1 : Int64) (q2 : Int64) (p3 : Int32) : Int64 := (if ((p3 >>> ((1 : Int32) &&& 31)) &&& (7 : Int32)) = (4 : Int32) then ((vM_13 q0 q1 q2 p3) + (1 : Int64)) else (if ((p3 >>> ((1 : Int32) &&& 31)) &&& (7 : Int32)) = (5 : Int32) then ((vM_12 q0 q1 q2 p3) + (q2 &&& (15 : Int64))) else (if ((p3 >>> ((1 : Int32) &&& 31)) &&& (7 : Int32)) = (6 : Int32) then ((vM_13 q0 q1 q2 p3) - (q2 &&& (15 : Int64))) else q2)))
def vM_17 (q0 : Int64) (q1 : Int64) (q2 : Int64) (p3 : Int32) : Int64 := (if ((p3 >>> ((1 : Int32) &&& 31)) &&& (7 : Int32)) = (3 : Int32) then ((vM_12 q0 q1 q2 p3) - (1 : Int64)) else (if ((p3 >>> ((1 : Int32) &&& 31)) &&& (7 : Int32)) = (4 : Int32) then ((vM_13 q0 q1 q2 p3) + (1 : Int64)) else (if ((p3 >>> ((1 : Int32) &&& 31)) &&& (7 : Int32)) = (5 : Int32) then ((vM_12 q0 q1 q2 p3) + (q2 &&& (15 : Int64))) else (if ((p3 >>> ((1 : Int32) &&& 31)) &&& (7 : Int32)) = (6 : Int32) then ((vM_13 q0 q1 q2 p3) - (q2 &&& (15 : Int64))) else q2))))
def vM_18 (q0 : Int64) (q1 : Int64) (q2 : Int64) (p3 : Int32) : Int64 := (if ((p3 >>> ((1 : Int32) &&& 31)) &&& (7 : Int32)) = (2 : Int32) then (vM_13 q0 q1 q2 p3) else (if ((p3 >>> ((1 : Int32) &&& 31)) &&& (7 : Int32)) = (3 : Int32) then ((vM_12 q0 q1 q2 p3) - (1 : Int64)) else (if ((p3 >>> ((1 : Int32) &&& 31)) &&& (7 : Int32)) = (4 : Int32) then ((vM_13 q0 q1 q2 p3) + (1 : Int64)) else (if ((p3 >>> ((1 : Int32) &&& 31)) &&& (7 : Int32)) = (5 : Int32) then ((vM_12 q0 q1 q2 p3) + (q2 &&& (15 : Int64))) else (if ((p3 >>> ((1 : Int32) &&& 31)) &&& (7 : Int32)) = (6 : Int32) then ((vM_13 q0 q1 q2 p3) - (q2 &&& (15 : Int64))) else q2)))))
def vM_19 (q0 : Int64) (q1 : Int64) (q2 : Int64) (p3 : Int32) : Int64 := (if ((p3 >>> ((1 : Int32) &&& 31)) &&& (7 : Int32)) = (1 : Int32) then (vM_12 q0 q1 q2 p3) else (if ((p3 >>> ((1 : Int32) &&& 31)) &&& (7 : Int32)) = (2 : Int32) then (vM_13 q0 q1 q2 p3) else (if ((p3 >>> ((1 : Int32) &&& 31)) &&& (7 : Int32)) = (3 : Int32) then ((vM_12 q0 q1 q2 p3) - (1 : Int64)) else (if ((p3 >>> ((1 : Int32) &&& 31)) &&& (7 : Int32)) = (4 : Int32) then ((vM_13 q0 q1 q2 p3) + (1 : Int64)) else (if ((p3 >>> ((1 : Int32) &&& 31)) &&& (7 : Int32)) = (5 : Int32) then ((vM_12 q0 q1 q2 p3) + (q2 &&& (15 : Int64))) else (if ((p3 >>> ((1 : Int32) &&& 31)) &&& (7 : Int32)) = (6 : Int32) then ((vM_13 q0 q1 q2 p3) - (q2 &&& (15 : Int64))) else q2))))))
def vM_20 (q0 : Int64) (q1 : Int64) (q2 : Int64) (p3 : Int32) : Int64 := (vK_1 (vM_19 q0 q1 q2 p3) (vM_12 q0 q1 q2 p3) (vM_13 q0 q1 q2 p3))
def vM_21 (q0 : Int64) (q1 : Int64) (q2 : Int64) (p3 : Int32) : Int32 := (if (vM_13 q0 q1 q2 p3) < (vM_19 q0 q1 q2 p3) then (0 : Int32) else (1 : Int32))
def vM_22 (q0 : Int64) (q1 : Int64) (q2 : Int64) (p3 : Int32) : Int32 := (if (vM_19 q0 q1 q2 p3) < (vM_12 q0 q1 q2 p3) then (0 : Int32) else (if (vM_13 q0 q1 q2 p3) < (vM_19 q0 q1 q2 p3) then (0 : Int32) else (1 : Int32)))
def vM_23 (q0 : Int64) (q1 : Int64) (q2 : Int64) (p3 : Int32) : Int32 := (if (vM_20 q0 q1 q2 p3) = (-1 : Int64) then (1 : Int32) else (0 : Int32))
def vM_24 (q0 : Int64) (q1 : Int64) (q2 : Int64) (p3 : Int32) : Int32 := (if ((vM_12 q0 q1 q2 p3) + (vM_20 q0 q1 q2 p3)) = (vM_19 q0 q1 q2 p3) then (1 : Int32) else (0 : Int32))
def vM_25 (q0 : Int64) (q1 : Int64) (q2 : Int64) (p3 : Int32) : Int32 := (if ((vM_13 q0 q1 q2 p3) - (vM_12 q0 q1 q2 p3)) < (vM_20 q0 q1 q2 p3) then (0 : Int32) else (if ((vM_12 q0 q1 q2 p3) + (vM_20 q0 q1 q2 p3)) = (vM_19 q0 q1 q2 p3) then (1 : Int32) else (0 : Int32)))
def vM_26 (q0 : Int64) (q1 : Int64) (q2 : Int64) (p3 : Int32) : Int32 := (if (vM_20 q0 q1 q2 p3) < (0 : Int64) then (0 : Int32) else (if ((vM_13 q0 q1 q2 p3) - (vM_12 q0 q1 q2 p3)) < (vM_20 q0 q1 q2 p3) then (0 : Int32) else (if ((vM_12 q0 q1 q2 p3) + (vM_20 q0 q1 q2 p3)) = (vM_19 q0 q1 q2 p3) then (1 : Int32) else (0 : Int32))))
theorem own_ad (q0 q1 q2 : Int64) (p3 : Int32) : ¬ (vM_13 q0 q1 q2 p3 < vM_12 q0 q1 q2 p3) := by
  have g1 := c_maskL q1 15 4 (by decide) (by decide)
  have g2 := c_ladd q0 (q1 &&& 15)
  have g3 := rng64 (q0 + (q1 &&& 15))
  have g4 := c_lsub q0 (q1 &&& 15)
  have g5 := rng64 (q0 - (q1 &&& 15))
  have g6 := rng64 q0
  simp only [vM_13, vM_12, Int64.lt_iff_toInt_lt]
  split <;> omega
theorem leafM_0 (q0 : Int64) (q1 : Int64) (q2 : Int64) (p3 : Int32) (hc4_1 : (p3 &&& (1 : Int32)) = (0 : Int32)) (hc68_1 : ((vX_0 q0 q1) - (vN_0 q0 q1)) < (0 : Int64)) : nar .boolean (1 : Int32) = 1 := by
  rfl
theorem leafM_1 (q0 : Int64) (q1 : Int64) (q2 : Int64) (p3 : Int32) (hc4_1 : (p3 &&& (1 : Int32)) = (0 : Int32)) (hc68_1 : ¬ (((vX_0 q0 q1) - (vN_0 q0 q1)) < (0 : Int64))) (hc77_1 : ((vX_0 q0 q1) - (vN_0 q0 q1)) = (9223372036854775807 : Int64)) : nar .boolean (1 : Int32) = 1 := by
  rfl
theorem leafM_2 (q0 : Int64) (q1 : Int64) (q2 : Int64) (p3 : Int32) (hc4_1 : (p3 &&& (1 : Int32)) = (0 : Int32)) (hc68_1 : ¬ (((vX_0 q0 q1) - (vN_0 q0 q1)) < (0 : Int64))) (hc77_1 : ¬ (((vX_0 q0 q1) - (vN_0 q0 q1)) = (9223372036854775807 : Int64))) (hc239_1 : (vM_7 q0 q1 q2 p3) = (0 : Int32)) : nar .boolean (vM_8 q0 q1 q2 p3) = 1 := by
  exact nbT.mpr (own_out _ _ _ hc239_1)
theorem leafM_3 (q0 : Int64) (q1 : Int64) (q2 : Int64) (p3 : Int32) (hc4_1 : (p3 &&& (1 : Int32)) = (0 : Int32)) (hc68_1 : ¬ (((vX_0 q0 q1) - (vN_0 q0 q1)) < (0 : Int64))) (hc77_1 : ¬ (((vX_0 q0 q1) - (vN_0 q0 q1)) = (9223372036854775807 : Int64))) (hc239_1 : ¬ ((vM_7 q0 q1 q2 p3) = (0 : Int32))) : nar .boolean (vM_11 q0 q1 q2 p3) = 1 := by
  exact own_in _ _ _ (own_mm q0 q1) hc68_1 hc239_1
theorem leafM_4 (q0 : Int64) (q1 : Int64) (q2 : Int64) (p3 : Int32) (hc4_1 : ¬ ((p3 &&& (1 : Int32)) = (0 : Int32))) (hc68_1 : ((vM_13 q0 q1 q2 p3) - (vM_12 q0 q1 q2 p3)) < (0 : Int64)) : nar .boolean (1 : Int32) = 1 := by
  rfl
theorem leafM_5 (q0 : Int64) (q1 : Int64) (q2 : Int64) (p3 : Int32) (hc4_1 : ¬ ((p3 &&& (1 : Int32)) = (0 : Int32))) (hc68_1 : ¬ (((vM_13 q0 q1 q2 p3) - (vM_12 q0 q1 q2 p3)) < (0 : Int64))) (hc77_1 : ((vM_13 q0 q1 q2 p3) - (vM_12 q0 q1 q2 p3)) = (9223372036854775807 : Int64)) : nar .boolean (1 : Int32) = 1 := by
  rfl
theorem leafM_6 (q0 : Int64) (q1 : Int64) (q2 : Int64) (p3 : Int32) (hc4_1 : ¬ ((p3 &&& (1 : Int32)) = (0 : Int32))) (hc68_1 : ¬ (((vM_13 q0 q1 q2 p3) - (vM_12 q0 q1 q2 p3)) < (0 : Int64))) (hc77_1 : ¬ (((vM_13 q0 q1 q2 p3) - (vM_12 q0 q1 q2 p3)) = (9223372036854775807 : Int64))) (hc239_1 : (vM_22 q0 q1 q2 p3) = (0 : Int32)) : nar .boolean (vM_23 q0 q1 q2 p3) = 1 := by
  exact nbT.mpr (own_out _ _ _ hc239_1)
theorem leafM_7 (q0 : Int64) (q1 : Int64) (q2 : Int64) (p3 : Int32) (hc4_1 : ¬ ((p3 &&& (1 : Int32)) = (0 : Int32))) (hc68_1 : ¬ (((vM_13 q0 q1 q2 p3) - (vM_12 q0 q1 q2 p3)) < (0 : Int64))) (hc77_1 : ¬ (((vM_13 q0 q1 q2 p3) - (vM_12 q0 q1 q2 p3)) = (9223372036854775807 : Int64))) (hc239_1 : ¬ ((vM_22 q0 q1 q2 p3) = (0 : Int32))) : nar .boolean (vM_26 q0 q1 q2 p3) = 1 := by
  exact own_in _ _ _ (own_ad q0 q1 q2 p3) hc68_1 hc239_1
theorem efM (m : MethodId) (q0 : Int64) (q1 : Int64) (q2 : Int64) (p3 : Int32) : entryFrame m #[(.long q0), (.long q1), (.long q2), (.int p3)] maxLocals = mkF m 0 #[.val (.long q0), .second, .val (.long q1), .second, .val (.long q2), .second, .val (.int p3), .unset, .unset, .unset, .unset, .unset, .unset, .unset, .unset, .unset, .unset, .unset, .unset, .unset] [] := by first | (simp [entryFrame, mkF, argsToLocals, Value.category, maxLocals]; done) | rfl
def QM (Z : State) (q0 : Int64) (q1 : Int64) (q2 : Int64) (p3 : Int32) (h0 : Heap) (n0 : Nat) (v : Option Value) (h : Heap) : Prop := v = some (.int 1)
set_option maxRecDepth 65536 in
set_option maxHeartbeats 40000000 in
theorem rmM (l : Launch) (Z : State) (aZ : Array Value) (hw : ∀ d ∈ tables_1, d.before aZ Z = true) (q0 : Int64) (q1 : Int64) (q2 : Int64) (p3 : Int32) (h0 : Heap) (n0 : Nat) (Z0 : n0 ≤ h0.size) :
    Ctr l Z x code maxLocals ret room_1 #[(.long q0), (.long q1), (.long q2), (.int p3)] h0 n0 (QM Z q0 q1 q2 p3 h0 n0) := by
  refine Ctr.of_go pn5 (fun m => efM m q0 q1 q2 p3) ?_
  intro p e s m below meth c hnm C
  refine g_iload C iM_0 rfl ?_
  refine g_iconst C (1 : Int32) iM_2 rfl ?_
  refine g_iand C iM_3 ?_
  refine g_if_ne C iM_4 (fun hc4_1 => ?_) (fun hc4_1 => ?_)
  · refine g_lloadN C iM_7 rfl ?_
    refine g_lloadN C iM_8 rfl ?_
    refine g_callS C (rmN l Z aZ hw q0 q1 h0 n0 Z0) iM_9 (hw _ (List.mem_of_getElem? (i := 0) rfl)) (hw _ (List.mem_of_getElem? (i := 1) rfl)) (hw _ (List.mem_of_getElem? (i := 2) rfl)) (hw _ (List.mem_of_getElem? (i := 3) rfl)) (by decide) (argsL := [(.long q0), (.long q1)]) (rest := []) rfl rfl pd2 rfl rfl 0 (Nat.le_of_eq rfl) (by decide) (by decide) (by decide) (by decide) rfl rfl ?_
    rintro _ _ ⟨rfl, he7⟩
    refine Go.heap he7.symm ?_
    refine Go.some' ?_
    refine g_lstore C (Ls' := #[.val (.long q0), .second, .val (.long q1), .second, .val (.long q2), .second, .val (.int p3), .val (.long (vN_0 q0 q1)), .second, .unset, .unset, .unset, .unset, .unset, .unset, .unset, .unset, .unset, .unset, .unset]) iM_12 rfl ?_
    refine g_lloadN C iM_14 rfl ?_
    refine g_lloadN C iM_15 rfl ?_
    refine g_callS C (rmX l Z aZ hw q0 q1 h0 n0 Z0) iM_16 (hw _ (List.mem_of_getElem? (i := 4) rfl)) (hw _ (List.mem_of_getElem? (i := 5) rfl)) (hw _ (List.mem_of_getElem? (i := 2) rfl)) (hw _ (List.mem_of_getElem? (i := 6) rfl)) (by decide) (argsL := [(.long q0), (.long q1)]) (rest := []) rfl rfl pd2 rfl rfl 0 (Nat.le_of_eq rfl) (by decide) (by decide) (by decide) (by decide) rfl rfl ?_
    rintro _ _ ⟨rfl, he8⟩
    refine Go.heap he8.symm ?_
    refine Go.some' ?_
    refine g_lstore C (Ls' := #[.val (.long q0), .second, .val (.long q1), .second, .val (.long q2), .second, .val (.int p3), .val (.long (vN_0 q0 q1)), .second, .val (.long (vX_0 q0 q1)), .second, .unset, .unset, .unset, .unset, .unset, .unset, .unset, .unset, .unset]) iM_19 rfl ?_
    refine g_goto C iM_21 ?_
    refine g_lload C iM_57 rfl ?_
    refine g_lload C iM_59 rfl ?_
    refine g_lsub C iM_61 ?_
    refine g_lstore C (Ls' := #[.val (.long q0), .second, .val (.long q1), .second, .val (.long q2), .second, .val (.int p3), .val (.long (vN_0 q0 q1)), .second, .val (.long (vX_0 q0 q1)), .second, .val (.long ((vX_0 q0 q1) - (vN_0 q0 q1))), .second, .unset, .unset, .unset, .unset, .unset, .unset, .unset]) iM_62 rfl ?_
    refine g_lload C iM_64 rfl ?_
    refine g_lconst C (0 : Int64) iM_66 rfl ?_
    refine g_lcmp C iM_67 ?_
    refine g_ifl_lt C iM_68 (fun hc68_1 => ?_) (fun hc68_1 => ?_)
    · refine g_iconst C (1 : Int32) iM_80 rfl ?_
      exact g_retNar C (t := .boolean) iM_81 rfl (by simp) (by decide) (by decide) (show _ = _ from congrArg (fun z => some (Value.int z)) (leafM_0 q0 q1 q2 p3 hc4_1 hc68_1))
    · refine g_lload C iM_71 rfl ?_
      refine g_ldc2Long C iM_73 (hw _ (List.mem_of_getElem? (i := 7) rfl)) ?_
      refine g_lcmp C iM_76 ?_
      refine g_ifl_ne C iM_77 (fun hc77_1 => ?_) (fun hc77_1 => ?_)
      · refine g_iconst C (1 : Int32) iM_80 rfl ?_
        exact g_retNar C (t := .boolean) iM_81 rfl (by simp) (by decide) (by decide) (show _ = _ from congrArg (fun z => some (Value.int z)) (leafM_1 q0 q1 q2 p3 hc4_1 hc68_1 hc77_1))
      · refine g_iload C iM_82 rfl ?_
        refine g_iconst C (1 : Int32) iM_84 rfl ?_
        refine g_ishr C iM_85 ?_
        refine g_bipush C (7 : Int32) iM_86 rfl ?_
        refine g_iand C iM_88 ?_
        refine g_istore C (Ls' := #[.val (.long q0), .second, .val (.long q1), .second, .val (.long q2), .second, .val (.int p3), .val (.long (vN_0 q0 q1)), .second, .val (.long (vX_0 q0 q1)), .second, .val (.long ((vX_0 q0 q1) - (vN_0 q0 q1))), .second, .val (.int ((p3 >>> ((1 : Int32) &&& 31)) &&& (7 : Int32))), .unset, .unset, .unset, .unset, .unset, .unset]) iM_89 rfl ?_
        refine g_iload C iM_91 rfl ?_
        refine g_iconst C (1 : Int32) iM_93 rfl ?_
        refine Go.join (mkF m 192 #[.val (.long q0), .second, .val (.long q1), .second, .val (.long q2), .second, .val (.int p3), .val (.long (vN_0 q0 q1)), .second, .val (.long (vX_0 q0 q1)), .second, .val (.long ((vX_0 q0 q1) - (vN_0 q0 q1))), .second, .val (.int ((p3 >>> ((1 : Int32) &&& 31)) &&& (7 : Int32))), .val (.long (vM_5 q0 q1 q2 p3)), .second, .unset, .unset, .unset, .unset] []) ?_ (fun J => ?_)
        · refine g_newO C iM_192 (hw _ (List.mem_of_getElem? (i := 8) rfl)) (hw _ (List.mem_of_getElem? (i := 9) rfl)) (hw _ (List.mem_of_getElem? (i := 10) rfl)) (by decide) (by decide) rfl rfl (fun h9 b9 g9 E9 A9 D9 => ?_)
          have ge9 : n0 ≤ b9 := Nat.le_trans Z0 (Nat.le_of_eq g9.symm)
          have fr9 : h0.size ≤ b9 := Nat.le_trans (Keep.refl h0 []).1 (Nat.le_of_eq g9.symm)
          have K9 := Keep.ext (Keep.refl h0 []) E9
          have Z9 : n0 ≤ h9.size := Nat.le_trans Z0 E9.1
          have F9_low : Fld Z h9 b9 "com/example/strict_aspect/strictaspect/model/RangeType" "low" "J" (.long (0 : Int64)) := D9 (Or.inr (hw _ (List.mem_of_getElem? (i := 32) rfl))) (ty := .long) (by decide)
          have F9_high : Fld Z h9 b9 "com/example/strict_aspect/strictaspect/model/RangeType" "high" "J" (.long (0 : Int64)) := D9 (Or.inr (hw _ (List.mem_of_getElem? (i := 34) rfl))) (ty := .long) (by decide)
          refine g_dup C iM_195 rfl ?_
          refine g_lload C iM_196 rfl ?_
          refine g_lload C iM_198 rfl ?_
          refine g_callI C (rmI l Z aZ hw b9 (vN_0 q0 q1) (vX_0 q0 q1) (0 : Int64) (0 : Int64) h9 n0 Z9 (by first | exact own_mm q0 q1 | exact own_ad q0 q1 q2 p3) (own_cu _ hc68_1 hc77_1) A9 F9_low ge9 F9_high) (a := b9) iM_200 rfl (hw _ (List.mem_of_getElem? (i := 11) rfl)) (hw _ (List.mem_of_getElem? (i := 12) rfl)) (hw _ (List.mem_of_getElem? (i := 10) rfl)) (hw _ (List.mem_of_getElem? (i := 13) rfl)) rfl (by decide) (argsL := [(.long (vN_0 q0 q1)), (.long (vX_0 q0 q1))]) (rest := [(.ref b9)]) rfl rfl pd3 rfl rfl 1 (Nat.le_of_eq rfl) (by decide) (by decide) (by decide) (by decide) rfl rfl ?_
          rintro _ h10 ⟨rfl, KC10, P10_0, P10_1, P10_2⟩
          refine Go.none' ?_
          have KK10 := KC10
          have A9_cC10 := Exa.keep A9 KC10
          have K10 := Keep.trans K9 KC10 (allS (Or.inr fr9) all0)
          have Z10 : n0 ≤ h10.size := Nat.le_trans Z9 KC10.1
          have P10_1 : Fld Z h10 b9 "com/example/strict_aspect/strictaspect/model/RangeType" "low" "J" (.long (vN_0 q0 q1)) := P10_1
          have P10_2 : Fld Z h10 b9 "com/example/strict_aspect/strictaspect/model/RangeType" "high" "J" (.long (vX_0 q0 q1)) := P10_2
          refine g_astore C (Ls' := #[.val (.long q0), .second, .val (.long q1), .second, .val (.long q2), .second, .val (.int p3), .val (.long (vN_0 q0 q1)), .second, .val (.long (vX_0 q0 q1)), .second, .val (.long ((vX_0 q0 q1) - (vN_0 q0 q1))), .second, .val (.int ((p3 >>> ((1 : Int32) &&& 31)) &&& (7 : Int32))), .val (.long (vM_5 q0 q1 q2 p3)), .second, .val (.ref b9), .unset, .unset, .unset]) iM_203 rfl rfl ?_
          refine g_aload C iM_205 rfl rfl ?_
          refine g_lload C iM_207 rfl ?_
          refine g_callV C (rmK l Z aZ hw b9 (vM_5 q0 q1 q2 p3) (vN_0 q0 q1) (vX_0 q0 q1) h10 n0 Z10 P10_1 P10_2) (a := b9) iM_209 (hw _ (List.mem_of_getElem? (i := 35) rfl)) (hw _ (List.mem_of_getElem? (i := 36) rfl)) (fun s hZ => notFace_of_selects (args := #[]) (mvT hZ (hw _ (List.mem_of_getElem? (i := 38) rfl)))) (hw _ (List.mem_of_getElem? (i := 38) rfl)) (hw _ (List.mem_of_getElem? (i := 37) rfl)) (hw _ (List.mem_of_getElem? (i := 10) rfl)) (hw _ (List.mem_of_getElem? (i := 39) rfl)) (by decide) P10_0 (argsL := [(.long (vM_5 q0 q1 q2 p3))]) (rest := []) rfl rfl pd4 rfl rfl 0 (Nat.le_of_eq rfl) (by decide) (by decide) (by decide) (by decide) rfl rfl ?_
          rintro _ _ ⟨rfl, he11⟩
          refine Go.heap he11.symm ?_
          refine Go.some' ?_
          refine g_lstore C (Ls' := #[.val (.long q0), .second, .val (.long q1), .second, .val (.long q2), .second, .val (.int p3), .val (.long (vN_0 q0 q1)), .second, .val (.long (vX_0 q0 q1)), .second, .val (.long ((vX_0 q0 q1) - (vN_0 q0 q1))), .second, .val (.int ((p3 >>> ((1 : Int32) &&& 31)) &&& (7 : Int32))), .val (.long (vM_5 q0 q1 q2 p3)), .second, .val (.ref b9), .val (.long (vK_1 (vM_5 q0 q1 q2 p3) (vN_0 q0 q1) (vX_0 q0 q1))), .second, .unset]) iM_212 rfl ?_
          refine g_lload C iM_214 rfl ?_
          refine g_lload C iM_216 rfl ?_
          refine g_lcmp C iM_218 ?_
          refine Go.join (mkF m 235 #[.val (.long q0), .second, .val (.long q1), .second, .val (.long q2), .second, .val (.int p3), .val (.long (vN_0 q0 q1)), .second, .val (.long (vX_0 q0 q1)), .second, .val (.long ((vX_0 q0 q1) - (vN_0 q0 q1))), .second, .val (.int ((p3 >>> ((1 : Int32) &&& 31)) &&& (7 : Int32))), .val (.long (vM_5 q0 q1 q2 p3)), .second, .val (.ref b9), .val (.long (vK_1 (vM_5 q0 q1 q2 p3) (vN_0 q0 q1) (vX_0 q0 q1))), .second, .unset] [(.int (vM_7 q0 q1 q2 p3))]) ?_ (fun J => ?_)
          · refine g_istore C (Ls' := #[.val (.long q0), .second, .val (.long q1), .second, .val (.long q2), .second, .val (.int p3), .val (.long (vN_0 q0 q1)), .second, .val (.long (vX_0 q0 q1)), .second, .val (.long ((vX_0 q0 q1) - (vN_0 q0 q1))), .second, .val (.int ((p3 >>> ((1 : Int32) &&& 31)) &&& (7 : Int32))), .val (.long (vM_5 q0 q1 q2 p3)), .second, .val (.ref b9), .val (.long (vK_1 (vM_5 q0 q1 q2 p3) (vN_0 q0 q1) (vX_0 q0 q1))), .second, .val (.int (vM_7 q0 q1 q2 p3))]) iM_235 rfl ?_
            refine g_iload C iM_237 rfl ?_
            refine g_if_ne C iM_239 (fun hc239_1 => ?_) (fun hc239_1 => ?_)
            · refine g_lload C iM_242 rfl ?_
              refine g_ldc2Long C iM_244 (hw _ (List.mem_of_getElem? (i := 42) rfl)) ?_
              refine g_lcmp C iM_247 ?_
              refine Go.join (mkF m 256 #[.val (.long q0), .second, .val (.long q1), .second, .val (.long q2), .second, .val (.int p3), .val (.long (vN_0 q0 q1)), .second, .val (.long (vX_0 q0 q1)), .second, .val (.long ((vX_0 q0 q1) - (vN_0 q0 q1))), .second, .val (.int ((p3 >>> ((1 : Int32) &&& 31)) &&& (7 : Int32))), .val (.long (vM_5 q0 q1 q2 p3)), .second, .val (.ref b9), .val (.long (vK_1 (vM_5 q0 q1 q2 p3) (vN_0 q0 q1) (vX_0 q0 q1))), .second, .val (.int (vM_7 q0 q1 q2 p3))] [(.int (vM_8 q0 q1 q2 p3))]) ?_ (fun J => ?_)
              · exact g_retNar C (t := .boolean) iM_256 rfl (by simp) (by decide) (by decide) (show _ = _ from congrArg (fun z => some (Value.int z)) (leafM_2 q0 q1 q2 p3 hc4_1 hc68_1 hc77_1 hc239_1))
              · refine g_ifl_ne C iM_248 (fun hc248_1 => ?_) (fun hc248_1 => ?_)
                · refine g_iconst C (1 : Int32) iM_251 rfl ?_
                  refine g_goto C iM_252 ?_
                  have e0 : (vM_8 q0 q1 q2 p3) = (1 : Int32) := by simp only [vM_8, if_pos hc248_1]
                  exact Go.cast J (by rw [e0])
                · refine g_iconst C (0 : Int32) iM_255 rfl ?_
                  have e0 : (vM_8 q0 q1 q2 p3) = (0 : Int32) := by simp only [vM_8, if_neg hc248_1]
                  exact Go.cast J (by rw [e0])
            · refine g_lload C iM_257 rfl ?_
              refine g_lconst C (0 : Int64) iM_259 rfl ?_
              refine g_lcmp C iM_260 ?_
              refine Go.join (mkF m 288 #[.val (.long q0), .second, .val (.long q1), .second, .val (.long q2), .second, .val (.int p3), .val (.long (vN_0 q0 q1)), .second, .val (.long (vX_0 q0 q1)), .second, .val (.long ((vX_0 q0 q1) - (vN_0 q0 q1))), .second, .val (.int ((p3 >>> ((1 : Int32) &&& 31)) &&& (7 : Int32))), .val (.long (vM_5 q0 q1 q2 p3)), .second, .val (.ref b9), .val (.long (vK_1 (vM_5 q0 q1 q2 p3) (vN_0 q0 q1) (vX_0 q0 q1))), .second, .val (.int (vM_7 q0 q1 q2 p3))] [(.int (vM_11 q0 q1 q2 p3))]) ?_ (fun J => ?_)
              · exact g_retNar C (t := .boolean) iM_288 rfl (by simp) (by decide) (by decide) (show _ = _ from congrArg (fun z => some (Value.int z)) (leafM_3 q0 q1 q2 p3 hc4_1 hc68_1 hc77_1 hc239_1))
              · refine g_ifl_lt C iM_261 (fun hc261_1 => ?_) (fun hc261_1 => ?_)
                · refine g_iconst C (0 : Int32) iM_287 rfl ?_
                  have e0 : (vM_11 q0 q1 q2 p3) = (0 : Int32) := by simp only [vM_11, if_pos hc261_1]
                  exact Go.cast J (by rw [e0])
                · refine g_lload C iM_264 rfl ?_
                  refine g_lload C iM_266 rfl ?_
                  refine g_lcmp C iM_268 ?_
                  refine g_ifl_gt C iM_269 (fun hc269_1 => ?_) (fun hc269_1 => ?_)
                  · refine g_iconst C (0 : Int32) iM_287 rfl ?_
                    have e0 : (vM_11 q0 q1 q2 p3) = (0 : Int32) := by simp only [vM_11, if_neg hc261_1, if_pos hc269_1]
                    exact Go.cast J (by rw [e0])
                  · refine g_lload C iM_272 rfl ?_
                    refine g_lload C iM_274 rfl ?_
                    refine g_ladd C iM_276 ?_
                    refine g_lload C iM_277 rfl ?_
                    refine g_lcmp C iM_279 ?_
                    refine g_ifl_ne C iM_280 (fun hc280_1 => ?_) (fun hc280_1 => ?_)
                    · refine g_iconst C (1 : Int32) iM_283 rfl ?_
                      refine g_goto C iM_284 ?_
                      have e0 : (vM_11 q0 q1 q2 p3) = (1 : Int32) := by simp only [vM_11, if_neg hc261_1, if_neg hc269_1, if_pos hc280_1]
                      exact Go.cast J (by rw [e0])
                    · refine g_iconst C (0 : Int32) iM_287 rfl ?_
                      have e0 : (vM_11 q0 q1 q2 p3) = (0 : Int32) := by simp only [vM_11, if_neg hc261_1, if_neg hc269_1, if_neg hc280_1]
                      exact Go.cast J (by rw [e0])
          · refine g_ifl_gt C iM_219 (fun hc219_1 => ?_) (fun hc219_1 => ?_)
            · refine g_iconst C (0 : Int32) iM_234 rfl ?_
              have e0 : (vM_7 q0 q1 q2 p3) = (0 : Int32) := by simp only [vM_7, if_pos hc219_1]
              exact Go.cast J (by rw [e0])
            · refine g_lload C iM_222 rfl ?_
              refine g_lload C iM_224 rfl ?_
              refine g_lcmp C iM_226 ?_
              refine g_ifl_gt C iM_227 (fun hc227_1 => ?_) (fun hc227_1 => ?_)
              · refine g_iconst C (0 : Int32) iM_234 rfl ?_
                have e0 : (vM_7 q0 q1 q2 p3) = (0 : Int32) := by simp only [vM_7, if_neg hc219_1, if_pos hc227_1]
                exact Go.cast J (by rw [e0])
              · refine g_iconst C (1 : Int32) iM_230 rfl ?_
                refine g_goto C iM_231 ?_
                have e0 : (vM_7 q0 q1 q2 p3) = (1 : Int32) := by simp only [vM_7, if_neg hc219_1, if_neg hc227_1]
                exact Go.cast J (by rw [e0])
        · refine g_icmp_ne C iM_94 (fun hc94_1 => ?_) (fun hc94_1 => ?_)
          · refine g_lload C iM_97 rfl ?_
            refine g_lstore C (Ls' := #[.val (.long q0), .second, .val (.long q1), .second, .val (.long q2), .second, .val (.int p3), .val (.long (vN_0 q0 q1)), .second, .val (.long (vX_0 q0 q1)), .second, .val (.long ((vX_0 q0 q1) - (vN_0 q0 q1))), .second, .val (.int ((p3 >>> ((1 : Int32) &&& 31)) &&& (7 : Int32))), .val (.long (vN_0 q0 q1)), .second, .unset, .unset, .unset, .unset]) iM_99 rfl ?_
            refine g_goto C iM_101 ?_
            have e0 : (vM_5 q0 q1 q2 p3) = (vN_0 q0 q1) := by simp only [vM_5, if_pos hc94_1]
            exact Go.cast J (by rw [e0])
          · refine g_iload C iM_104 rfl ?_
            refine g_iconst C (2 : Int32) iM_106 rfl ?_
            refine g_icmp_ne C iM_107 (fun hc107_1 => ?_) (fun hc107_1 => ?_)
            · refine g_lload C iM_110 rfl ?_
              refine g_lstore C (Ls' := #[.val (.long q0), .second, .val (.long q1), .second, .val (.long q2), .second, .val (.int p3), .val (.long (vN_0 q0 q1)), .second, .val (.long (vX_0 q0 q1)), .second, .val (.long ((vX_0 q0 q1) - (vN_0 q0 q1))), .second, .val (.int ((p3 >>> ((1 : Int32) &&& 31)) &&& (7 : Int32))), .val (.long (vX_0 q0 q1)), .second, .unset, .unset, .unset, .unset]) iM_112 rfl ?_
              refine g_goto C iM_114 ?_
              have e0 : (vM_5 q0 q1 q2 p3) = (vX_0 q0 q1) := by simp only [vM_5, if_neg hc94_1, if_pos hc107_1]
              exact Go.cast J (by rw [e0])
            · refine g_iload C iM_117 rfl ?_
              refine g_iconst C (3 : Int32) iM_119 rfl ?_
              refine g_icmp_ne C iM_120 (fun hc120_1 => ?_) (fun hc120_1 => ?_)
              · refine g_lload C iM_123 rfl ?_
                refine g_lconst C (1 : Int64) iM_125 rfl ?_
                refine g_lsub C iM_126 ?_
                refine g_lstore C (Ls' := #[.val (.long q0), .second, .val (.long q1), .second, .val (.long q2), .second, .val (.int p3), .val (.long (vN_0 q0 q1)), .second, .val (.long (vX_0 q0 q1)), .second, .val (.long ((vX_0 q0 q1) - (vN_0 q0 q1))), .second, .val (.int ((p3 >>> ((1 : Int32) &&& 31)) &&& (7 : Int32))), .val (.long ((vN_0 q0 q1) - (1 : Int64))), .second, .unset, .unset, .unset, .unset]) iM_127 rfl ?_
                refine g_goto C iM_129 ?_
                have e0 : (vM_5 q0 q1 q2 p3) = ((vN_0 q0 q1) - (1 : Int64)) := by simp only [vM_5, if_neg hc94_1, if_neg hc107_1, if_pos hc120_1]
                exact Go.cast J (by rw [e0])
              · refine g_iload C iM_132 rfl ?_
                refine g_iconst C (4 : Int32) iM_134 rfl ?_
                refine g_icmp_ne C iM_135 (fun hc135_1 => ?_) (fun hc135_1 => ?_)
                · refine g_lload C iM_138 rfl ?_
                  refine g_lconst C (1 : Int64) iM_140 rfl ?_
                  refine g_ladd C iM_141 ?_
                  refine g_lstore C (Ls' := #[.val (.long q0), .second, .val (.long q1), .second, .val (.long q2), .second, .val (.int p3), .val (.long (vN_0 q0 q1)), .second, .val (.long (vX_0 q0 q1)), .second, .val (.long ((vX_0 q0 q1) - (vN_0 q0 q1))), .second, .val (.int ((p3 >>> ((1 : Int32) &&& 31)) &&& (7 : Int32))), .val (.long ((vX_0 q0 q1) + (1 : Int64))), .second, .unset, .unset, .unset, .unset]) iM_142 rfl ?_
                  refine g_goto C iM_144 ?_
                  have e0 : (vM_5 q0 q1 q2 p3) = ((vX_0 q0 q1) + (1 : Int64)) := by simp only [vM_5, if_neg hc94_1, if_neg hc107_1, if_neg hc120_1, if_pos hc135_1]
                  exact Go.cast J (by rw [e0])
                · refine g_iload C iM_147 rfl ?_
                  refine g_iconst C (5 : Int32) iM_149 rfl ?_
                  refine g_icmp_ne C iM_150 (fun hc150_1 => ?_) (fun hc150_1 => ?_)
                  · refine g_lload C iM_153 rfl ?_
                    refine g_lload C iM_155 rfl ?_
                    refine g_ldc2Long C iM_157 (hw _ (List.mem_of_getElem? (i := 40) rfl)) ?_
                    refine g_land C iM_160 ?_
                    refine g_ladd C iM_161 ?_
                    refine g_lstore C (Ls' := #[.val (.long q0), .second, .val (.long q1), .second, .val (.long q2), .second, .val (.int p3), .val (.long (vN_0 q0 q1)), .second, .val (.long (vX_0 q0 q1)), .second, .val (.long ((vX_0 q0 q1) - (vN_0 q0 q1))), .second, .val (.int ((p3 >>> ((1 : Int32) &&& 31)) &&& (7 : Int32))), .val (.long ((vN_0 q0 q1) + (q2 &&& (15 : Int64)))), .second, .unset, .unset, .unset, .unset]) iM_162 rfl ?_
                    refine g_goto C iM_164 ?_
                    have e0 : (vM_5 q0 q1 q2 p3) = ((vN_0 q0 q1) + (q2 &&& (15 : Int64))) := by simp only [vM_5, if_neg hc94_1, if_neg hc107_1, if_neg hc120_1, if_neg hc135_1, if_pos hc150_1]
                    exact Go.cast J (by rw [e0])
                  · refine g_iload C iM_167 rfl ?_
                    refine g_bipush C (6 : Int32) iM_169 rfl ?_
                    refine g_icmp_ne C iM_171 (fun hc171_1 => ?_) (fun hc171_1 => ?_)
                    · refine g_lload C iM_174 rfl ?_
                      refine g_lload C iM_176 rfl ?_
                      refine g_ldc2Long C iM_178 (hw _ (List.mem_of_getElem? (i := 40) rfl)) ?_
                      refine g_land C iM_181 ?_
                      refine g_lsub C iM_182 ?_
                      refine g_lstore C (Ls' := #[.val (.long q0), .second, .val (.long q1), .second, .val (.long q2), .second, .val (.int p3), .val (.long (vN_0 q0 q1)), .second, .val (.long (vX_0 q0 q1)), .second, .val (.long ((vX_0 q0 q1) - (vN_0 q0 q1))), .second, .val (.int ((p3 >>> ((1 : Int32) &&& 31)) &&& (7 : Int32))), .val (.long ((vX_0 q0 q1) - (q2 &&& (15 : Int64)))), .second, .unset, .unset, .unset, .unset]) iM_183 rfl ?_
                      refine g_goto C iM_185 ?_
                      have e0 : (vM_5 q0 q1 q2 p3) = ((vX_0 q0 q1) - (q2 &&& (15 : Int64))) := by simp only [vM_5, if_neg hc94_1, if_neg hc107_1, if_neg hc120_1, if_neg hc135_1, if_neg hc150_1, if_pos hc171_1]
                      exact Go.cast J (by rw [e0])
                    · refine g_lload C iM_188 rfl ?_
                      refine g_lstore C (Ls' := #[.val (.long q0), .second, .val (.long q1), .second, .val (.long q2), .second, .val (.int p3), .val (.long (vN_0 q0 q1)), .second, .val (.long (vX_0 q0 q1)), .second, .val (.long ((vX_0 q0 q1) - (vN_0 q0 q1))), .second, .val (.int ((p3 >>> ((1 : Int32) &&& 31)) &&& (7 : Int32))), .val (.long q2), .second, .unset, .unset, .unset, .unset]) iM_190 rfl ?_
                      have e0 : (vM_5 q0 q1 q2 p3) = q2 := by simp only [vM_5, if_neg hc94_1, if_neg hc107_1, if_neg hc120_1, if_neg hc135_1, if_neg hc150_1, if_neg hc171_1]
                      exact Go.cast J (by rw [e0])
  · refine g_lloadN C iM_24 rfl ?_
    refine g_ldc2Long C iM_25 (hw _ (List.mem_of_getElem? (i := 40) rfl)) ?_
    refine g_land C iM_28 ?_
    refine g_lstore C (Ls' := #[.val (.long q0), .second, .val (.long q1), .second, .val (.long q2), .second, .val (.int p3), .unset, .unset, .unset, .unset, .val (.long (q1 &&& (15 : Int64))), .second, .unset, .unset, .unset, .unset, .unset, .unset, .unset]) iM_29 rfl ?_
    refine g_lloadN C iM_31 rfl ?_
    refine g_lstore C (Ls' := #[.val (.long q0), .second, .val (.long q1), .second, .val (.long q2), .second, .val (.int p3), .val (.long q0), .second, .unset, .unset, .val (.long (q1 &&& (15 : Int64))), .second, .unset, .unset, .unset, .unset, .unset, .unset, .unset]) iM_32 rfl ?_
    refine g_lloadN C iM_34 rfl ?_
    refine g_lload C iM_35 rfl ?_
    refine g_ladd C iM_37 ?_
    refine g_lstore C (Ls' := #[.val (.long q0), .second, .val (.long q1), .second, .val (.long q2), .second, .val (.int p3), .val (.long q0), .second, .val (.long (q0 + (q1 &&& (15 : Int64)))), .second, .val (.long (q1 &&& (15 : Int64))), .second, .unset, .unset, .unset, .unset, .unset, .unset, .unset]) iM_38 rfl ?_
    refine g_lload C iM_40 rfl ?_
    refine g_lload C iM_42 rfl ?_
    refine g_lcmp C iM_44 ?_
    refine Go.join (mkF m 57 #[.val (.long q0), .second, .val (.long q1), .second, .val (.long q2), .second, .val (.int p3), .val (.long (vM_12 q0 q1 q2 p3)), .second, .val (.long (vM_13 q0 q1 q2 p3)), .second, .val (.long (q1 &&& (15 : Int64))), .second, .unset, .unset, .unset, .unset, .unset, .unset, .unset] []) ?_ (fun J => ?_)
    · refine g_lload C iM_57 rfl ?_
      refine g_lload C iM_59 rfl ?_
      refine g_lsub C iM_61 ?_
      refine g_lstore C (Ls' := #[.val (.long q0), .second, .val (.long q1), .second, .val (.long q2), .second, .val (.int p3), .val (.long (vM_12 q0 q1 q2 p3)), .second, .val (.long (vM_13 q0 q1 q2 p3)), .second, .val (.long ((vM_13 q0 q1 q2 p3) - (vM_12 q0 q1 q2 p3))), .second, .unset, .unset, .unset, .unset, .unset, .unset, .unset]) iM_62 rfl ?_
      refine g_lload C iM_64 rfl ?_
      refine g_lconst C (0 : Int64) iM_66 rfl ?_
      refine g_lcmp C iM_67 ?_
      refine g_ifl_lt C iM_68 (fun hc68_1 => ?_) (fun hc68_1 => ?_)
      · refine g_iconst C (1 : Int32) iM_80 rfl ?_
        exact g_retNar C (t := .boolean) iM_81 rfl (by simp) (by decide) (by decide) (show _ = _ from congrArg (fun z => some (Value.int z)) (leafM_4 q0 q1 q2 p3 hc4_1 hc68_1))
      · refine g_lload C iM_71 rfl ?_
        refine g_ldc2Long C iM_73 (hw _ (List.mem_of_getElem? (i := 7) rfl)) ?_
        refine g_lcmp C iM_76 ?_
        refine g_ifl_ne C iM_77 (fun hc77_1 => ?_) (fun hc77_1 => ?_)
        · refine g_iconst C (1 : Int32) iM_80 rfl ?_
          exact g_retNar C (t := .boolean) iM_81 rfl (by simp) (by decide) (by decide) (show _ = _ from congrArg (fun z => some (Value.int z)) (leafM_5 q0 q1 q2 p3 hc4_1 hc68_1 hc77_1))
        · refine g_iload C iM_82 rfl ?_
          refine g_iconst C (1 : Int32) iM_84 rfl ?_
          refine g_ishr C iM_85 ?_
          refine g_bipush C (7 : Int32) iM_86 rfl ?_
          refine g_iand C iM_88 ?_
          refine g_istore C (Ls' := #[.val (.long q0), .second, .val (.long q1), .second, .val (.long q2), .second, .val (.int p3), .val (.long (vM_12 q0 q1 q2 p3)), .second, .val (.long (vM_13 q0 q1 q2 p3)), .second, .val (.long ((vM_13 q0 q1 q2 p3) - (vM_12 q0 q1 q2 p3))), .second, .val (.int ((p3 >>> ((1 : Int32) &&& 31)) &&& (7 : Int32))), .unset, .unset, .unset, .unset, .unset, .unset]) iM_89 rfl ?_
          refine g_iload C iM_91 rfl ?_
          refine g_iconst C (1 : Int32) iM_93 rfl ?_
          refine Go.join (mkF m 192 #[.val (.long q0), .second, .val (.long q1), .second, .val (.long q2), .second, .val (.int p3), .val (.long (vM_12 q0 q1 q2 p3)), .second, .val (.long (vM_13 q0 q1 q2 p3)), .second, .val (.long ((vM_13 q0 q1 q2 p3) - (vM_12 q0 q1 q2 p3))), .second, .val (.int ((p3 >>> ((1 : Int32) &&& 31)) &&& (7 : Int32))), .val (.long (vM_19 q0 q1 q2 p3)), .second, .unset, .unset, .unset, .unset] []) ?_ (fun J => ?_)
          · refine g_newO C iM_192 (hw _ (List.mem_of_getElem? (i := 8) rfl)) (hw _ (List.mem_of_getElem? (i := 9) rfl)) (hw _ (List.mem_of_getElem? (i := 10) rfl)) (by decide) (by decide) rfl rfl (fun h12 b12 g12 E12 A12 D12 => ?_)
            have ge12 : n0 ≤ b12 := Nat.le_trans Z0 (Nat.le_of_eq g12.symm)
            have fr12 : h0.size ≤ b12 := Nat.le_trans (Keep.refl h0 []).1 (Nat.le_of_eq g12.symm)
            have K12 := Keep.ext (Keep.refl h0 []) E12
            have Z12 : n0 ≤ h12.size := Nat.le_trans Z0 E12.1
            have F12_low : Fld Z h12 b12 "com/example/strict_aspect/strictaspect/model/RangeType" "low" "J" (.long (0 : Int64)) := D12 (Or.inr (hw _ (List.mem_of_getElem? (i := 32) rfl))) (ty := .long) (by decide)
            have F12_high : Fld Z h12 b12 "com/example/strict_aspect/strictaspect/model/RangeType" "high" "J" (.long (0 : Int64)) := D12 (Or.inr (hw _ (List.mem_of_getElem? (i := 34) rfl))) (ty := .long) (by decide)
            refine g_dup C iM_195 rfl ?_
            refine g_lload C iM_196 rfl ?_
            refine g_lload C iM_198 rfl ?_
            refine g_callI C (rmI l Z aZ hw b12 (vM_12 q0 q1 q2 p3) (vM_13 q0 q1 q2 p3) (0 : Int64) (0 : Int64) h12 n0 Z12 (by first | exact own_mm q0 q1 | exact own_ad q0 q1 q2 p3) (own_cu _ hc68_1 hc77_1) A12 F12_low ge12 F12_high) (a := b12) iM_200 rfl (hw _ (List.mem_of_getElem? (i := 11) rfl)) (hw _ (List.mem_of_getElem? (i := 12) rfl)) (hw _ (List.mem_of_getElem? (i := 10) rfl)) (hw _ (List.mem_of_getElem? (i := 13) rfl)) rfl (by decide) (argsL := [(.long (vM_12 q0 q1 q2 p3)), (.long (vM_13 q0 q1 q2 p3))]) (rest := [(.ref b12)]) rfl rfl pd3 rfl rfl 1 (Nat.le_of_eq rfl) (by decide) (by decide) (by decide) (by decide) rfl rfl ?_
            rintro _ h13 ⟨rfl, KC13, P13_0, P13_1, P13_2⟩
            refine Go.none' ?_
            have KK13 := KC13
            have A12_cC13 := Exa.keep A12 KC13
            have K13 := Keep.trans K12 KC13 (allS (Or.inr fr12) all0)
            have Z13 : n0 ≤ h13.size := Nat.le_trans Z12 KC13.1
            have P13_1 : Fld Z h13 b12 "com/example/strict_aspect/strictaspect/model/RangeType" "low" "J" (.long (vM_12 q0 q1 q2 p3)) := P13_1
            have P13_2 : Fld Z h13 b12 "com/example/strict_aspect/strictaspect/model/RangeType" "high" "J" (.long (vM_13 q0 q1 q2 p3)) := P13_2
            refine g_astore C (Ls' := #[.val (.long q0), .second, .val (.long q1), .second, .val (.long q2), .second, .val (.int p3), .val (.long (vM_12 q0 q1 q2 p3)), .second, .val (.long (vM_13 q0 q1 q2 p3)), .second, .val (.long ((vM_13 q0 q1 q2 p3) - (vM_12 q0 q1 q2 p3))), .second, .val (.int ((p3 >>> ((1 : Int32) &&& 31)) &&& (7 : Int32))), .val (.long (vM_19 q0 q1 q2 p3)), .second, .val (.ref b12), .unset, .unset, .unset]) iM_203 rfl rfl ?_
            refine g_aload C iM_205 rfl rfl ?_
            refine g_lload C iM_207 rfl ?_
            refine g_callV C (rmK l Z aZ hw b12 (vM_19 q0 q1 q2 p3) (vM_12 q0 q1 q2 p3) (vM_13 q0 q1 q2 p3) h13 n0 Z13 P13_1 P13_2) (a := b12) iM_209 (hw _ (List.mem_of_getElem? (i := 35) rfl)) (hw _ (List.mem_of_getElem? (i := 36) rfl)) (fun s hZ => notFace_of_selects (args := #[]) (mvT hZ (hw _ (List.mem_of_getElem? (i := 38) rfl)))) (hw _ (List.mem_of_getElem? (i := 38) rfl)) (hw _ (List.mem_of_getElem? (i := 37) rfl)) (hw _ (List.mem_of_getElem? (i := 10) rfl)) (hw _ (List.mem_of_getElem? (i := 39) rfl)) (by decide) P13_0 (argsL := [(.long (vM_19 q0 q1 q2 p3))]) (rest := []) rfl rfl pd4 rfl rfl 0 (Nat.le_of_eq rfl) (by decide) (by decide) (by decide) (by decide) rfl rfl ?_
            rintro _ _ ⟨rfl, he14⟩
            refine Go.heap he14.symm ?_
            refine Go.some' ?_
            refine g_lstore C (Ls' := #[.val (.long q0), .second, .val (.long q1), .second, .val (.long q2), .second, .val (.int p3), .val (.long (vM_12 q0 q1 q2 p3)), .second, .val (.long (vM_13 q0 q1 q2 p3)), .second, .val (.long ((vM_13 q0 q1 q2 p3) - (vM_12 q0 q1 q2 p3))), .second, .val (.int ((p3 >>> ((1 : Int32) &&& 31)) &&& (7 : Int32))), .val (.long (vM_19 q0 q1 q2 p3)), .second, .val (.ref b12), .val (.long (vM_20 q0 q1 q2 p3)), .second, .unset]) iM_212 rfl ?_
            refine g_lload C iM_214 rfl ?_
            refine g_lload C iM_216 rfl ?_
            refine g_lcmp C iM_218 ?_
            refine Go.join (mkF m 235 #[.val (.long q0), .second, .val (.long q1), .second, .val (.long q2), .second, .val (.int p3), .val (.long (vM_12 q0 q1 q2 p3)), .second, .val (.long (vM_13 q0 q1 q2 p3)), .second, .val (.long ((vM_13 q0 q1 q2 p3) - (vM_12 q0 q1 q2 p3))), .second, .val (.int ((p3 >>> ((1 : Int32) &&& 31)) &&& (7 : Int32))), .val (.long (vM_19 q0 q1 q2 p3)), .second, .val (.ref b12), .val (.long (vM_20 q0 q1 q2 p3)), .second, .unset] [(.int (vM_22 q0 q1 q2 p3))]) ?_ (fun J => ?_)
            · refine g_istore C (Ls' := #[.val (.long q0), .second, .val (.long q1), .second, .val (.long q2), .second, .val (.int p3), .val (.long (vM_12 q0 q1 q2 p3)), .second, .val (.long (vM_13 q0 q1 q2 p3)), .second, .val (.long ((vM_13 q0 q1 q2 p3) - (vM_12 q0 q1 q2 p3))), .second, .val (.int ((p3 >>> ((1 : Int32) &&& 31)) &&& (7 : Int32))), .val (.long (vM_19 q0 q1 q2 p3)), .second, .val (.ref b12), .val (.long (vM_20 q0 q1 q2 p3)), .second, .val (.int (vM_22 q0 q1 q2 p3))]) iM_235 rfl ?_
              refine g_iload C iM_237 rfl ?_
              refine g_if_ne C iM_239 (fun hc239_1 => ?_) (fun hc239_1 => ?_)
              · refine g_lload C iM_242 rfl ?_
                refine g_ldc2Long C iM_244 (hw _ (List.mem_of_getElem? (i := 42) rfl)) ?_
                refine g_lcmp C iM_247 ?_
                refine Go.join (mkF m 256 #[.val (.long q0), .second, .val (.long q1), .second, .val (.long q2), .second, .val (.int p3), .val (.long (vM_12 q0 q1 q2 p3)), .second, .val (.long (vM_13 q0 q1 q2 p3)), .second, .val (.long ((vM_13 q0 q1 q2 p3) - (vM_12 q0 q1 q2 p3))), .second, .val (.int ((p3 >>> ((1 : Int32) &&& 31)) &&& (7 : Int32))), .val (.long (vM_19 q0 q1 q2 p3)), .second, .val (.ref b12), .val (.long (vM_20 q0 q1 q2 p3)), .second, .val (.int (vM_22 q0 q1 q2 p3))] [(.int (vM_23 q0 q1 q2 p3))]) ?_ (fun J => ?_)
                · exact g_retNar C (t := .boolean) iM_256 rfl (by simp) (by decide) (by decide) (show _ = _ from congrArg (fun z => some (Value.int z)) (leafM_6 q0 q1 q2 p3 hc4_1 hc68_1 hc77_1 hc239_1))
                · refine g_ifl_ne C iM_248 (fun hc248_1 => ?_) (fun hc248_1 => ?_)
                  · refine g_iconst C (1 : Int32) iM_251 rfl ?_
                    refine g_goto C iM_252 ?_
                    have e0 : (vM_23 q0 q1 q2 p3) = (1 : Int32) := by simp only [vM_23, if_pos hc248_1]
                    exact Go.cast J (by rw [e0])
                  · refine g_iconst C (0 : Int32) iM_255 rfl ?_
                    have e0 : (vM_23 q0 q1 q2 p3) = (0 : Int32) := by simp only [vM_23, if_neg hc248_1]
                    exact Go.cast J (by rw [e0])
              · refine g_lload C iM_257 rfl ?_
                refine g_lconst C (0 : Int64) iM_259 rfl ?_
                refine g_lcmp C iM_260 ?_
                refine Go.join (mkF m 288 #[.val (.long q0), .second, .val (.long q1), .second, .val (.long q2), .second, .val (.int p3), .val (.long (vM_12 q0 q1 q2 p3)), .second, .val (.long (vM_13 q0 q1 q2 p3)), .second, .val (.long ((vM_13 q0 q1 q2 p3) - (vM_12 q0 q1 q2 p3))), .second, .val (.int ((p3 >>> ((1 : Int32) &&& 31)) &&& (7 : Int32))), .val (.long (vM_19 q0 q1 q2 p3)), .second, .val (.ref b12), .val (.long (vM_20 q0 q1 q2 p3)), .second, .val (.int (vM_22 q0 q1 q2 p3))] [(.int (vM_26 q0 q1 q2 p3))]) ?_ (fun J => ?_)
                · exact g_retNar C (t := .boolean) iM_288 rfl (by simp) (by decide) (by decide) (show _ = _ from congrArg (fun z => some (Value.int z)) (leafM_7 q0 q1 q2 p3 hc4_1 hc68_1 hc77_1 hc239_1))
                · refine g_ifl_lt C iM_261 (fun hc261_1 => ?_) (fun hc261_1 => ?_)
                  · refine g_iconst C (0 : Int32) iM_287 rfl ?_
                    have e0 : (vM_26 q0 q1 q2 p3) = (0 : Int32) := by simp only [vM_26, if_pos hc261_1]
                    exact Go.cast J (by rw [e0])
                  · refine g_lload C iM_264 rfl ?_
                    refine g_lload C iM_266 rfl ?_
                    refine g_lcmp C iM_268 ?_
                    refine g_ifl_gt C iM_269 (fun hc269_1 => ?_) (fun hc269_1 => ?_)
                    · refine g_iconst C (0 : Int32) iM_287 rfl ?_
                      have e0 : (vM_26 q0 q1 q2 p3) = (0 : Int32) := by simp only [vM_26, if_neg hc261_1, if_pos hc269_1]
                      exact Go.cast J (by rw [e0])
                    · refine g_lload C iM_272 rfl ?_
                      refine g_lload C iM_274 rfl ?_
                      refine g_ladd C iM_276 ?_
                      refine g_lload C iM_277 rfl ?_
                      refine g_lcmp C iM_279 ?_
                      refine g_ifl_ne C iM_280 (fun hc280_1 => ?_) (fun hc280_1 => ?_)
                      · refine g_iconst C (1 : Int32) iM_283 rfl ?_
                        refine g_goto C iM_284 ?_
                        have e0 : (vM_26 q0 q1 q2 p3) = (1 : Int32) := by simp only [vM_26, if_neg hc261_1, if_neg hc269_1, if_pos hc280_1]
                        exact Go.cast J (by rw [e0])
                      · refine g_iconst C (0 : Int32) iM_287 rfl ?_
                        have e0 : (vM_26 q0 q1 q2 p3) = (0 : Int32) := by simp only [vM_26, if_neg hc261_1, if_neg hc269_1, if_neg hc280_1]
                        exact Go.cast J (by rw [e0])
            · refine g_ifl_gt C iM_219 (fun hc219_1 => ?_) (fun hc219_1 => ?_)
              · refine g_iconst C (0 : Int32) iM_234 rfl ?_
                have e0 : (vM_22 q0 q1 q2 p3) = (0 : Int32) := by simp only [vM_22, if_pos hc219_1]
                exact Go.cast J (by rw [e0])
              · refine g_lload C iM_222 rfl ?_
                refine g_lload C iM_224 rfl ?_
                refine g_lcmp C iM_226 ?_
                refine g_ifl_gt C iM_227 (fun hc227_1 => ?_) (fun hc227_1 => ?_)
                · refine g_iconst C (0 : Int32) iM_234 rfl ?_
                  have e0 : (vM_22 q0 q1 q2 p3) = (0 : Int32) := by simp only [vM_22, if_neg hc219_1, if_pos hc227_1]
                  exact Go.cast J (by rw [e0])
                · refine g_iconst C (1 : Int32) iM_230 rfl ?_
                  refine g_goto C iM_231 ?_
                  have e0 : (vM_22 q0 q1 q2 p3) = (1 : Int32) := by simp only [vM_22, if_neg hc219_1, if_neg hc227_1]
                  exact Go.cast J (by rw [e0])
          · refine g_icmp_ne C iM_94 (fun hc94_1 => ?_) (fun hc94_1 => ?_)
            · refine g_lload C iM_97 rfl ?_
              refine g_lstore C (Ls' := #[.val (.long q0), .second, .val (.long q1), .second, .val (.long q2), .second, .val (.int p3), .val (.long (vM_12 q0 q1 q2 p3)), .second, .val (.long (vM_13 q0 q1 q2 p3)), .second, .val (.long ((vM_13 q0 q1 q2 p3) - (vM_12 q0 q1 q2 p3))), .second, .val (.int ((p3 >>> ((1 : Int32) &&& 31)) &&& (7 : Int32))), .val (.long (vM_12 q0 q1 q2 p3)), .second, .unset, .unset, .unset, .unset]) iM_99 rfl ?_
              refine g_goto C iM_101 ?_
              have e0 : (vM_19 q0 q1 q2 p3) = (vM_12 q0 q1 q2 p3) := by simp only [vM_19, if_pos hc94_1]
              exact Go.cast J (by rw [e0])
            · refine g_iload C iM_104 rfl ?_
              refine g_iconst C (2 : Int32) iM_106 rfl ?_
              refine g_icmp_ne C iM_107 (fun hc107_1 => ?_) (fun hc107_1 => ?_)
              · refine g_lload C iM_110 rfl ?_
                refine g_lstore C (Ls' := #[.val (.long q0), .second, .val (.long q1), .second, .val (.long q2), .second, .val (.int p3), .val (.long (vM_12 q0 q1 q2 p3)), .second, .val (.long (vM_13 q0 q1 q2 p3)), .second, .val (.long ((vM_13 q0 q1 q2 p3) - (vM_12 q0 q1 q2 p3))), .second, .val (.int ((p3 >>> ((1 : Int32) &&& 31)) &&& (7 : Int32))), .val (.long (vM_13 q0 q1 q2 p3)), .second, .unset, .unset, .unset, .unset]) iM_112 rfl ?_
                refine g_goto C iM_114 ?_
                have e0 : (vM_19 q0 q1 q2 p3) = (vM_13 q0 q1 q2 p3) := by simp only [vM_19, if_neg hc94_1, if_pos hc107_1]
                exact Go.cast J (by rw [e0])
              · refine g_iload C iM_117 rfl ?_
                refine g_iconst C (3 : Int32) iM_119 rfl ?_
                refine g_icmp_ne C iM_120 (fun hc120_1 => ?_) (fun hc120_1 => ?_)
                · refine g_lload C iM_123 rfl ?_
                  refine g_lconst C (1 : Int64) iM_125 rfl ?_
                  refine g_lsub C iM_126 ?_
                  refine g_lstore C (Ls' := #[.val (.long q0), .second, .val (.long q1), .second, .val (.long q2), .second, .val (.int p3), .val (.long (vM_12 q0 q1 q2 p3)), .second, .val (.long (vM_13 q0 q1 q2 p3)), .second, .val (.long ((vM_13 q0 q1 q2 p3) - (vM_12 q0 q1 q2 p3))), .second, .val (.int ((p3 >>> ((1 : Int32) &&& 31)) &&& (7 : Int32))), .val (.long ((vM_12 q0 q1 q2 p3) - (1 : Int64))), .second, .unset, .unset, .unset, .unset]) iM_127 rfl ?_
                  refine g_goto C iM_129 ?_
                  have e0 : (vM_19 q0 q1 q2 p3) = ((vM_12 q0 q1 q2 p3) - (1 : Int64)) := by simp only [vM_19, if_neg hc94_1, if_neg hc107_1, if_pos hc120_1]
                  exact Go.cast J (by rw [e0])
                · refine g_iload C iM_132 rfl ?_
                  refine g_iconst C (4 : Int32) iM_134 rfl ?_
                  refine g_icmp_ne C iM_135 (fun hc135_1 => ?_) (fun hc135_1 => ?_)
                  · refine g_lload C iM_138 rfl ?_
                    refine g_lconst C (1 : Int64) iM_140 rfl ?_
                    refine g_ladd C iM_141 ?_
                    refine g_lstore C (Ls' := #[.val (.long q0), .second, .val (.long q1), .second, .val (.long q2), .second, .val (.int p3), .val (.long (vM_12 q0 q1 q2 p3)), .second, .val (.long (vM_13 q0 q1 q2 p3)), .second, .val (.long ((vM_13 q0 q1 q2 p3) - (vM_12 q0 q1 q2 p3))), .second, .val (.int ((p3 >>> ((1 : Int32) &&& 31)) &&& (7 : Int32))), .val (.long ((vM_13 q0 q1 q2 p3) + (1 : Int64))), .second, .unset, .unset, .unset, .unset]) iM_142 rfl ?_
                    refine g_goto C iM_144 ?_
                    have e0 : (vM_19 q0 q1 q2 p3) = ((vM_13 q0 q1 q2 p3) + (1 : Int64)) := by simp only [vM_19, if_neg hc94_1, if_neg hc107_1, if_neg hc120_1, if_pos hc135_1]
                    exact Go.cast J (by rw [e0])
                  · refine g_iload C iM_147 rfl ?_
                    refine g_iconst C (5 : Int32) iM_149 rfl ?_
                    refine g_icmp_ne C iM_150 (fun hc150_1 => ?_) (fun hc150_1 => ?_)
                    · refine g_lload C iM_153 rfl ?_
                      refine g_lload C iM_155 rfl ?_
                      refine g_ldc2Long C iM_157 (hw _ (List.mem_of_getElem? (i := 40) rfl)) ?_
                      refine g_land C iM_160 ?_
                      refine g_ladd C iM_161 ?_
                      refine g_lstore C (Ls' := #[.val (.long q0), .second, .val (.long q1), .second, .val (.long q2), .second, .val (.int p3), .val (.long (vM_12 q0 q1 q2 p3)), .second, .val (.long (vM_13 q0 q1 q2 p3)), .second, .val (.long ((vM_13 q0 q1 q2 p3) - (vM_12 q0 q1 q2 p3))), .second, .val (.int ((p3 >>> ((1 : Int32) &&& 31)) &&& (7 : Int32))), .val (.long ((vM_12 q0 q1 q2 p3) + (q2 &&& (15 : Int64)))), .second, .unset, .unset, .unset, .unset]) iM_162 rfl ?_
                      refine g_goto C iM_164 ?_
                      have e0 : (vM_19 q0 q1 q2 p3) = ((vM_12 q0 q1 q2 p3) + (q2 &&& (15 : Int64))) := by simp only [vM_19, if_neg hc94_1, if_neg hc107_1, if_neg hc120_1, if_neg hc135_1, if_pos hc150_1]
                      exact Go.cast J (by rw [e0])
                    · refine g_iload C iM_167 rfl ?_
                      refine g_bipush C (6 : Int32) iM_169 rfl ?_
                      refine g_icmp_ne C iM_171 (fun hc171_1 => ?_) (fun hc171_1 => ?_)
                      · refine g_lload C iM_174 rfl ?_
                        refine g_lload C iM_176 rfl ?_
                        refine g_ldc2Long C iM_178 (hw _ (List.mem_of_getElem? (i := 40) rfl)) ?_
                        refine g_land C iM_181 ?_
                        refine g_lsub C iM_182 ?_
                        refine g_lstore C (Ls' := #[.val (.long q0), .second, .val (.long q1), .second, .val (.long q2), .second, .val (.int p3), .val (.long (vM_12 q0 q1 q2 p3)), .second, .val (.long (vM_13 q0 q1 q2 p3)), .second, .val (.long ((vM_13 q0 q1 q2 p3) - (vM_12 q0 q1 q2 p3))), .second, .val (.int ((p3 >>> ((1 : Int32) &&& 31)) &&& (7 : Int32))), .val (.long ((vM_13 q0 q1 q2 p3) - (q2 &&& (15 : Int64)))), .second, .unset, .unset, .unset, .unset]) iM_183 rfl ?_
                        refine g_goto C iM_185 ?_
                        have e0 : (vM_19 q0 q1 q2 p3) = ((vM_13 q0 q1 q2 p3) - (q2 &&& (15 : Int64))) := by simp only [vM_19, if_neg hc94_1, if_neg hc107_1, if_neg hc120_1, if_neg hc135_1, if_neg hc150_1, if_pos hc171_1]
                        exact Go.cast J (by rw [e0])
                      · refine g_lload C iM_188 rfl ?_
                        refine g_lstore C (Ls' := #[.val (.long q0), .second, .val (.long q1), .second, .val (.long q2), .second, .val (.int p3), .val (.long (vM_12 q0 q1 q2 p3)), .second, .val (.long (vM_13 q0 q1 q2 p3)), .second, .val (.long ((vM_13 q0 q1 q2 p3) - (vM_12 q0 q1 q2 p3))), .second, .val (.int ((p3 >>> ((1 : Int32) &&& 31)) &&& (7 : Int32))), .val (.long q2), .second, .unset, .unset, .unset, .unset]) iM_190 rfl ?_
                        have e0 : (vM_19 q0 q1 q2 p3) = q2 := by simp only [vM_19, if_neg hc94_1, if_neg hc107_1, if_neg hc120_1, if_neg hc135_1, if_neg hc150_1, if_neg hc171_1]
                        exact Go.cast J (by rw [e0])
    · refine g_ifl_ge C iM_45 (fun hc45_1 => ?_) (fun hc45_1 => ?_)
      · refine g_lloadN C iM_48 rfl ?_
        refine g_lload C iM_49 rfl ?_
        refine g_lsub C iM_51 ?_
        refine g_lstore C (Ls' := #[.val (.long q0), .second, .val (.long q1), .second, .val (.long q2), .second, .val (.int p3), .val (.long (q0 - (q1 &&& (15 : Int64)))), .second, .val (.long (q0 + (q1 &&& (15 : Int64)))), .second, .val (.long (q1 &&& (15 : Int64))), .second, .unset, .unset, .unset, .unset, .unset, .unset, .unset]) iM_52 rfl ?_
        refine g_lloadN C iM_54 rfl ?_
        refine g_lstore C (Ls' := #[.val (.long q0), .second, .val (.long q1), .second, .val (.long q2), .second, .val (.int p3), .val (.long (q0 - (q1 &&& (15 : Int64)))), .second, .val (.long q0), .second, .val (.long (q1 &&& (15 : Int64))), .second, .unset, .unset, .unset, .unset, .unset, .unset, .unset]) iM_55 rfl ?_
        have e0 : (vM_12 q0 q1 q2 p3) = (q0 - (q1 &&& (15 : Int64))) := by simp only [vM_12, if_pos hc45_1]
        have e1 : (vM_13 q0 q1 q2 p3) = q0 := by simp only [vM_13, if_pos hc45_1]
        exact Go.cast J (by rw [e0, e1])
      · have e0 : (vM_12 q0 q1 q2 p3) = q0 := by simp only [vM_12, if_neg hc45_1]
        have e1 : (vM_13 q0 q1 q2 p3) = (q0 + (q1 &&& (15 : Int64))) := by simp only [vM_13, if_neg hc45_1]
        exact Go.cast J (by rw [e0, e1])
set_option maxRecDepth 65536 in
set_option maxHeartbeats 40000000 in
theorem comes_1 {Post : Tables → Env → Array Value → State → Outcome → State → Prop} (hpost : ∀ tb e args s v u, (limb_1_1.after args s (.returned v) u = true ∧ limb_1_2.after args s (.returned v) u = true ∧ True) → FrameEnd s (.returned v) u (Jvm.fieldLocs frame_1_writes args s ++ Jvm.arrayLocs frame_1_arrays args s ++ Jvm.staticLocs frame_1_statics s) 16 128 → Post tb e args s (.returned v) u) :
    ArmFor flags0 classFile x code maxLocals ret World_1 tables_1 room_1 Calls_1 rest_1 Pre_1 Post := by
  intro l hfl _ _ p e ha hc hk s m args below hf hA hF happ hP
  obtain ⟨hcalls, hrest, hpre⟩ := hP
  obtain ⟨-, -, -, hnamed, -, -, -, hat⟩ := (Spec.applies_iff hf).mp happ
  obtain ⟨hg, hn⟩ := and_e (Cond.before_iff.mp (show (Jvm.Cond.and given_1 narrow_1).before args s = true from hpre))
  obtain ⟨gg1, gg2⟩ := and_e hg
  obtain ⟨gg3, gg4⟩ := and_e gg2
  obtain ⟨gg5, gg6⟩ := and_e gg4
  obtain ⟨gg7, gg8⟩ := and_e gg6
  obtain ⟨w0, w1, w2, w3, rfl⟩ : ∃ w0 w1 w2 w3 : Value, args = #[w0, w1, w2, w3] := by
    have hs : args.size = 4 := by simpa [Cond.value, given_1] using gg1
    obtain ⟨L⟩ := args
    match L, hs with
    | [w0, w1, w2, w3], _ => exact ⟨w0, w1, w2, w3, rfl⟩
  have hw := fun d (hd : d ∈ tables_1) => atoms_spec (ws := Jvm.Cond.code x code maxLocals ret :: tables_1) hat d (List.mem_cons_of_mem _ hd)
  have hfit : Fit s := fun {y c} hc i hi => by
    obtain ⟨ha, rfl⟩ := Array.getElem?_eq_some_iff.mp hc
    have q := List.all_eq_true.mp ((Array.all_eq_true_iff_forall_mem.mp hF) _ (Array.getElem_mem ha)) i (List.mem_range.mpr hi)
    simpa [Array.getElem?_eq_getElem hi] using q
  obtain ⟨i0, ei0⟩ := isL_v gg3
  obtain rfl : w0 = (.long i0) := Option.some.inj ei0
  obtain ⟨i1, ei1⟩ := isL_v gg5
  obtain rfl : w1 = (.long i1) := Option.some.inj ei1
  obtain ⟨i2, ei2⟩ := isL_v gg7
  obtain rfl : w2 = (.long i2) := Option.some.inj ei2
  obtain ⟨i3, ei3⟩ := is_v gg8
  obtain rfl : w3 = (.int i3) := Option.some.inj ei3
  obtain ⟨n, o, h1, h2, h3, _, L, rfl, ⟨rfl, N⟩, hq⟩ := rmM l s _ hw i0 i1 i2 i3 s.heap s.heap.size (Nat.le_refl _) tables_1 p e ha hc hk s m _ below hf ((Spec.applies_iff_loose hf).mp happ).1 ⟨rfl, State.Warmed39.refl s, rfl⟩ trivial
  refine ⟨n, _, h1, h2, h3, hpost _ _ _ _ _ _ ⟨Cond.after_iff.mpr rfl, Cond.after_iff.mpr (eq_i res_at (Term.int_eval (1)) rfl), trivial⟩ ⟨hq.1, hq.2.1, (hq.2.2.sift fun y hy => Or.inr (N y hy)).mono (by decide) (by decide)⟩⟩
theorem main_1_1 : Claimed_1_1 := comes_1 fun _ _ _ _ _ _ h hF => ⟨h.1, hF⟩
theorem main_1_2 : Claimed_1_2 := comes_1 fun _ _ _ _ _ _ h hF => ⟨h.2.1, hF⟩
end Jvm.Pilot.@@N@@
namespace Jvm.Pilot.@@N@@
open Jvm Jvm.ClassFile Sem Op Lib Jvm.Free Jvm.Stand Jvm.Pilot.@@N@@.Jvm.D
/-! MADE BY PROGRAM (witnessworld.py) out of the Statement's table words and the real class files: 17 classes; the members and pool entries that the words name. The judged class is class 1, her method 1. -/
namespace start1
open Jvm.ClassFile
def u (s : String) : CpInfo := .utf8 (stringToUtf16 s)
/-- a pool by its gaps: so many unusable entries, then the entry; so many at the end -/
def gap : Nat → List CpInfo → List CpInfo
  | 0, r => r
  | n + 1, r => .unusable :: gap n r
def poolList (es : List (Nat × CpInfo)) (last : Nat) : List CpInfo := es.foldr (fun e r => gap e.1 (e.2 :: r)) (gap last [])
def pool (es : List (Nat × CpInfo)) (last : Nat) : Array CpInfo := ⟨poolList es last⟩
def fileOf (pool : Array CpInfo) (this : Nat) (attrs : Array Attribute := #[]) (ms : Array MethodInfo := #[]) (fl : Nat := 33) (sup : Nat := 0) (ifs : Array Nat := #[]) (fds : Array FieldInfo := #[]) : ClassFile where
  minorVersion := 0
  majorVersion := 65
  constantPool := pool
  accessFlags := fl
  thisClass := this
  superClass := sup
  interfaces := ifs
  fields := fds
  methods := ms
  attributes := attrs
def plain (name : String) (sup : Option ClassId) : Class where
  name := name
  kind := .ordinary
  loader := none
  accessFlags := 33
  super := sup
  interfaces := #[]
  cf := none
  fields := #[]
  methods := #[]
  instanceTypes := #[]
  staticTypes := #[]
  resolved := #[]
  callSites := []
  init := .initialized
  statics := none
  mirror := none

def pool0 : Array CpInfo := pool [(5, u "<init>"), (0, u "()V"), (1, .class_ 10), (1, u "java/lang/Object")] 113

def k0c0 : Code := { maxStack := 0, maxLocals := 1, code := object_method_1_code, exceptionTable := #[], attributes := #[] }
def k0m0 : Method := { name := "<init>", desc := "()V", sig := { parameters := [], returnType := none }, accessFlags := 1, code := some k0c0 }
/-- java/lang/Object -/
def k0 : Class := { plain "java/lang/Object" none with
  accessFlags := 33
  interfaces := #[]
  cf := some (fileOf pool0 8 #[] #[{ accessFlags := 1, nameIndex := 5, descriptorIndex := 6, attributes := #[] }] 33 0 #[] #[])
  fields := #[]
  methods := #[k0m0]
  instanceTypes := #[]
  staticTypes := #[]
  resolved := Array.replicate 124 none
  statics := none }

def pool1 : Array CpInfo := pool [(2, .class_ 4), (1, u "java/lang/Object"), (0, u "<init>"), (0, u "()V"), (0, .methodref 8 9), (0, .class_ 10), (0, .nameAndType 11 12), (0, u "java/lang/Math"), (0, u "min"), (0, u "(JJ)J"), (0, .methodref 8 14), (0, .nameAndType 15 12), (0, u "max"), (0, .long 15), (3, .long 9223372036854775807), (1, .class_ 23), (0, u "com/example/strict_aspect/strictaspect/model/RangeType"), (0, .methodref 22 25), (0, .nameAndType 5 26), (0, u "(JJ)V"), (0, .methodref 22 28), (0, .nameAndType 29 30), (0, u "indexOf"), (0, u "(J)J"), (0, .long 18446744073709551615), (1, .class_ 34), (0, u "com/example/strict_aspect/strictaspect/model/RangeTypeIndexOfPinLaw"), (2, u "law"), (0, u "(JJJI)Z")] 3

def k1m0 : Method := { name := "<init>", desc := "()V", sig := { parameters := [], returnType := none }, accessFlags := 1, code := none }
def k1c1 : Code := { maxStack := 6, maxLocals := 20, code := code, exceptionTable := #[], attributes := #[] }
def k1m1 : Method := { name := "law", desc := "(JJJI)Z", sig := { parameters := [.long, .long, .long, .int], returnType := some .boolean }, accessFlags := 9, code := some k1c1 }
/-- com/example/strict_aspect/strictaspect/model/RangeTypeIndexOfPinLaw -/
def k1 : Class := { plain "com/example/strict_aspect/strictaspect/model/RangeTypeIndexOfPinLaw" (some 0) with
  accessFlags := 49
  interfaces := #[]
  cf := some (fileOf pool1 33 #[] #[{ accessFlags := 1, nameIndex := 5, descriptorIndex := 6, attributes := #[] }, { accessFlags := 9, nameIndex := 37, descriptorIndex := 38, attributes := #[] }] 49 2 #[] #[])
  fields := #[]
  methods := #[k1m0, k1m1]
  instanceTypes := #[]
  staticTypes := #[]
  resolved := Array.replicate 42 none
  statics := none }

def pool2 : Array CpInfo := pool [(1, .class_ 2), (0, u "java/lang/Math"), (1, .class_ 6), (1, u "java/lang/Object"), (0, u "<init>"), (0, u "()V"), (89, .class_ 100), (1, u "java/lang/Math$RandomNumberGeneratorHolder"), (20, u "(JJ)J"), (50, u "negativeZeroFloatBits"), (0, u "J"), (2, u "negativeZeroDoubleBits"), (21, u "max"), (2, u "min"), (43, u "$assertionsDisabled"), (0, u "Z"), (91, u "twoToTheDoubleScaleDown"), (0, u "D"), (4, u "twoToTheDoubleScaleUp"), (9, u "E"), (3, u "PI"), (2, u "TAU"), (2, u "DEGREES_TO_RADIANS"), (0, u "RADIANS_TO_DEGREES")] 94

def k2m0 : Method := { name := "<init>", desc := "()V", sig := { parameters := [], returnType := none }, accessFlags := 2, code := none }
def k2c1 : Code := { maxStack := 4, maxLocals := 4, code := jdk_29_method_66_code, exceptionTable := #[], attributes := #[] }
def k2m1 : Method := { name := "max", desc := "(JJ)J", sig := { parameters := [.long, .long], returnType := some .long }, accessFlags := 9, code := some k2c1 }
def k2c2 : Code := { maxStack := 4, maxLocals := 4, code := jdk_29_method_70_code, exceptionTable := #[], attributes := #[] }
def k2m2 : Method := { name := "min", desc := "(JJ)J", sig := { parameters := [.long, .long], returnType := some .long }, accessFlags := 9, code := some k2c2 }
/-- java/lang/Math -/
def k2 : Class := { plain "java/lang/Math" (some 0) with
  accessFlags := 49
  interfaces := #[]
  cf := some (fileOf pool2 1 #[.nestMembers #[98]] #[{ accessFlags := 2, nameIndex := 7, descriptorIndex := 8, attributes := #[] }, { accessFlags := 9, nameIndex := 198, descriptorIndex := 121, attributes := #[] }, { accessFlags := 9, nameIndex := 201, descriptorIndex := 121, attributes := #[] }] 49 4 #[] #[{ accessFlags := 25, nameIndex := 354, descriptorIndex := 339, attributes := #[] }, { accessFlags := 25, nameIndex := 358, descriptorIndex := 339, attributes := #[] }, { accessFlags := 25, nameIndex := 361, descriptorIndex := 339, attributes := #[] }, { accessFlags := 26, nameIndex := 364, descriptorIndex := 339, attributes := #[] }, { accessFlags := 26, nameIndex := 365, descriptorIndex := 339, attributes := #[] }, { accessFlags := 26, nameIndex := 172, descriptorIndex := 173, attributes := #[] }, { accessFlags := 26, nameIndex := 176, descriptorIndex := 173, attributes := #[] }, { accessFlags := 8, nameIndex := 344, descriptorIndex := 339, attributes := #[] }, { accessFlags := 8, nameIndex := 338, descriptorIndex := 339, attributes := #[] }, { accessFlags := 4120, nameIndex := 245, descriptorIndex := 246, attributes := #[] }])
  fields := #[{ name := "E", type := .double, accessFlags := 25, slot := 0, constantValue := 0 }, { name := "PI", type := .double, accessFlags := 25, slot := 1, constantValue := 0 }, { name := "TAU", type := .double, accessFlags := 25, slot := 2, constantValue := 0 }, { name := "DEGREES_TO_RADIANS", type := .double, accessFlags := 26, slot := 3, constantValue := 0 }, { name := "RADIANS_TO_DEGREES", type := .double, accessFlags := 26, slot := 4, constantValue := 0 }, { name := "negativeZeroFloatBits", type := .long, accessFlags := 26, slot := 5, constantValue := 0 }, { name := "negativeZeroDoubleBits", type := .long, accessFlags := 26, slot := 6, constantValue := 0 }, { name := "twoToTheDoubleScaleUp", type := .double, accessFlags := 8, slot := 7, constantValue := 0 }, { name := "twoToTheDoubleScaleDown", type := .double, accessFlags := 8, slot := 8, constantValue := 0 }, { name := "$assertionsDisabled", type := .boolean, accessFlags := 4120, slot := 9, constantValue := 0 }]
  methods := #[k2m0, k2m1, k2m2]
  instanceTypes := #[]
  staticTypes := #[.double, .double, .double, .double, .double, .long, .long, .double, .double, .boolean]
  resolved := Array.replicate 460 none
  statics := none }

def pool3 : Array CpInfo := pool [(1, .methodref 2 3), (0, .class_ 4), (0, .nameAndType 5 6), (0, u "java/lang/Object"), (0, u "<init>"), (0, u "()V"), (0, .class_ 8), (0, u "java/lang/Record")] 13

def k3c0 : Code := { maxStack := 1, maxLocals := 1, code := jdk_30_method_1_code, exceptionTable := #[], attributes := #[] }
def k3m0 : Method := { name := "<init>", desc := "()V", sig := { parameters := [], returnType := none }, accessFlags := 4, code := some k3c0 }
/-- java/lang/Record -/
def k3 : Class := { plain "java/lang/Record" (some 0) with
  accessFlags := 1057
  interfaces := #[]
  cf := some (fileOf pool3 7 #[] #[{ accessFlags := 4, nameIndex := 5, descriptorIndex := 6, attributes := #[] }] 1057 2 #[] #[])
  fields := #[]
  methods := #[k3m0]
  instanceTypes := #[]
  staticTypes := #[]
  resolved := Array.replicate 22 none
  statics := none }

def pool4 : Array CpInfo := pool [(2, .class_ 4), (1, u "com/example/strict_aspect/strictaspect/model/Type"), (8, .class_ 14), (0, u "java/lang/Object")] 19

/-- com/example/strict_aspect/strictaspect/model/Type -/
def k4 : Class := { plain "com/example/strict_aspect/strictaspect/model/Type" (some 0) with
  accessFlags := 1537
  interfaces := #[]
  cf := some (fileOf pool4 2 #[] #[] 1537 13 #[] #[])
  fields := #[]
  methods := #[]
  instanceTypes := #[]
  staticTypes := #[]
  resolved := Array.replicate 34 none
  statics := none }

def pool5 : Array CpInfo := pool [(1, .methodref 2 3), (0, .class_ 4), (0, .nameAndType 5 6), (0, u "java/lang/Record"), (0, u "<init>"), (0, u "()V"), (3, .class_ 12), (1, u "com/example/strict_aspect/strictaspect/model/RangeType"), (2, .class_ 16), (0, u "java/lang/Long"), (0, .long 9223372036854775807), (1, .methodref 15 20), (0, .nameAndType 21 22), (0, u "compareUnsigned"), (0, u "(JJ)I"), (2, .fieldref 10 26), (0, .nameAndType 27 28), (0, u "low"), (0, u "J"), (0, .fieldref 10 30), (0, .nameAndType 31 28), (0, u "high"), (15, .long 18446744073709551615), (9, u "indexOf"), (0, u "(J)J"), (23, .class_ 83), (0, u "com/example/strict_aspect/strictaspect/model/Type"), (0, u "(JJ)V")] 44

def k5c0 : Code := { maxStack := 5, maxLocals := 5, code := prog_65_method_1_code, exceptionTable := #[], attributes := #[] }
def k5m0 : Method := { name := "<init>", desc := "(JJ)V", sig := { parameters := [.long, .long], returnType := none }, accessFlags := 1, code := some k5c0 }
def k5c1 : Code := { maxStack := 4, maxLocals := 3, code := prog_65_method_5_code, exceptionTable := #[], attributes := #[] }
def k5m1 : Method := { name := "indexOf", desc := "(J)J", sig := { parameters := [.long], returnType := some .long }, accessFlags := 1, code := some k5c1 }
/-- com/example/strict_aspect/strictaspect/model/RangeType -/
def k5 : Class := { plain "com/example/strict_aspect/strictaspect/model/RangeType" (some 3) with
  accessFlags := 49
  interfaces := #[4]
  cf := some (fileOf pool5 10 #[] #[{ accessFlags := 1, nameIndex := 5, descriptorIndex := 84, attributes := #[] }, { accessFlags := 1, nameIndex := 57, descriptorIndex := 58, attributes := #[] }] 49 2 #[82] #[{ accessFlags := 18, nameIndex := 27, descriptorIndex := 28, attributes := #[] }, { accessFlags := 18, nameIndex := 31, descriptorIndex := 28, attributes := #[] }])
  fields := #[{ name := "low", type := .long, accessFlags := 18, slot := 0, constantValue := 0 }, { name := "high", type := .long, accessFlags := 18, slot := 1, constantValue := 0 }]
  methods := #[k5m0, k5m1]
  instanceTypes := #[.long, .long]
  staticTypes := #[]
  resolved := Array.replicate 129 none
  statics := none }

def pool6 : Array CpInfo := pool [(1, .class_ 2), (0, u "java/io/Serializable"), (0, .class_ 4), (0, u "java/lang/Object")] 2

/-- java/io/Serializable -/
def k6 : Class := { plain "java/io/Serializable" (some 0) with
  accessFlags := 1537
  interfaces := #[]
  cf := some (fileOf pool6 1 #[] #[] 1537 3 #[] #[])
  fields := #[]
  methods := #[]
  instanceTypes := #[]
  staticTypes := #[]
  resolved := Array.replicate 7 none
  statics := none }

def pool7 : Array CpInfo := pool [(2, .class_ 4), (1, u "java/lang/Object"), (0, u "<init>"), (0, u "()V"), (1, .class_ 10), (1, u "java/lang/Number"), (2, .class_ 14), (0, u "java/io/Serializable"), (0, u "serialVersionUID"), (0, u "J")] 20

def k7m0 : Method := { name := "<init>", desc := "()V", sig := { parameters := [], returnType := none }, accessFlags := 1, code := none }
/-- java/lang/Number -/
def k7 : Class := { plain "java/lang/Number" (some 0) with
  accessFlags := 1057
  interfaces := #[6]
  cf := some (fileOf pool7 8 #[] #[{ accessFlags := 1, nameIndex := 5, descriptorIndex := 6, attributes := #[] }] 1057 2 #[13] #[{ accessFlags := 26, nameIndex := 15, descriptorIndex := 16, attributes := #[] }])
  fields := #[{ name := "serialVersionUID", type := .long, accessFlags := 26, slot := 0, constantValue := 0 }]
  methods := #[k7m0]
  instanceTypes := #[]
  staticTypes := #[.long]
  resolved := Array.replicate 37 none
  statics := none }

def pool8 : Array CpInfo := pool [(1, .class_ 2), (0, u "java/lang/Comparable"), (0, .class_ 4), (0, u "java/lang/Object")] 7

/-- java/lang/Comparable -/
def k8 : Class := { plain "java/lang/Comparable" (some 0) with
  accessFlags := 1537
  interfaces := #[]
  cf := some (fileOf pool8 1 #[] #[] 1537 3 #[] #[])
  fields := #[]
  methods := #[]
  instanceTypes := #[]
  staticTypes := #[]
  resolved := Array.replicate 12 none
  statics := none }

def pool9 : Array CpInfo := pool [(1, .class_ 2), (0, u "java/lang/constant/Constable"), (0, .class_ 4), (0, u "java/lang/Object")] 6

/-- java/lang/constant/Constable -/
def k9 : Class := { plain "java/lang/constant/Constable" (some 0) with
  accessFlags := 1537
  interfaces := #[]
  cf := some (fileOf pool9 1 #[] #[] 1537 3 #[] #[])
  fields := #[]
  methods := #[]
  instanceTypes := #[]
  staticTypes := #[]
  resolved := Array.replicate 11 none
  statics := none }

def pool10 : Array CpInfo := pool [(1, .class_ 2), (0, u "java/lang/constant/ConstantDesc"), (0, .class_ 4), (0, u "java/lang/Object")] 32

/-- java/lang/constant/ConstantDesc -/
def k10 : Class := { plain "java/lang/constant/ConstantDesc" (some 0) with
  accessFlags := 1537
  interfaces := #[]
  cf := some (fileOf pool10 1 #[] #[] 1537 3 #[] #[])
  fields := #[]
  methods := #[]
  instanceTypes := #[]
  staticTypes := #[]
  resolved := Array.replicate 37 none
  statics := none }

def pool11 : Array CpInfo := pool [(1, .class_ 2), (0, u "java/lang/Long"), (165, .long 9223372036854775808), (66, .class_ 237), (1, u "java/lang/Long$LongCache"), (33, .class_ 272), (0, u "java/lang/Number"), (2, u "value"), (0, u "J"), (25, .methodref 1 303), (0, .nameAndType 304 305), (0, u "compare"), (0, u "(JJ)I"), (55, u "TYPE"), (0, u "Ljava/lang/Class;"), (0, .class_ 364), (0, u "java/lang/Comparable"), (0, .class_ 366), (0, u "java/lang/constant/Constable"), (0, .class_ 368), (0, u "java/lang/constant/ConstantDesc"), (0, u "MIN_VALUE"), (1, u "MAX_VALUE"), (4, u "SIZE"), (0, u "I"), (1, u "BYTES"), (1, u "serialVersionUID"), (87, u "compareUnsigned")] 54

def k11c0 : Code := { maxStack := 4, maxLocals := 4, code := jdk_35_method_42_code, exceptionTable := #[], attributes := #[] }
def k11m0 : Method := { name := "compare", desc := "(JJ)I", sig := { parameters := [.long, .long], returnType := some .int }, accessFlags := 9, code := some k11c0 }
def k11c1 : Code := { maxStack := 6, maxLocals := 4, code := jdk_35_method_43_code, exceptionTable := #[], attributes := #[] }
def k11m1 : Method := { name := "compareUnsigned", desc := "(JJ)I", sig := { parameters := [.long, .long], returnType := some .int }, accessFlags := 9, code := some k11c1 }
/-- java/lang/Long -/
def k11 : Class := { plain "java/lang/Long" (some 7) with
  accessFlags := 49
  interfaces := #[8, 9, 10]
  cf := some (fileOf pool11 1 #[.nestMembers #[235]] #[{ accessFlags := 9, nameIndex := 304, descriptorIndex := 305, attributes := #[] }, { accessFlags := 9, nameIndex := 469, descriptorIndex := 305, attributes := #[] }] 49 271 #[363, 365, 367] #[{ accessFlags := 25, nameIndex := 369, descriptorIndex := 276, attributes := #[] }, { accessFlags := 25, nameIndex := 371, descriptorIndex := 276, attributes := #[] }, { accessFlags := 25, nameIndex := 361, descriptorIndex := 362, attributes := #[] }, { accessFlags := 18, nameIndex := 275, descriptorIndex := 276, attributes := #[] }, { accessFlags := 25, nameIndex := 376, descriptorIndex := 377, attributes := #[] }, { accessFlags := 25, nameIndex := 379, descriptorIndex := 377, attributes := #[] }, { accessFlags := 26, nameIndex := 381, descriptorIndex := 276, attributes := #[] }])
  fields := #[{ name := "MIN_VALUE", type := .long, accessFlags := 25, slot := 0, constantValue := 0 }, { name := "MAX_VALUE", type := .long, accessFlags := 25, slot := 1, constantValue := 0 }, { name := "TYPE", type := (.object "java/lang/Class"), accessFlags := 25, slot := 2, constantValue := 0 }, { name := "value", type := .long, accessFlags := 18, slot := 0, constantValue := 0 }, { name := "SIZE", type := .int, accessFlags := 25, slot := 3, constantValue := 0 }, { name := "BYTES", type := .int, accessFlags := 25, slot := 4, constantValue := 0 }, { name := "serialVersionUID", type := .long, accessFlags := 26, slot := 5, constantValue := 0 }]
  methods := #[k11m0, k11m1]
  instanceTypes := #[.long]
  staticTypes := #[.long, .long, (.object "java/lang/Class"), .int, .int, .long]
  resolved := Array.replicate 524 none
  statics := none }

def pool12 : Array CpInfo := pool [(1, u "java/lang/Cloneable"), (0, .class_ 1), (0, u "java/lang/Object"), (0, .class_ 3)] 3

/-- java/lang/Cloneable -/
def k12 : Class := { plain "java/lang/Cloneable" (some 0) with
  accessFlags := 1537
  interfaces := #[]
  cf := some (fileOf pool12 2 #[] #[] 1537 4 #[] #[])
  fields := #[]
  methods := #[]
  instanceTypes := #[]
  staticTypes := #[]
  resolved := Array.replicate 8 none
  statics := none }

/-- the primitive byte -/
def k13 : Class := { plain "byte" none with kind := .primitive 'B', accessFlags := 0x411 }
/-- [B -/
def k14 : Class := { plain "[B" (some 0) with kind := .array 13 .byte, interfaces := #[12, 6], accessFlags := 1041 }

/-- the primitive int -/
def k15 : Class := { plain "int" none with kind := .primitive 'I', accessFlags := 0x411 }
/-- [I -/
def k16 : Class := { plain "[I" (some 0) with kind := .array 15 .int, interfaces := #[12, 6], accessFlags := 1041 }

def heap : Heap := #[]
def classes : Array Class := #[k0, k1, k2, k3, k4, k5, k6, k7, k8, k9, k10, k11, k12, k13, k14, k15, k16]
def interned : List (Array UInt16 × Addr) := []
def slotsUsed : Nat := 0
def theMethod : MethodId := ⟨1, 1⟩
def args0 : Array Value := #[.long 5, .long 6, .long 7, .int 8]
def aboutOver (below : List Frame) : State where
  vm := { classes := classes, interned := interned.toArray }
  heap := heap
  slotsUsed := slotsUsed
  threads := #[{ frames := .invoking theMethod args0 :: below }]
def below0 : List Frame := [.native { method := ⟨0, 0⟩, args := #[] }]
def about1 : State := aboutOver below0
def p0 : Program := .bare "" "" ""
def e0 : Env := launch0.env 0 0 0
theorem w_frames : about1.frames = Frame.invoking theMethod args0 :: below0 := rfl
set_option maxRecDepth 65536 in
theorem w_args : argsFit about1.vm theMethod args0 = true := by decide +kernel
set_option maxRecDepth 65536 in
theorem w_heap : heapFits about1 = true := by decide +kernel
set_option maxRecDepth 65536 in
theorem w_runnable : about1.curStatus? = some .runnable := by decide +kernel
set_option maxRecDepth 65536 in
theorem w_alone : about1.alone = true := by decide +kernel
set_option maxRecDepth 65536 in
theorem w_named : about1.methodNamed? x = some theMethod := by decide +kernel
set_option maxRecDepth 65536 in
theorem w_hears : about1.hears theMethod below0 = true := by decide +kernel
set_option maxRecDepth 65536 in
theorem w_ripe : about1.ripe theMethod args0 below0 = true := by decide +kernel
theorem w_running : about1.status = .running := rfl
set_option maxRecDepth 65536 in
theorem w_room : about1.hasRoom e0.platform room_1 = true :=
  launch0.hasRoom_least _ room_1 (by decide +kernel) (by decide +kernel) (by decide +kernel) (by decide +kernel) (by decide +kernel) (by decide +kernel)
theorem allAtoms_all (ts : List Jvm.Cond) (a : Array Jvm.Value) (st : Jvm.State) : (allAtoms ts).before a st = ts.all (fun c => c.before a st) := by
  induction ts with
  | nil => rfl
  | cons c t ih =>
    show (Jvm.Cond.and c (allAtoms t)).before a st = _
    rw [Jvm.Cond.before_and, ih, List.all_cons]
def words1 : List Jvm.Cond := Jvm.Cond.code x code maxLocals ret :: tables_1
/-- a 'code' word, met by the world's own term for the bytes: nothing is compared byte by byte -/
theorem code_word {y : MethodName} {bytes : ByteArray} {mx : Nat} {rt : Option FieldType} {a : Array Value} {s : State} {m : MethodId} {meth : Method} {c : Code} (h1 : s.methodNamed? y = some m) (h2 : s.vm.method? m = some meth) (h3 : meth.code = some c) (h4 : c.code = bytes)
    (h5 : (c.maxLocals == mx && c.exceptionTable.isEmpty && decide (c.maxStack ≤ mostOperands) && decide (meth.sig.returnType = rt) && !meth.locks && decide (parseMethodDescriptor y.desc = some meth.sig)) = true) : (Jvm.Cond.code y bytes mx rt).before a s = true := by
  simp only [Bool.and_eq_true, beq_iff_eq, Bool.not_eq_true', decide_eq_true_eq] at h5
  obtain ⟨⟨⟨⟨⟨g1, g2⟩, g3⟩, g4⟩, g5⟩, g6⟩ := h5
  simp [Cond.before, Cond.holds, Cond.value, h1, h2, h3, h4, g1, g2, g3, g4, g5, g6]
def isCode : Jvm.Cond → Bool
  | .code _ _ _ _ => true
  | _ => false
theorem all_split {L : List Jvm.Cond} {P : Jvm.Cond → Bool} (h1 : L.all (fun c => isCode c || P c) = true) (h2 : ∀ c ∈ L.filter isCode, P c = true) : L.all P = true := by
  refine List.all_eq_true.mpr fun c hc => ?_
  have h := List.all_eq_true.mp h1 c hc
  rcases Bool.eq_false_or_eq_true (isCode c) with hi | hi
  · exact h2 c (List.mem_filter.mpr ⟨hc, hi⟩)
  · simpa [hi] using h
set_option maxRecDepth 65536 in
theorem w_c0 : (Jvm.Cond.code x code maxLocals ret).before args0 about1 = true := code_word (m := ⟨1, 1⟩) (meth := k1m1) (c := k1c1) (by decide +kernel) rfl rfl rfl (by decide +kernel)
set_option maxRecDepth 65536 in
theorem w_c1 : (Jvm.Cond.code ({ cls := "java/lang/Math", name := "min", desc := "(JJ)J" } : Jvm.MethodName) jdk_29_method_70_code (4 : Nat) (Option.some Jvm.ClassFile.FieldType.long)).before args0 about1 = true := code_word (m := ⟨2, 2⟩) (meth := k2m2) (c := k2c2) (by decide +kernel) rfl rfl rfl (by decide +kernel)
set_option maxRecDepth 65536 in
theorem w_c2 : (Jvm.Cond.code ({ cls := "java/lang/Math", name := "max", desc := "(JJ)J" } : Jvm.MethodName) jdk_29_method_66_code (4 : Nat) (Option.some Jvm.ClassFile.FieldType.long)).before args0 about1 = true := code_word (m := ⟨2, 1⟩) (meth := k2m1) (c := k2c1) (by decide +kernel) rfl rfl rfl (by decide +kernel)
set_option maxRecDepth 65536 in
theorem w_c3 : (Jvm.Cond.code ({ cls := "com/example/strict_aspect/strictaspect/model/RangeType", name := "<init>", desc := "(JJ)V" } : Jvm.MethodName) prog_65_method_1_code (5 : Nat) (Option.none : Option Jvm.ClassFile.FieldType)).before args0 about1 = true := code_word (m := ⟨5, 0⟩) (meth := k5m0) (c := k5c0) (by decide +kernel) rfl rfl rfl (by decide +kernel)
set_option maxRecDepth 65536 in
theorem w_c4 : (Jvm.Cond.code ({ cls := "java/lang/Record", name := "<init>", desc := "()V" } : Jvm.MethodName) jdk_30_method_1_code (1 : Nat) (Option.none : Option Jvm.ClassFile.FieldType)).before args0 about1 = true := code_word (m := ⟨3, 0⟩) (meth := k3m0) (c := k3c0) (by decide +kernel) rfl rfl rfl (by decide +kernel)
set_option maxRecDepth 65536 in
theorem w_c5 : (Jvm.Cond.code ({ cls := "java/lang/Object", name := "<init>", desc := "()V" } : Jvm.MethodName) object_method_1_code (1 : Nat) (Option.none : Option Jvm.ClassFile.FieldType)).before args0 about1 = true := code_word (m := ⟨0, 0⟩) (meth := k0m0) (c := k0c0) (by decide +kernel) rfl rfl rfl (by decide +kernel)
set_option maxRecDepth 65536 in
theorem w_c6 : (Jvm.Cond.code ({ cls := "java/lang/Long", name := "compareUnsigned", desc := "(JJ)I" } : Jvm.MethodName) jdk_35_method_43_code (4 : Nat) (Option.some Jvm.ClassFile.FieldType.int)).before args0 about1 = true := code_word (m := ⟨11, 1⟩) (meth := k11m1) (c := k11c1) (by decide +kernel) rfl rfl rfl (by decide +kernel)
set_option maxRecDepth 65536 in
theorem w_c7 : (Jvm.Cond.code ({ cls := "java/lang/Long", name := "compare", desc := "(JJ)I" } : Jvm.MethodName) jdk_35_method_42_code (4 : Nat) (Option.some Jvm.ClassFile.FieldType.int)).before args0 about1 = true := code_word (m := ⟨11, 0⟩) (meth := k11m0) (c := k11c0) (by decide +kernel) rfl rfl rfl (by decide +kernel)
set_option maxRecDepth 65536 in
theorem w_c8 : (Jvm.Cond.code ({ cls := "com/example/strict_aspect/strictaspect/model/RangeType", name := "indexOf", desc := "(J)J" } : Jvm.MethodName) prog_65_method_5_code (3 : Nat) (Option.some Jvm.ClassFile.FieldType.long)).before args0 about1 = true := code_word (m := ⟨5, 1⟩) (meth := k5m1) (c := k5c1) (by decide +kernel) rfl rfl rfl (by decide +kernel)
def codes1 : List Jvm.Cond := [Jvm.Cond.code x code maxLocals ret, Jvm.Cond.code ({ cls := "java/lang/Math", name := "min", desc := "(JJ)J" } : Jvm.MethodName) jdk_29_method_70_code (4 : Nat) (Option.some Jvm.ClassFile.FieldType.long), Jvm.Cond.code ({ cls := "java/lang/Math", name := "max", desc := "(JJ)J" } : Jvm.MethodName) jdk_29_method_66_code (4 : Nat) (Option.some Jvm.ClassFile.FieldType.long), Jvm.Cond.code ({ cls := "com/example/strict_aspect/strictaspect/model/RangeType", name := "<init>", desc := "(JJ)V" } : Jvm.MethodName) prog_65_method_1_code (5 : Nat) (Option.none : Option Jvm.ClassFile.FieldType), Jvm.Cond.code ({ cls := "java/lang/Record", name := "<init>", desc := "()V" } : Jvm.MethodName) jdk_30_method_1_code (1 : Nat) (Option.none : Option Jvm.ClassFile.FieldType), Jvm.Cond.code ({ cls := "java/lang/Object", name := "<init>", desc := "()V" } : Jvm.MethodName) object_method_1_code (1 : Nat) (Option.none : Option Jvm.ClassFile.FieldType), Jvm.Cond.code ({ cls := "java/lang/Long", name := "compareUnsigned", desc := "(JJ)I" } : Jvm.MethodName) jdk_35_method_43_code (4 : Nat) (Option.some Jvm.ClassFile.FieldType.int), Jvm.Cond.code ({ cls := "java/lang/Long", name := "compare", desc := "(JJ)I" } : Jvm.MethodName) jdk_35_method_42_code (4 : Nat) (Option.some Jvm.ClassFile.FieldType.int), Jvm.Cond.code ({ cls := "com/example/strict_aspect/strictaspect/model/RangeType", name := "indexOf", desc := "(J)J" } : Jvm.MethodName) prog_65_method_5_code (3 : Nat) (Option.some Jvm.ClassFile.FieldType.long)]
set_option maxRecDepth 65536 in
theorem codes_eq : words1.filter isCode = codes1 := rfl
theorem w_codes : ∀ c ∈ words1.filter isCode, c.before args0 about1 = true := by
  rw [codes_eq]
  intro c hc
  simp only [codes1, List.mem_cons, List.not_mem_nil, or_false] at hc
  rcases hc with rfl | rfl | rfl | rfl | rfl | rfl | rfl | rfl | rfl
  · exact w_c0
  · exact w_c1
  · exact w_c2
  · exact w_c3
  · exact w_c4
  · exact w_c5
  · exact w_c6
  · exact w_c7
  · exact w_c8
set_option maxRecDepth 65536 in
theorem w_t1 : (words1.take 24).all (fun c => isCode c || c.before args0 about1) = true := by decide +kernel
set_option maxRecDepth 65536 in
theorem w_t2 : (words1.drop 24).all (fun c => isCode c || c.before args0 about1) = true := by decide +kernel
theorem w_tables : (allAtoms (Jvm.Cond.code x code maxLocals ret :: tables_1)).before args0 about1 = true := by
  rw [allAtoms_all]
  show words1.all (fun c => c.before args0 about1) = true
  refine all_split ?_ w_codes
  rw [← List.take_append_drop 24 words1, List.all_append, w_t1, w_t2]
  rfl
set_option maxRecDepth 65536 in
theorem w_case : (Jvm.Cond.and given_1 narrow_1).before args0 about1 = true := by decide +kernel
theorem w_applies : (headSpec (Jvm.Cond.code x code maxLocals ret :: tables_1) room_1).applies x e0.platform about1 = true :=
  (Spec.applies_iff w_frames).mpr ⟨w_running, w_runnable, w_alone, w_named, w_hears, w_ripe, w_room, w_tables⟩
theorem atStart : AtStart classFile x code maxLocals ret World_1 tables_1 room_1 Calls_1 rest_1 Pre_1 launch0 p0 e0 about1 theMethod args0 below0 :=
  ⟨lists_1, trivial, launch0.admits_env _ _ _, launch0.least_env, fairChoices_fair.cas, fairChoices_fair.clock, w_frames, w_args, w_heap, w_applies, trivial, trivial, w_case⟩
end start1
theorem witness_1 : WitnessClaimed_1 := ⟨start1.p0, start1.e0, start1.about1, start1.theMethod, start1.args0, start1.below0, start1.atStart⟩
end Jvm.Pilot.@@N@@
