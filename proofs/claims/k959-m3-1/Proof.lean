import JvmDerived
import JvmDerived.Pilot.@@N@@Statement
import JvmDerived.Pilot.@@N@@Code
set_option linter.unusedVariables false
set_option linter.unusedSimpArgs false
namespace Jvm.OwnGo
open Sem ClassFile Op Lib Jvm.Stand Jvm.Free Jvm.LawKit Jvm.RoadKit
/-- one instruction: where it stands, what it is, its length, the next pc -/
def I1 (code : ByteArray) (pc : Nat) (i : Instr) (len pc' : Nat) : Prop := decode code pc = .ok (i, len) ∧ pc + len = pc'
/-- a branch: besides, where it leads -/
def B1 (code : ByteArray) (pc : Nat) (i : Instr) (o : Int) (pcT pcF : Nat) : Prop := decode code pc = .ok (i, 3) ∧ pc + 3 = pcF ∧ 0 ≤ (pc : Int) + o ∧ ((pc : Int) + o).toNat = pcT
/-- what is fixed while a body runs -/
def Cx (p : Program) (s : State) (m : MethodId) (meth : Method) (c : Code) (Z : State) (code : ByteArray) (maxL : Nat) (own : String) (ret : Option FieldType) : Prop :=
  p.tables.exec = Jvm.exec ∧ c.code = code ∧ c.maxLocals = maxL ∧ Z.Warmed39 s.vm ∧ s.vm.findClass own = some m.cls ∧ meth.sig.returnType = ret ∧ meth.locks = false
/-- from the frame g, over every state that stands there with the heap h, the body ends, and ends in Q -/
def Go (p : Program) (l : Launch) (e : Env) (R : Room) (s : State) (m : MethodId) (args : Array Value) (below : List Frame) (meth : Method) (c : Code) (n0 K N : Nat) (Q : Option Value → Heap → Prop) (h : Heap) (ck cn : Nat) (g : JFrame) : Prop :=
  ∀ (T : State) (locs : List Loc), Stand p l e R s m args below meth c T locs ck cn → T.heap = h → Fr n0 locs →
    ∃ s₂ o, Steps p.tables e below (T.setTop g) s₂ ∧ s₂.status = .running ∧ Ended s₂ below o ∧ ∃ v L, o = .returned v ∧ (Q v s₂.heap ∧ Fr n0 L) ∧ FrameEnd s o s₂ L K N
/-- a body's contract: from these arguments over this heap it returns as Q says, and writes nothing below n0 -/
def Ctr (l : Launch) (Z : State) (y : MethodName) (code : ByteArray) (maxL : Nat) (ret : Option FieldType) (rm : Room) (as' : Array Value) (h0 : Heap) (n0 : Nat) (Q : Option Value → Heap → Prop) : Prop :=
  ∀ ws : List Cond, MetFree l y (head1 (Cond.code y code maxL ret :: ws) rm) (fun a U => a = as' ∧ Z.Warmed39 U.vm ∧ U.heap = h0) (fun _ _ _ _ _ => True)
    (fun _ U o U' => ∃ v L, o = .returned v ∧ (Q v U'.heap ∧ Fr n0 L) ∧ FrameEnd U o U' L rm.cells rm.slots)
section
variable {p : Program} {l : Launch} {e : Env} {R : Room} {s : State} {m : MethodId} {args : Array Value} {below : List Frame} {meth : Method} {c : Code} {n0 K N : Nat} {Q : Option Value → Heap → Prop} {h : Heap} {ck cn : Nat} {Z : State} {a0 : Array Value} {code : ByteArray} {maxL : Nat} {own : String} {ret : Option FieldType}
theorem Ctr.of_go {y : MethodName} {rm : Room} {as' : Array Value} {h0 : Heap} {Ls : Array Slot} (hpl : plainFor y = true) (hef : ∀ m, entryFrame m as' maxL = mkF m 0 Ls [])
    (hgo : ∀ p e s m below meth c, meth.name = y.name → Cx p s m meth c Z code maxL y.cls ret → Go p l e rm s m as' below meth c n0 rm.cells rm.slots Q h0 0 0 (mkF m 0 Ls [])) : Ctr l Z y code maxL ret rm as' h0 n0 Q := fun ws => by
  refine MetFree.of_bodySF hpl hisR ?_
  intro p e s m args below meth c s₁ Bd hml0 hP hK
  obtain ⟨rfl, hZ, hh⟩ := hP
  have X0 : Stand p l e rm s m args below meth c s₁ [] 0 0 := Stand.of_body Bd
  have e0 : s₁.heap = h0 := by rw [← hh, Bd.state]; rfl
  obtain ⟨s₂, o, g1, g2, g3, v, L, g4, g5, g6⟩ := hgo p e s m below meth c (name_of_methodNamed Bd.named Bd.method).1 ⟨Bd.exec, Bd.bytes, hml0, hZ, findClass_of_methodNamed Bd.named, Bd.returns, Bd.notSynchronized⟩ s₁ [] X0 e0 (Fr.nil n0)
  exact ⟨s₂, o, castTop (hef m) g1, g2, g3, v, L, g4, g5, g6⟩
theorem Go.step {g g' : JFrame} (st : ∀ (T : State) (locs : List Loc), Stand p l e R s m args below meth c T locs ck cn → T.heap = h → ∀ target, Steps p.tables e below (T.setTop g') target → Steps p.tables e below (T.setTop g) target)
    (k : Go p l e R s m args below meth c n0 K N Q h ck cn g') : Go p l e R s m args below meth c n0 K N Q h ck cn g := fun T locs X eT hN => by
  obtain ⟨s₂, o, h1, r⟩ := k T locs X eT hN
  exact ⟨s₂, o, st T locs X eT _ h1, r⟩
/-- a step that moves the state: heap, counts -/
theorem Go.move {g g' : JFrame} {h' : Heap} {ck' cn' : Nat} {T : State} {locs : List Loc} (hN : Fr n0 locs) {T' : State} {locs' : List Loc} (X' : Stand p l e R s m args below meth c T' locs' ck' cn') (e' : T'.heap = h') (hN' : Fr n0 locs')
    (st : ∀ target, Steps p.tables e below (T'.setTop g') target → Steps p.tables e below (T.setTop g) target) (k : Go p l e R s m args below meth c n0 K N Q h' ck' cn' g') :
    ∃ s₂ o, Steps p.tables e below (T.setTop g) s₂ ∧ s₂.status = .running ∧ Ended s₂ below o ∧ ∃ v L, o = .returned v ∧ (Q v s₂.heap ∧ Fr n0 L) ∧ FrameEnd s o s₂ L K N := by
  obtain ⟨s₂, o, h1, r⟩ := k T' locs' X' e' hN'
  exact ⟨s₂, o, st _ h1, r⟩
theorem Go.join {g : JFrame} (g' : JFrame) (J : Go p l e R s m args below meth c n0 K N Q h ck cn g') (k : Go p l e R s m args below meth c n0 K N Q h ck cn g' → Go p l e R s m args below meth c n0 K N Q h ck cn g) : Go p l e R s m args below meth c n0 K N Q h ck cn g := k J
theorem Go.cast {g g' : JFrame} (k : Go p l e R s m args below meth c n0 K N Q h ck cn g') (q : g = g') : Go p l e R s m args below meth c n0 K N Q h ck cn g := q ▸ k
theorem Go.more {g : JFrame} {ck' cn' : Nat} (hc : ck ≤ ck') (hs : cn ≤ cn') (k : Go p l e R s m args below meth c n0 K N Q h ck' cn' g) : Go p l e R s m args below meth c n0 K N Q h ck cn g := fun T locs X eT hN => k T locs (X.more hc hs) eT hN
theorem Go.heap {g : JFrame} {h' : Heap} (q : h' = h) (k : Go p l e R s m args below meth c n0 K N Q h' ck cn g) : Go p l e R s m args below meth c n0 K N Q h ck cn g := q ▸ k
theorem Go.some' {v : Value} {pc : Nat} {Ls : Array Slot} {st : List Value} (k : Go p l e R s m args below meth c n0 K N Q h ck cn (mkF m pc Ls (v :: st))) : Go p l e R s m args below meth c n0 K N Q h ck cn (mkF m pc Ls ((some v).toList ++ st)) := k
theorem Go.none' {pc : Nat} {Ls : Array Slot} {st : List Value} (k : Go p l e R s m args below meth c n0 K N Q h ck cn (mkF m pc Ls st)) : Go p l e R s m args below meth c n0 K N Q h ck cn (mkF m pc Ls ((none : Option Value).toList ++ st)) := k
theorem g_iadd (C : Cx p s m meth c Z code maxL own ret) {pc pc' : Nat} {Ls : Array Slot} {st : List Value} {x y : Int32} (hd : I1 code pc (.iadd) 1 pc') (k : Go p l e R s m args below meth c n0 K N Q h ck cn (mkF m pc' Ls (.int (x + y) :: st))) : Go p l e R s m args below meth c n0 K N Q h ck cn (mkF m pc Ls (.int y :: .int x :: st)) := by
  obtain ⟨hd, rfl⟩ := hd
  exact Go.step (fun T locs X _ t k => XS.iadd X.here C.1 rfl (hb C.2.1 hd) rfl k) k
theorem g_isub (C : Cx p s m meth c Z code maxL own ret) {pc pc' : Nat} {Ls : Array Slot} {st : List Value} {x y : Int32} (hd : I1 code pc (.isub) 1 pc') (k : Go p l e R s m args below meth c n0 K N Q h ck cn (mkF m pc' Ls (.int (x - y) :: st))) : Go p l e R s m args below meth c n0 K N Q h ck cn (mkF m pc Ls (.int y :: .int x :: st)) := by
  obtain ⟨hd, rfl⟩ := hd
  exact Go.step (fun T locs X _ t k => XS.isub X.here C.1 rfl (hb C.2.1 hd) rfl k) k
theorem g_imul (C : Cx p s m meth c Z code maxL own ret) {pc pc' : Nat} {Ls : Array Slot} {st : List Value} {x y : Int32} (hd : I1 code pc (.imul) 1 pc') (k : Go p l e R s m args below meth c n0 K N Q h ck cn (mkF m pc' Ls (.int (x * y) :: st))) : Go p l e R s m args below meth c n0 K N Q h ck cn (mkF m pc Ls (.int y :: .int x :: st)) := by
  obtain ⟨hd, rfl⟩ := hd
  exact Go.step (fun T locs X _ t k => XS.imul X.here C.1 rfl (hb C.2.1 hd) rfl k) k
theorem g_iand (C : Cx p s m meth c Z code maxL own ret) {pc pc' : Nat} {Ls : Array Slot} {st : List Value} {x y : Int32} (hd : I1 code pc (.iand) 1 pc') (k : Go p l e R s m args below meth c n0 K N Q h ck cn (mkF m pc' Ls (.int (x &&& y) :: st))) : Go p l e R s m args below meth c n0 K N Q h ck cn (mkF m pc Ls (.int y :: .int x :: st)) := by
  obtain ⟨hd, rfl⟩ := hd
  exact Go.step (fun T locs X _ t k => XS.iand X.here C.1 rfl (hb C.2.1 hd) rfl k) k
theorem g_ior (C : Cx p s m meth c Z code maxL own ret) {pc pc' : Nat} {Ls : Array Slot} {st : List Value} {x y : Int32} (hd : I1 code pc (.ior) 1 pc') (k : Go p l e R s m args below meth c n0 K N Q h ck cn (mkF m pc' Ls (.int (x ||| y) :: st))) : Go p l e R s m args below meth c n0 K N Q h ck cn (mkF m pc Ls (.int y :: .int x :: st)) := by
  obtain ⟨hd, rfl⟩ := hd
  exact Go.step (fun T locs X _ t k => XS.ior X.here C.1 rfl (hb C.2.1 hd) rfl k) k
theorem g_ixor (C : Cx p s m meth c Z code maxL own ret) {pc pc' : Nat} {Ls : Array Slot} {st : List Value} {x y : Int32} (hd : I1 code pc (.ixor) 1 pc') (k : Go p l e R s m args below meth c n0 K N Q h ck cn (mkF m pc' Ls (.int (x ^^^ y) :: st))) : Go p l e R s m args below meth c n0 K N Q h ck cn (mkF m pc Ls (.int y :: .int x :: st)) := by
  obtain ⟨hd, rfl⟩ := hd
  exact Go.step (fun T locs X _ t k => XS.ixor X.here C.1 rfl (hb C.2.1 hd) rfl k) k
theorem g_ishl (C : Cx p s m meth c Z code maxL own ret) {pc pc' : Nat} {Ls : Array Slot} {st : List Value} {x y : Int32} (hd : I1 code pc (.ishl) 1 pc') (k : Go p l e R s m args below meth c n0 K N Q h ck cn (mkF m pc' Ls (.int (x <<< (y &&& 31)) :: st))) : Go p l e R s m args below meth c n0 K N Q h ck cn (mkF m pc Ls (.int y :: .int x :: st)) := by
  obtain ⟨hd, rfl⟩ := hd
  exact Go.step (fun T locs X _ t k => XS.ishl X.here C.1 rfl (hb C.2.1 hd) rfl k) k
theorem g_ishr (C : Cx p s m meth c Z code maxL own ret) {pc pc' : Nat} {Ls : Array Slot} {st : List Value} {x y : Int32} (hd : I1 code pc (.ishr) 1 pc') (k : Go p l e R s m args below meth c n0 K N Q h ck cn (mkF m pc' Ls (.int (x >>> (y &&& 31)) :: st))) : Go p l e R s m args below meth c n0 K N Q h ck cn (mkF m pc Ls (.int y :: .int x :: st)) := by
  obtain ⟨hd, rfl⟩ := hd
  exact Go.step (fun T locs X _ t k => XS.ishr X.here C.1 rfl (hb C.2.1 hd) rfl k) k
theorem g_iushr (C : Cx p s m meth c Z code maxL own ret) {pc pc' : Nat} {Ls : Array Slot} {st : List Value} {x y : Int32} (hd : I1 code pc (.iushr) 1 pc') (k : Go p l e R s m args below meth c n0 K N Q h ck cn (mkF m pc' Ls (.int ((x.toUInt32 >>> (y &&& 31).toUInt32).toInt32) :: st))) : Go p l e R s m args below meth c n0 K N Q h ck cn (mkF m pc Ls (.int y :: .int x :: st)) := by
  obtain ⟨hd, rfl⟩ := hd
  exact Go.step (fun T locs X _ t k => XS.iushr X.here C.1 rfl (hb C.2.1 hd) rfl k) k
theorem g_ladd (C : Cx p s m meth c Z code maxL own ret) {pc pc' : Nat} {Ls : Array Slot} {st : List Value} {x y : Int64} (hd : I1 code pc (.ladd) 1 pc') (k : Go p l e R s m args below meth c n0 K N Q h ck cn (mkF m pc' Ls (.long (x + y) :: st))) : Go p l e R s m args below meth c n0 K N Q h ck cn (mkF m pc Ls (.long y :: .long x :: st)) := by
  obtain ⟨hd, rfl⟩ := hd
  exact Go.step (fun T locs X _ t k => XS.ladd X.here C.1 rfl (hb C.2.1 hd) rfl k) k
theorem g_lsub (C : Cx p s m meth c Z code maxL own ret) {pc pc' : Nat} {Ls : Array Slot} {st : List Value} {x y : Int64} (hd : I1 code pc (.lsub) 1 pc') (k : Go p l e R s m args below meth c n0 K N Q h ck cn (mkF m pc' Ls (.long (x - y) :: st))) : Go p l e R s m args below meth c n0 K N Q h ck cn (mkF m pc Ls (.long y :: .long x :: st)) := by
  obtain ⟨hd, rfl⟩ := hd
  exact Go.step (fun T locs X _ t k => XS.lsub X.here C.1 rfl (hb C.2.1 hd) rfl k) k
theorem g_lmul (C : Cx p s m meth c Z code maxL own ret) {pc pc' : Nat} {Ls : Array Slot} {st : List Value} {x y : Int64} (hd : I1 code pc (.lmul) 1 pc') (k : Go p l e R s m args below meth c n0 K N Q h ck cn (mkF m pc' Ls (.long (x * y) :: st))) : Go p l e R s m args below meth c n0 K N Q h ck cn (mkF m pc Ls (.long y :: .long x :: st)) := by
  obtain ⟨hd, rfl⟩ := hd
  exact Go.step (fun T locs X _ t k => XS.lmul X.here C.1 rfl (hb C.2.1 hd) rfl k) k
theorem g_land (C : Cx p s m meth c Z code maxL own ret) {pc pc' : Nat} {Ls : Array Slot} {st : List Value} {x y : Int64} (hd : I1 code pc (.land) 1 pc') (k : Go p l e R s m args below meth c n0 K N Q h ck cn (mkF m pc' Ls (.long (x &&& y) :: st))) : Go p l e R s m args below meth c n0 K N Q h ck cn (mkF m pc Ls (.long y :: .long x :: st)) := by
  obtain ⟨hd, rfl⟩ := hd
  exact Go.step (fun T locs X _ t k => XS.land X.here C.1 rfl (hb C.2.1 hd) rfl k) k
theorem g_lor (C : Cx p s m meth c Z code maxL own ret) {pc pc' : Nat} {Ls : Array Slot} {st : List Value} {x y : Int64} (hd : I1 code pc (.lor) 1 pc') (k : Go p l e R s m args below meth c n0 K N Q h ck cn (mkF m pc' Ls (.long (x ||| y) :: st))) : Go p l e R s m args below meth c n0 K N Q h ck cn (mkF m pc Ls (.long y :: .long x :: st)) := by
  obtain ⟨hd, rfl⟩ := hd
  exact Go.step (fun T locs X _ t k => XS.lor X.here C.1 rfl (hb C.2.1 hd) rfl k) k
theorem g_lxor (C : Cx p s m meth c Z code maxL own ret) {pc pc' : Nat} {Ls : Array Slot} {st : List Value} {x y : Int64} (hd : I1 code pc (.lxor) 1 pc') (k : Go p l e R s m args below meth c n0 K N Q h ck cn (mkF m pc' Ls (.long (x ^^^ y) :: st))) : Go p l e R s m args below meth c n0 K N Q h ck cn (mkF m pc Ls (.long y :: .long x :: st)) := by
  obtain ⟨hd, rfl⟩ := hd
  exact Go.step (fun T locs X _ t k => XS.lxor X.here C.1 rfl (hb C.2.1 hd) rfl k) k
theorem g_lshl (C : Cx p s m meth c Z code maxL own ret) {pc pc' : Nat} {Ls : Array Slot} {st : List Value} {x : Int64} {y : Int32} (hd : I1 code pc (.lshl) 1 pc') (k : Go p l e R s m args below meth c n0 K N Q h ck cn (mkF m pc' Ls (.long (x <<< (y &&& 0x3f).toInt64) :: st))) : Go p l e R s m args below meth c n0 K N Q h ck cn (mkF m pc Ls (.int y :: .long x :: st)) := by
  obtain ⟨hd, rfl⟩ := hd
  exact Go.step (fun T locs X _ t k => XS.lshl X.here C.1 rfl (hb C.2.1 hd) rfl k) k
theorem g_lshr (C : Cx p s m meth c Z code maxL own ret) {pc pc' : Nat} {Ls : Array Slot} {st : List Value} {x : Int64} {y : Int32} (hd : I1 code pc (.lshr) 1 pc') (k : Go p l e R s m args below meth c n0 K N Q h ck cn (mkF m pc' Ls (.long (x >>> (y &&& 0x3f).toInt64) :: st))) : Go p l e R s m args below meth c n0 K N Q h ck cn (mkF m pc Ls (.int y :: .long x :: st)) := by
  obtain ⟨hd, rfl⟩ := hd
  exact Go.step (fun T locs X _ t k => XS.lshr X.here C.1 rfl (hb C.2.1 hd) rfl k) k
theorem g_lushr (C : Cx p s m meth c Z code maxL own ret) {pc pc' : Nat} {Ls : Array Slot} {st : List Value} {x : Int64} {y : Int32} (hd : I1 code pc (.lushr) 1 pc') (k : Go p l e R s m args below meth c n0 K N Q h ck cn (mkF m pc' Ls (.long ((x.toUInt64 >>> (y &&& 0x3f).toInt64.toUInt64).toInt64) :: st))) : Go p l e R s m args below meth c n0 K N Q h ck cn (mkF m pc Ls (.int y :: .long x :: st)) := by
  obtain ⟨hd, rfl⟩ := hd
  exact Go.step (fun T locs X _ t k => XS.lushr X.here C.1 rfl (hb C.2.1 hd) rfl k) k
theorem g_lcmp (C : Cx p s m meth c Z code maxL own ret) {pc pc' : Nat} {Ls : Array Slot} {st : List Value} {x y : Int64} (hd : I1 code pc (.lcmp) 1 pc') (k : Go p l e R s m args below meth c n0 K N Q h ck cn (mkF m pc' Ls (.int (lcmpW x y) :: st))) : Go p l e R s m args below meth c n0 K N Q h ck cn (mkF m pc Ls (.long y :: .long x :: st)) := by
  obtain ⟨hd, rfl⟩ := hd
  exact Go.step (fun T locs X _ t k => XS.lcmp X.here C.1 rfl (hb C.2.1 hd) rfl k) k
theorem g_ineg (C : Cx p s m meth c Z code maxL own ret) {pc pc' : Nat} {Ls : Array Slot} {st : List Value} {x : Int32} (hd : I1 code pc (.ineg) 1 pc') (k : Go p l e R s m args below meth c n0 K N Q h ck cn (mkF m pc' Ls (.int (-x) :: st))) : Go p l e R s m args below meth c n0 K N Q h ck cn (mkF m pc Ls (.int x :: st)) := by
  obtain ⟨hd, rfl⟩ := hd
  exact Go.step (fun T locs X _ t k => XS.ineg X.here C.1 rfl (hb C.2.1 hd) rfl k) k
theorem g_lneg (C : Cx p s m meth c Z code maxL own ret) {pc pc' : Nat} {Ls : Array Slot} {st : List Value} {x : Int64} (hd : I1 code pc (.lneg) 1 pc') (k : Go p l e R s m args below meth c n0 K N Q h ck cn (mkF m pc' Ls (.long (-x) :: st))) : Go p l e R s m args below meth c n0 K N Q h ck cn (mkF m pc Ls (.long x :: st)) := by
  obtain ⟨hd, rfl⟩ := hd
  exact Go.step (fun T locs X _ t k => XS.lneg X.here C.1 rfl (hb C.2.1 hd) rfl k) k
theorem g_i2l (C : Cx p s m meth c Z code maxL own ret) {pc pc' : Nat} {Ls : Array Slot} {st : List Value} {x : Int32} (hd : I1 code pc (.i2l) 1 pc') (k : Go p l e R s m args below meth c n0 K N Q h ck cn (mkF m pc' Ls (.long x.toInt64 :: st))) : Go p l e R s m args below meth c n0 K N Q h ck cn (mkF m pc Ls (.int x :: st)) := by
  obtain ⟨hd, rfl⟩ := hd
  exact Go.step (fun T locs X _ t k => XS.i2l X.here C.1 rfl (hb C.2.1 hd) rfl k) k
theorem g_l2i (C : Cx p s m meth c Z code maxL own ret) {pc pc' : Nat} {Ls : Array Slot} {st : List Value} {x : Int64} (hd : I1 code pc (.l2i) 1 pc') (k : Go p l e R s m args below meth c n0 K N Q h ck cn (mkF m pc' Ls (.int x.toInt32 :: st))) : Go p l e R s m args below meth c n0 K N Q h ck cn (mkF m pc Ls (.long x :: st)) := by
  obtain ⟨hd, rfl⟩ := hd
  exact Go.step (fun T locs X _ t k => XS.l2i X.here C.1 rfl (hb C.2.1 hd) rfl k) k
theorem g_i2b (C : Cx p s m meth c Z code maxL own ret) {pc pc' : Nat} {Ls : Array Slot} {st : List Value} {x : Int32} (hd : I1 code pc (.i2b) 1 pc') (k : Go p l e R s m args below meth c n0 K N Q h ck cn (mkF m pc' Ls (.int x.toInt8.toInt32 :: st))) : Go p l e R s m args below meth c n0 K N Q h ck cn (mkF m pc Ls (.int x :: st)) := by
  obtain ⟨hd, rfl⟩ := hd
  exact Go.step (fun T locs X _ t k => XS.i2b X.here C.1 rfl (hb C.2.1 hd) rfl k) k
theorem g_i2s (C : Cx p s m meth c Z code maxL own ret) {pc pc' : Nat} {Ls : Array Slot} {st : List Value} {x : Int32} (hd : I1 code pc (.i2s) 1 pc') (k : Go p l e R s m args below meth c n0 K N Q h ck cn (mkF m pc' Ls (.int x.toInt16.toInt32 :: st))) : Go p l e R s m args below meth c n0 K N Q h ck cn (mkF m pc Ls (.int x :: st)) := by
  obtain ⟨hd, rfl⟩ := hd
  exact Go.step (fun T locs X _ t k => XS.i2s X.here C.1 rfl (hb C.2.1 hd) rfl k) k
theorem g_i2c (C : Cx p s m meth c Z code maxL own ret) {pc pc' : Nat} {Ls : Array Slot} {st : List Value} {x : Int32} (hd : I1 code pc (.i2c) 1 pc') (k : Go p l e R s m args below meth c n0 K N Q h ck cn (mkF m pc' Ls (.int x.toUInt32.toUInt16.toUInt32.toInt32 :: st))) : Go p l e R s m args below meth c n0 K N Q h ck cn (mkF m pc Ls (.int x :: st)) := by
  obtain ⟨hd, rfl⟩ := hd
  exact Go.step (fun T locs X _ t k => XS.i2c X.here C.1 rfl (hb C.2.1 hd) rfl k) k
theorem g_idiv (C : Cx p s m meth c Z code maxL own ret) {pc pc' : Nat} {Ls : Array Slot} {st : List Value} {x y : Int32} (hd : I1 code pc (.idiv) 1 pc') (hy : y ≠ 0) (k : Go p l e R s m args below meth c n0 K N Q h ck cn (mkF m pc' Ls (.int (x / y) :: st))) : Go p l e R s m args below meth c n0 K N Q h ck cn (mkF m pc Ls (.int y :: .int x :: st)) := by
  obtain ⟨hd, rfl⟩ := hd
  exact Go.step (fun T locs X _ t k => XS.idiv X.here C.1 rfl (hb C.2.1 hd) rfl hy k) k
theorem g_ldiv (C : Cx p s m meth c Z code maxL own ret) {pc pc' : Nat} {Ls : Array Slot} {st : List Value} {x y : Int64} (hd : I1 code pc (.ldiv) 1 pc') (hy : y ≠ 0) (k : Go p l e R s m args below meth c n0 K N Q h ck cn (mkF m pc' Ls (.long (x / y) :: st))) : Go p l e R s m args below meth c n0 K N Q h ck cn (mkF m pc Ls (.long y :: .long x :: st)) := by
  obtain ⟨hd, rfl⟩ := hd
  exact Go.step (fun T locs X _ t k => XS.ldiv X.here C.1 rfl (hb C.2.1 hd) rfl hy k) k
theorem g_irem (C : Cx p s m meth c Z code maxL own ret) {pc pc' : Nat} {Ls : Array Slot} {st : List Value} {x y : Int32} (hd : I1 code pc .irem 1 pc') (hy : y ≠ 0) (k : Go p l e R s m args below meth c n0 K N Q h ck cn (mkF m pc' Ls (.int (x % y) :: st))) : Go p l e R s m args below meth c n0 K N Q h ck cn (mkF m pc Ls (.int y :: .int x :: st)) := by
  obtain ⟨hd, rfl⟩ := hd
  exact Go.step (fun T locs X _ t k => iremM X C.1 rfl (hb C.2.1 hd) rfl hy k) k
theorem g_lrem (C : Cx p s m meth c Z code maxL own ret) {pc pc' : Nat} {Ls : Array Slot} {st : List Value} {x y : Int64} (hd : I1 code pc .lrem 1 pc') (hy : y ≠ 0) (k : Go p l e R s m args below meth c n0 K N Q h ck cn (mkF m pc' Ls (.long (x % y) :: st))) : Go p l e R s m args below meth c n0 K N Q h ck cn (mkF m pc Ls (.long y :: .long x :: st)) := by
  obtain ⟨hd, rfl⟩ := hd
  exact Go.step (fun T locs X _ t k => XS.lrem X.here C.1 rfl (hb C.2.1 hd) rfl hy (by rw [lrem_mod]; exact k)) k
theorem g_iloadN (C : Cx p s m meth c Z code maxL own ret) {pc pc' : Nat} {Ls : Array Slot} {st : List Value} {k : Fin 4} {v : Int32} (hd : I1 code pc (.iload_n k) 1 pc') (hl : Ls[k.val]? = some (.val (.int v))) (k : Go p l e R s m args below meth c n0 K N Q h ck cn (mkF m pc' Ls (.int v :: st))) : Go p l e R s m args below meth c n0 K N Q h ck cn (mkF m pc Ls (st)) := by
  obtain ⟨hd, rfl⟩ := hd
  exact Go.step (fun T locs X _ t k => XS.iloadN X.here C.1 rfl (hb C.2.1 hd) hl k) k
theorem g_iload (C : Cx p s m meth c Z code maxL own ret) {pc pc' : Nat} {Ls : Array Slot} {st : List Value} {k : Nat} {v : Int32} (hd : I1 code pc (.iload k) 2 pc') (hl : Ls[k]? = some (.val (.int v))) (k : Go p l e R s m args below meth c n0 K N Q h ck cn (mkF m pc' Ls (.int v :: st))) : Go p l e R s m args below meth c n0 K N Q h ck cn (mkF m pc Ls (st)) := by
  obtain ⟨hd, rfl⟩ := hd
  exact Go.step (fun T locs X _ t k => XS.iload X.here C.1 rfl (hb C.2.1 hd) hl k) k
theorem g_istoreN (C : Cx p s m meth c Z code maxL own ret) {pc pc' : Nat} {Ls : Array Slot} {st : List Value} {k : Fin 4} {x : Int32} {Ls' : Array Slot} (hd : I1 code pc (.istore_n k) 1 pc') (hl : storeLocals Ls k.val (.int x) = some Ls') (k : Go p l e R s m args below meth c n0 K N Q h ck cn (mkF m pc' Ls' (st))) : Go p l e R s m args below meth c n0 K N Q h ck cn (mkF m pc Ls (.int x :: st)) := by
  obtain ⟨hd, rfl⟩ := hd
  exact Go.step (fun T locs X _ t k => XS.istoreN X.here C.1 rfl (hb C.2.1 hd) rfl hl k) k
theorem g_istore (C : Cx p s m meth c Z code maxL own ret) {pc pc' : Nat} {Ls : Array Slot} {st : List Value} {k : Nat} {x : Int32} {Ls' : Array Slot} (hd : I1 code pc (.istore k) 2 pc') (hl : storeLocals Ls k (.int x) = some Ls') (k : Go p l e R s m args below meth c n0 K N Q h ck cn (mkF m pc' Ls' (st))) : Go p l e R s m args below meth c n0 K N Q h ck cn (mkF m pc Ls (.int x :: st)) := by
  obtain ⟨hd, rfl⟩ := hd
  exact Go.step (fun T locs X _ t k => XS.istore X.here C.1 rfl (hb C.2.1 hd) rfl hl k) k
theorem g_lloadN (C : Cx p s m meth c Z code maxL own ret) {pc pc' : Nat} {Ls : Array Slot} {st : List Value} {k : Fin 4} {v : Int64} (hd : I1 code pc (.lload_n k) 1 pc') (hl : Ls[k.val]? = some (.val (.long v))) (k : Go p l e R s m args below meth c n0 K N Q h ck cn (mkF m pc' Ls (.long v :: st))) : Go p l e R s m args below meth c n0 K N Q h ck cn (mkF m pc Ls (st)) := by
  obtain ⟨hd, rfl⟩ := hd
  exact Go.step (fun T locs X _ t k => XS.lloadN X.here C.1 rfl (hb C.2.1 hd) hl k) k
theorem g_lload (C : Cx p s m meth c Z code maxL own ret) {pc pc' : Nat} {Ls : Array Slot} {st : List Value} {k : Nat} {v : Int64} (hd : I1 code pc (.lload k) 2 pc') (hl : Ls[k]? = some (.val (.long v))) (k : Go p l e R s m args below meth c n0 K N Q h ck cn (mkF m pc' Ls (.long v :: st))) : Go p l e R s m args below meth c n0 K N Q h ck cn (mkF m pc Ls (st)) := by
  obtain ⟨hd, rfl⟩ := hd
  exact Go.step (fun T locs X _ t k => XS.lload X.here C.1 rfl (hb C.2.1 hd) hl k) k
theorem g_lstoreN (C : Cx p s m meth c Z code maxL own ret) {pc pc' : Nat} {Ls : Array Slot} {st : List Value} {k : Fin 4} {x : Int64} {Ls' : Array Slot} (hd : I1 code pc (.lstore_n k) 1 pc') (hl : storeLocals Ls k.val (.long x) = some Ls') (k : Go p l e R s m args below meth c n0 K N Q h ck cn (mkF m pc' Ls' (st))) : Go p l e R s m args below meth c n0 K N Q h ck cn (mkF m pc Ls (.long x :: st)) := by
  obtain ⟨hd, rfl⟩ := hd
  exact Go.step (fun T locs X _ t k => XS.lstoreN X.here C.1 rfl (hb C.2.1 hd) rfl hl k) k
theorem g_lstore (C : Cx p s m meth c Z code maxL own ret) {pc pc' : Nat} {Ls : Array Slot} {st : List Value} {k : Nat} {x : Int64} {Ls' : Array Slot} (hd : I1 code pc (.lstore k) 2 pc') (hl : storeLocals Ls k (.long x) = some Ls') (k : Go p l e R s m args below meth c n0 K N Q h ck cn (mkF m pc' Ls' (st))) : Go p l e R s m args below meth c n0 K N Q h ck cn (mkF m pc Ls (.long x :: st)) := by
  obtain ⟨hd, rfl⟩ := hd
  exact Go.step (fun T locs X _ t k => XS.lstore X.here C.1 rfl (hb C.2.1 hd) rfl hl k) k
theorem g_aloadN (C : Cx p s m meth c Z code maxL own ret) {pc pc' : Nat} {Ls : Array Slot} {st : List Value} {k : Fin 4} {v : Value} (hd : I1 code pc (.aload_n k) 1 pc') (hl : Ls[k.val]? = some (.val v)) (hv : v.isRef = true) (k : Go p l e R s m args below meth c n0 K N Q h ck cn (mkF m pc' Ls (v :: st))) : Go p l e R s m args below meth c n0 K N Q h ck cn (mkF m pc Ls (st)) := by
  obtain ⟨hd, rfl⟩ := hd
  exact Go.step (fun T locs X _ t k => XS.aloadN X.here C.1 rfl (hb C.2.1 hd) hl hv k) k
theorem g_aload (C : Cx p s m meth c Z code maxL own ret) {pc pc' : Nat} {Ls : Array Slot} {st : List Value} {k : Nat} {v : Value} (hd : I1 code pc (.aload k) 2 pc') (hl : Ls[k]? = some (.val v)) (hv : v.isRef = true) (k : Go p l e R s m args below meth c n0 K N Q h ck cn (mkF m pc' Ls (v :: st))) : Go p l e R s m args below meth c n0 K N Q h ck cn (mkF m pc Ls (st)) := by
  obtain ⟨hd, rfl⟩ := hd
  exact Go.step (fun T locs X _ t k => XS.aload X.here C.1 rfl (hb C.2.1 hd) hl hv k) k
theorem g_astoreN (C : Cx p s m meth c Z code maxL own ret) {pc pc' : Nat} {Ls : Array Slot} {st : List Value} {k : Fin 4} {x : Value} {Ls' : Array Slot} (hd : I1 code pc (.astore_n k) 1 pc') (hv : x.isRef = true) (hl : storeLocals Ls k.val x = some Ls') (k : Go p l e R s m args below meth c n0 K N Q h ck cn (mkF m pc' Ls' (st))) : Go p l e R s m args below meth c n0 K N Q h ck cn (mkF m pc Ls (x :: st)) := by
  obtain ⟨hd, rfl⟩ := hd
  exact Go.step (fun T locs X _ t k => XS.astoreN X.here C.1 rfl (hb C.2.1 hd) rfl hv hl k) k
theorem g_astore (C : Cx p s m meth c Z code maxL own ret) {pc pc' : Nat} {Ls : Array Slot} {st : List Value} {k : Nat} {x : Value} {Ls' : Array Slot} (hd : I1 code pc (.astore k) 2 pc') (hv : x.isRef = true) (hl : storeLocals Ls k x = some Ls') (k : Go p l e R s m args below meth c n0 K N Q h ck cn (mkF m pc' Ls' (st))) : Go p l e R s m args below meth c n0 K N Q h ck cn (mkF m pc Ls (x :: st)) := by
  obtain ⟨hd, rfl⟩ := hd
  exact Go.step (fun T locs X _ t k => XS.astore X.here C.1 rfl (hb C.2.1 hd) rfl hv hl k) k
theorem g_iinc (C : Cx p s m meth c Z code maxL own ret) {pc pc' : Nat} {Ls : Array Slot} {st : List Value} {k : Nat} {cst : Int} {x : Int32} {Ls' : Array Slot} (hd : I1 code pc (.iinc k cst) 3 pc') (hl : Ls[k]? = some (.val (.int x))) (hl' : storeLocals Ls k (.int (x + Int32.ofInt cst)) = some Ls') (k : Go p l e R s m args below meth c n0 K N Q h ck cn (mkF m pc' Ls' (st))) : Go p l e R s m args below meth c n0 K N Q h ck cn (mkF m pc Ls (st)) := by
  obtain ⟨hd, rfl⟩ := hd
  exact Go.step (fun T locs X _ t k => XS.iinc X.here C.1 rfl (hb C.2.1 hd) hl hl' k) k
theorem g_iconst (C : Cx p s m meth c Z code maxL own ret) {pc pc' : Nat} {Ls : Array Slot} {st : List Value} {i : Int} (v : Int32) (hd : I1 code pc (.iconst i) 1 pc') (hv : Int32.ofInt i = v) (k : Go p l e R s m args below meth c n0 K N Q h ck cn (mkF m pc' Ls (.int v :: st))) : Go p l e R s m args below meth c n0 K N Q h ck cn (mkF m pc Ls st) := by
  obtain ⟨hd, rfl⟩ := hd
  subst hv
  exact Go.step (fun T locs X _ t k => XS.iconst X.here C.1 rfl (hb C.2.1 hd) k) k
theorem g_bipush (C : Cx p s m meth c Z code maxL own ret) {pc pc' : Nat} {Ls : Array Slot} {st : List Value} {i : Int} (v : Int32) (hd : I1 code pc (.bipush i) 2 pc') (hv : (Int8.ofInt i).toInt32 = v) (k : Go p l e R s m args below meth c n0 K N Q h ck cn (mkF m pc' Ls (.int v :: st))) : Go p l e R s m args below meth c n0 K N Q h ck cn (mkF m pc Ls st) := by
  obtain ⟨hd, rfl⟩ := hd
  subst hv
  exact Go.step (fun T locs X _ t k => XS.bipush X.here C.1 rfl (hb C.2.1 hd) k) k
theorem g_sipush (C : Cx p s m meth c Z code maxL own ret) {pc pc' : Nat} {Ls : Array Slot} {st : List Value} {i : Int} (v : Int32) (hd : I1 code pc (.sipush i) 3 pc') (hv : (Int16.ofInt i).toInt32 = v) (k : Go p l e R s m args below meth c n0 K N Q h ck cn (mkF m pc' Ls (.int v :: st))) : Go p l e R s m args below meth c n0 K N Q h ck cn (mkF m pc Ls st) := by
  obtain ⟨hd, rfl⟩ := hd
  subst hv
  exact Go.step (fun T locs X _ t k => XS.sipush X.here C.1 rfl (hb C.2.1 hd) k) k
theorem g_lconst (C : Cx p s m meth c Z code maxL own ret) {pc pc' : Nat} {Ls : Array Slot} {st : List Value} {i : Fin 2} (v : Int64) (hd : I1 code pc (.lconst i) 1 pc') (hv : Int64.ofNat i = v) (k : Go p l e R s m args below meth c n0 K N Q h ck cn (mkF m pc' Ls (.long v :: st))) : Go p l e R s m args below meth c n0 K N Q h ck cn (mkF m pc Ls st) := by
  obtain ⟨hd, rfl⟩ := hd
  subst hv
  exact Go.step (fun T locs X _ t k => XS.lconst X.here C.1 rfl (hb C.2.1 hd) k) k
theorem g_aconstNull (C : Cx p s m meth c Z code maxL own ret) {pc pc' : Nat} {Ls : Array Slot} {st : List Value}  (hd : I1 code pc (.aconst_null) 1 pc') (k : Go p l e R s m args below meth c n0 K N Q h ck cn (mkF m pc' Ls (.null :: st))) : Go p l e R s m args below meth c n0 K N Q h ck cn (mkF m pc Ls (st)) := by
  obtain ⟨hd, rfl⟩ := hd
  exact Go.step (fun T locs X _ t k => XS.aconstNull X.here C.1 rfl (hb C.2.1 hd)  k) k
theorem g_ldcInt (C : Cx p s m meth c Z code maxL own ret) {pc pc' : Nat} {Ls : Array Slot} {st : List Value} {i : Nat} {v : Int32} (hd : I1 code pc (.ldc i) 2 pc') (w : (Cond.constant own i v).before a0 Z = true) (k : Go p l e R s m args below meth c n0 K N Q h ck cn (mkF m pc' Ls (.int v :: st))) : Go p l e R s m args below meth c n0 K N Q h ck cn (mkF m pc Ls st) := by
  obtain ⟨hd, rfl⟩ := hd
  exact Go.step (fun T locs X _ t k => X.ldcInt C.1 C.2.2.2.2.1 (mvT C.2.2.2.1 w) (g := mkF m pc Ls st) rfl (hb C.2.1 hd) _ k) k
theorem g_ldcwInt (C : Cx p s m meth c Z code maxL own ret) {pc pc' : Nat} {Ls : Array Slot} {st : List Value} {i : Nat} {v : Int32} (hd : I1 code pc (.ldc_w i) 3 pc') (w : (Cond.constant own i v).before a0 Z = true) (k : Go p l e R s m args below meth c n0 K N Q h ck cn (mkF m pc' Ls (.int v :: st))) : Go p l e R s m args below meth c n0 K N Q h ck cn (mkF m pc Ls st) := by
  obtain ⟨hd, rfl⟩ := hd
  exact Go.step (fun T locs X _ t k => X.ldcwInt C.1 C.2.2.2.2.1 (mvT C.2.2.2.1 w) (g := mkF m pc Ls st) rfl (hb C.2.1 hd) _ k) k
theorem g_ldc2Long (C : Cx p s m meth c Z code maxL own ret) {pc pc' : Nat} {Ls : Array Slot} {st : List Value} {i : Nat} {v : Int64} (hd : I1 code pc (.ldc2_w i) 3 pc') (w : (Cond.constantLong own i v).before a0 Z = true) (k : Go p l e R s m args below meth c n0 K N Q h ck cn (mkF m pc' Ls (.long v :: st))) : Go p l e R s m args below meth c n0 K N Q h ck cn (mkF m pc Ls st) := by
  obtain ⟨hd, rfl⟩ := hd
  exact Go.step (fun T locs X _ t k => X.ldc2Long C.1 C.2.2.2.2.1 (mvT C.2.2.2.1 w) (g := mkF m pc Ls st) rfl (hb C.2.1 hd) _ k) k
theorem g_dup (C : Cx p s m meth c Z code maxL own ret) {pc pc' : Nat} {Ls : Array Slot} {st : List Value} {x : Value} (hd : I1 code pc (.dup) 1 pc') (hc : x.category = 1) (k : Go p l e R s m args below meth c n0 K N Q h ck cn (mkF m pc' Ls (x :: x :: st))) : Go p l e R s m args below meth c n0 K N Q h ck cn (mkF m pc Ls (x :: st)) := by
  obtain ⟨hd, rfl⟩ := hd
  exact Go.step (fun T locs X _ t k => XS.dup X.here C.1 rfl (hb C.2.1 hd) rfl hc k) k
theorem g_pop (C : Cx p s m meth c Z code maxL own ret) {pc pc' : Nat} {Ls : Array Slot} {st : List Value} {x : Value} (hd : I1 code pc (.pop) 1 pc') (hc : x.category = 1) (k : Go p l e R s m args below meth c n0 K N Q h ck cn (mkF m pc' Ls (st))) : Go p l e R s m args below meth c n0 K N Q h ck cn (mkF m pc Ls (x :: st)) := by
  obtain ⟨hd, rfl⟩ := hd
  exact Go.step (fun T locs X _ t k => XS.pop X.here C.1 rfl (hb C.2.1 hd) rfl hc k) k
theorem g_dupX1 (C : Cx p s m meth c Z code maxL own ret) {pc pc' : Nat} {Ls : Array Slot} {st : List Value} {x y : Value} (hd : I1 code pc (.dup_x1) 1 pc') (hc : x.category = 1) (hc' : y.category = 1) (k : Go p l e R s m args below meth c n0 K N Q h ck cn (mkF m pc' Ls (x :: y :: x :: st))) : Go p l e R s m args below meth c n0 K N Q h ck cn (mkF m pc Ls (x :: y :: st)) := by
  obtain ⟨hd, rfl⟩ := hd
  exact Go.step (fun T locs X _ t k => XS.dupX1 X.here C.1 rfl (hb C.2.1 hd) rfl hc hc' k) k
theorem g_dup2 (C : Cx p s m meth c Z code maxL own ret) {pc pc' : Nat} {Ls : Array Slot} {st : List Value} {x y : Value} (hd : I1 code pc (.dup2) 1 pc') (hc : x.category = 1) (hc' : y.category = 1) (k : Go p l e R s m args below meth c n0 K N Q h ck cn (mkF m pc' Ls (x :: y :: x :: y :: st))) : Go p l e R s m args below meth c n0 K N Q h ck cn (mkF m pc Ls (x :: y :: st)) := by
  obtain ⟨hd, rfl⟩ := hd
  exact Go.step (fun T locs X _ t k => Jvm.Free.XT.dup2 X.here C.1 rfl (hb C.2.1 hd) rfl hc hc' k) k
theorem g_dup2L (C : Cx p s m meth c Z code maxL own ret) {pc pc' : Nat} {Ls : Array Slot} {st : List Value} {x : Int64} (hd : I1 code pc (.dup2) 1 pc') (k : Go p l e R s m args below meth c n0 K N Q h ck cn (mkF m pc' Ls (.long x :: .long x :: st))) : Go p l e R s m args below meth c n0 K N Q h ck cn (mkF m pc Ls (.long x :: st)) := by
  obtain ⟨hd, rfl⟩ := hd
  exact Go.step (fun T locs X _ t k => Jvm.Free.XT.dup2L X.here C.1 rfl (hb C.2.1 hd) rfl k) k
theorem g_goto (C : Cx p s m meth c Z code maxL own ret) {pc pcT pcF : Nat} {Ls : Array Slot} {st : List Value} {o : Int} (hd : B1 code pc (.goto o) o pcT pcF) (k : Go p l e R s m args below meth c n0 K N Q h ck cn (mkF m pcT Ls st)) : Go p l e R s m args below meth c n0 K N Q h ck cn (mkF m pc Ls st) := by
  obtain ⟨hd, -, ho, hp⟩ := hd
  exact Go.step (fun T locs X _ t k => XS.goto X.here C.1 rfl (pc0 := pc) rfl (hb C.2.1 hd) ho hp k) k
theorem g_icmp_lt (C : Cx p s m meth c Z code maxL own ret) {pc pcT pcF : Nat} {Ls : Array Slot} {st : List Value} {o : Int} {x y : Int32} (hd : B1 code pc (.if_icmp .lt o) o pcT pcF) (kt : x < y → Go p l e R s m args below meth c n0 K N Q h ck cn (mkF m pcT Ls st)) (kf : ¬ (x < y) → Go p l e R s m args below meth c n0 K N Q h ck cn (mkF m pcF Ls st)) : Go p l e R s m args below meth c n0 K N Q h ck cn (mkF m pc Ls (.int y :: .int x :: st)) := by
  obtain ⟨hd, rfl, ho, hp⟩ := hd
  by_cases q : x < y
  · exact Go.step (fun T locs X _ t k => XS.icmpYes X.here C.1 rfl (pc0 := pc) rfl (hb C.2.1 hd) rfl ((tlt q).1) ho hp k) (kt q)
  · exact Go.step (fun T locs X _ t k => XS.icmpNo X.here C.1 rfl (hb C.2.1 hd) rfl ((flt q).1) k) (kf q)
theorem g_if_lt (C : Cx p s m meth c Z code maxL own ret) {pc pcT pcF : Nat} {Ls : Array Slot} {st : List Value} {o : Int} {x : Int32} (hd : B1 code pc (.ifCond .lt o) o pcT pcF) (kt : x < 0 → Go p l e R s m args below meth c n0 K N Q h ck cn (mkF m pcT Ls st)) (kf : ¬ (x < 0) → Go p l e R s m args below meth c n0 K N Q h ck cn (mkF m pcF Ls st)) : Go p l e R s m args below meth c n0 K N Q h ck cn (mkF m pc Ls (.int x :: st)) := by
  obtain ⟨hd, rfl, ho, hp⟩ := hd
  by_cases q : x < 0
  · exact Go.step (fun T locs X _ t k => XS.ifYes X.here C.1 rfl (pc0 := pc) rfl (hb C.2.1 hd) rfl ((if0 _ _).trans (tlt q).1) ho hp k) (kt q)
  · exact Go.step (fun T locs X _ t k => XS.ifNo X.here C.1 rfl (hb C.2.1 hd) rfl ((if0 _ _).trans (flt q).1) k) (kf q)
theorem g_ifl_lt (C : Cx p s m meth c Z code maxL own ret) {pc pcT pcF : Nat} {Ls : Array Slot} {st : List Value} {o : Int} {x y : Int64} (hd : B1 code pc (.ifCond .lt o) o pcT pcF) (kt : x < y → Go p l e R s m args below meth c n0 K N Q h ck cn (mkF m pcT Ls st)) (kf : ¬ (x < y) → Go p l e R s m args below meth c n0 K N Q h ck cn (mkF m pcF Ls st)) : Go p l e R s m args below meth c n0 K N Q h ck cn (mkF m pc Ls (.int (lcmpW x y) :: st)) := by
  obtain ⟨hd, rfl, ho, hp⟩ := hd
  by_cases q : x < y
  · exact Go.step (fun T locs X _ t k => XS.ifYes X.here C.1 rfl (pc0 := pc) rfl (hb C.2.1 hd) rfl ((if0 _ _).trans (tlt ((lw_lt x y).mpr q)).1) ho hp k) (kt q)
  · exact Go.step (fun T locs X _ t k => XS.ifNo X.here C.1 rfl (hb C.2.1 hd) rfl ((if0 _ _).trans (flt (fun z => q ((lw_lt x y).mp z))).1) k) (kf q)
theorem g_icmp_ge (C : Cx p s m meth c Z code maxL own ret) {pc pcT pcF : Nat} {Ls : Array Slot} {st : List Value} {o : Int} {x y : Int32} (hd : B1 code pc (.if_icmp .ge o) o pcT pcF) (kt : x < y → Go p l e R s m args below meth c n0 K N Q h ck cn (mkF m pcF Ls st)) (kf : ¬ (x < y) → Go p l e R s m args below meth c n0 K N Q h ck cn (mkF m pcT Ls st)) : Go p l e R s m args below meth c n0 K N Q h ck cn (mkF m pc Ls (.int y :: .int x :: st)) := by
  obtain ⟨hd, rfl, ho, hp⟩ := hd
  by_cases q : x < y
  · exact Go.step (fun T locs X _ t k => XS.icmpNo X.here C.1 rfl (hb C.2.1 hd) rfl ((tlt q).2.1) k) (kt q)
  · exact Go.step (fun T locs X _ t k => XS.icmpYes X.here C.1 rfl (pc0 := pc) rfl (hb C.2.1 hd) rfl ((flt q).2.1) ho hp k) (kf q)
theorem g_if_ge (C : Cx p s m meth c Z code maxL own ret) {pc pcT pcF : Nat} {Ls : Array Slot} {st : List Value} {o : Int} {x : Int32} (hd : B1 code pc (.ifCond .ge o) o pcT pcF) (kt : x < 0 → Go p l e R s m args below meth c n0 K N Q h ck cn (mkF m pcF Ls st)) (kf : ¬ (x < 0) → Go p l e R s m args below meth c n0 K N Q h ck cn (mkF m pcT Ls st)) : Go p l e R s m args below meth c n0 K N Q h ck cn (mkF m pc Ls (.int x :: st)) := by
  obtain ⟨hd, rfl, ho, hp⟩ := hd
  by_cases q : x < 0
  · exact Go.step (fun T locs X _ t k => XS.ifNo X.here C.1 rfl (hb C.2.1 hd) rfl ((if0 _ _).trans (tlt q).2.1) k) (kt q)
  · exact Go.step (fun T locs X _ t k => XS.ifYes X.here C.1 rfl (pc0 := pc) rfl (hb C.2.1 hd) rfl ((if0 _ _).trans (flt q).2.1) ho hp k) (kf q)
theorem g_ifl_ge (C : Cx p s m meth c Z code maxL own ret) {pc pcT pcF : Nat} {Ls : Array Slot} {st : List Value} {o : Int} {x y : Int64} (hd : B1 code pc (.ifCond .ge o) o pcT pcF) (kt : x < y → Go p l e R s m args below meth c n0 K N Q h ck cn (mkF m pcF Ls st)) (kf : ¬ (x < y) → Go p l e R s m args below meth c n0 K N Q h ck cn (mkF m pcT Ls st)) : Go p l e R s m args below meth c n0 K N Q h ck cn (mkF m pc Ls (.int (lcmpW x y) :: st)) := by
  obtain ⟨hd, rfl, ho, hp⟩ := hd
  by_cases q : x < y
  · exact Go.step (fun T locs X _ t k => XS.ifNo X.here C.1 rfl (hb C.2.1 hd) rfl ((if0 _ _).trans (tlt ((lw_lt x y).mpr q)).2.1) k) (kt q)
  · exact Go.step (fun T locs X _ t k => XS.ifYes X.here C.1 rfl (pc0 := pc) rfl (hb C.2.1 hd) rfl ((if0 _ _).trans (flt (fun z => q ((lw_lt x y).mp z))).2.1) ho hp k) (kf q)
theorem g_icmp_gt (C : Cx p s m meth c Z code maxL own ret) {pc pcT pcF : Nat} {Ls : Array Slot} {st : List Value} {o : Int} {x y : Int32} (hd : B1 code pc (.if_icmp .gt o) o pcT pcF) (kt : y < x → Go p l e R s m args below meth c n0 K N Q h ck cn (mkF m pcT Ls st)) (kf : ¬ (y < x) → Go p l e R s m args below meth c n0 K N Q h ck cn (mkF m pcF Ls st)) : Go p l e R s m args below meth c n0 K N Q h ck cn (mkF m pc Ls (.int y :: .int x :: st)) := by
  obtain ⟨hd, rfl, ho, hp⟩ := hd
  by_cases q : y < x
  · exact Go.step (fun T locs X _ t k => XS.icmpYes X.here C.1 rfl (pc0 := pc) rfl (hb C.2.1 hd) rfl ((tlt q).2.2.1) ho hp k) (kt q)
  · exact Go.step (fun T locs X _ t k => XS.icmpNo X.here C.1 rfl (hb C.2.1 hd) rfl ((flt q).2.2.1) k) (kf q)
theorem g_if_gt (C : Cx p s m meth c Z code maxL own ret) {pc pcT pcF : Nat} {Ls : Array Slot} {st : List Value} {o : Int} {x : Int32} (hd : B1 code pc (.ifCond .gt o) o pcT pcF) (kt : 0 < x → Go p l e R s m args below meth c n0 K N Q h ck cn (mkF m pcT Ls st)) (kf : ¬ (0 < x) → Go p l e R s m args below meth c n0 K N Q h ck cn (mkF m pcF Ls st)) : Go p l e R s m args below meth c n0 K N Q h ck cn (mkF m pc Ls (.int x :: st)) := by
  obtain ⟨hd, rfl, ho, hp⟩ := hd
  by_cases q : 0 < x
  · exact Go.step (fun T locs X _ t k => XS.ifYes X.here C.1 rfl (pc0 := pc) rfl (hb C.2.1 hd) rfl ((if0 _ _).trans (tlt q).2.2.1) ho hp k) (kt q)
  · exact Go.step (fun T locs X _ t k => XS.ifNo X.here C.1 rfl (hb C.2.1 hd) rfl ((if0 _ _).trans (flt q).2.2.1) k) (kf q)
theorem g_ifl_gt (C : Cx p s m meth c Z code maxL own ret) {pc pcT pcF : Nat} {Ls : Array Slot} {st : List Value} {o : Int} {x y : Int64} (hd : B1 code pc (.ifCond .gt o) o pcT pcF) (kt : y < x → Go p l e R s m args below meth c n0 K N Q h ck cn (mkF m pcT Ls st)) (kf : ¬ (y < x) → Go p l e R s m args below meth c n0 K N Q h ck cn (mkF m pcF Ls st)) : Go p l e R s m args below meth c n0 K N Q h ck cn (mkF m pc Ls (.int (lcmpW x y) :: st)) := by
  obtain ⟨hd, rfl, ho, hp⟩ := hd
  by_cases q : y < x
  · exact Go.step (fun T locs X _ t k => XS.ifYes X.here C.1 rfl (pc0 := pc) rfl (hb C.2.1 hd) rfl ((if0 _ _).trans (tlt ((lw_gt x y).mpr q)).2.2.1) ho hp k) (kt q)
  · exact Go.step (fun T locs X _ t k => XS.ifNo X.here C.1 rfl (hb C.2.1 hd) rfl ((if0 _ _).trans (flt (fun z => q ((lw_gt x y).mp z))).2.2.1) k) (kf q)
theorem g_icmp_le (C : Cx p s m meth c Z code maxL own ret) {pc pcT pcF : Nat} {Ls : Array Slot} {st : List Value} {o : Int} {x y : Int32} (hd : B1 code pc (.if_icmp .le o) o pcT pcF) (kt : y < x → Go p l e R s m args below meth c n0 K N Q h ck cn (mkF m pcF Ls st)) (kf : ¬ (y < x) → Go p l e R s m args below meth c n0 K N Q h ck cn (mkF m pcT Ls st)) : Go p l e R s m args below meth c n0 K N Q h ck cn (mkF m pc Ls (.int y :: .int x :: st)) := by
  obtain ⟨hd, rfl, ho, hp⟩ := hd
  by_cases q : y < x
  · exact Go.step (fun T locs X _ t k => XS.icmpNo X.here C.1 rfl (hb C.2.1 hd) rfl ((tlt q).2.2.2) k) (kt q)
  · exact Go.step (fun T locs X _ t k => XS.icmpYes X.here C.1 rfl (pc0 := pc) rfl (hb C.2.1 hd) rfl ((flt q).2.2.2) ho hp k) (kf q)
theorem g_if_le (C : Cx p s m meth c Z code maxL own ret) {pc pcT pcF : Nat} {Ls : Array Slot} {st : List Value} {o : Int} {x : Int32} (hd : B1 code pc (.ifCond .le o) o pcT pcF) (kt : 0 < x → Go p l e R s m args below meth c n0 K N Q h ck cn (mkF m pcF Ls st)) (kf : ¬ (0 < x) → Go p l e R s m args below meth c n0 K N Q h ck cn (mkF m pcT Ls st)) : Go p l e R s m args below meth c n0 K N Q h ck cn (mkF m pc Ls (.int x :: st)) := by
  obtain ⟨hd, rfl, ho, hp⟩ := hd
  by_cases q : 0 < x
  · exact Go.step (fun T locs X _ t k => XS.ifNo X.here C.1 rfl (hb C.2.1 hd) rfl ((if0 _ _).trans (tlt q).2.2.2) k) (kt q)
  · exact Go.step (fun T locs X _ t k => XS.ifYes X.here C.1 rfl (pc0 := pc) rfl (hb C.2.1 hd) rfl ((if0 _ _).trans (flt q).2.2.2) ho hp k) (kf q)
theorem g_ifl_le (C : Cx p s m meth c Z code maxL own ret) {pc pcT pcF : Nat} {Ls : Array Slot} {st : List Value} {o : Int} {x y : Int64} (hd : B1 code pc (.ifCond .le o) o pcT pcF) (kt : y < x → Go p l e R s m args below meth c n0 K N Q h ck cn (mkF m pcF Ls st)) (kf : ¬ (y < x) → Go p l e R s m args below meth c n0 K N Q h ck cn (mkF m pcT Ls st)) : Go p l e R s m args below meth c n0 K N Q h ck cn (mkF m pc Ls (.int (lcmpW x y) :: st)) := by
  obtain ⟨hd, rfl, ho, hp⟩ := hd
  by_cases q : y < x
  · exact Go.step (fun T locs X _ t k => XS.ifNo X.here C.1 rfl (hb C.2.1 hd) rfl ((if0 _ _).trans (tlt ((lw_gt x y).mpr q)).2.2.2) k) (kt q)
  · exact Go.step (fun T locs X _ t k => XS.ifYes X.here C.1 rfl (pc0 := pc) rfl (hb C.2.1 hd) rfl ((if0 _ _).trans (flt (fun z => q ((lw_gt x y).mp z))).2.2.2) ho hp k) (kf q)
theorem g_icmp_eq (C : Cx p s m meth c Z code maxL own ret) {pc pcT pcF : Nat} {Ls : Array Slot} {st : List Value} {o : Int} {x y : Int32} (hd : B1 code pc (.if_icmp .eq o) o pcT pcF) (kt : x = y → Go p l e R s m args below meth c n0 K N Q h ck cn (mkF m pcT Ls st)) (kf : ¬ (x = y) → Go p l e R s m args below meth c n0 K N Q h ck cn (mkF m pcF Ls st)) : Go p l e R s m args below meth c n0 K N Q h ck cn (mkF m pc Ls (.int y :: .int x :: st)) := by
  obtain ⟨hd, rfl, ho, hp⟩ := hd
  by_cases q : x = y
  · exact Go.step (fun T locs X _ t k => XS.icmpYes X.here C.1 rfl (pc0 := pc) rfl (hb C.2.1 hd) rfl ((teq q).1) ho hp k) (kt q)
  · exact Go.step (fun T locs X _ t k => XS.icmpNo X.here C.1 rfl (hb C.2.1 hd) rfl ((feq q).1) k) (kf q)
theorem g_if_eq (C : Cx p s m meth c Z code maxL own ret) {pc pcT pcF : Nat} {Ls : Array Slot} {st : List Value} {o : Int} {x : Int32} (hd : B1 code pc (.ifCond .eq o) o pcT pcF) (kt : x = 0 → Go p l e R s m args below meth c n0 K N Q h ck cn (mkF m pcT Ls st)) (kf : ¬ (x = 0) → Go p l e R s m args below meth c n0 K N Q h ck cn (mkF m pcF Ls st)) : Go p l e R s m args below meth c n0 K N Q h ck cn (mkF m pc Ls (.int x :: st)) := by
  obtain ⟨hd, rfl, ho, hp⟩ := hd
  by_cases q : x = 0
  · exact Go.step (fun T locs X _ t k => XS.ifYes X.here C.1 rfl (pc0 := pc) rfl (hb C.2.1 hd) rfl ((if0 _ _).trans (teq q).1) ho hp k) (kt q)
  · exact Go.step (fun T locs X _ t k => XS.ifNo X.here C.1 rfl (hb C.2.1 hd) rfl ((if0 _ _).trans (feq q).1) k) (kf q)
theorem g_ifl_eq (C : Cx p s m meth c Z code maxL own ret) {pc pcT pcF : Nat} {Ls : Array Slot} {st : List Value} {o : Int} {x y : Int64} (hd : B1 code pc (.ifCond .eq o) o pcT pcF) (kt : x = y → Go p l e R s m args below meth c n0 K N Q h ck cn (mkF m pcT Ls st)) (kf : ¬ (x = y) → Go p l e R s m args below meth c n0 K N Q h ck cn (mkF m pcF Ls st)) : Go p l e R s m args below meth c n0 K N Q h ck cn (mkF m pc Ls (.int (lcmpW x y) :: st)) := by
  obtain ⟨hd, rfl, ho, hp⟩ := hd
  by_cases q : x = y
  · exact Go.step (fun T locs X _ t k => XS.ifYes X.here C.1 rfl (pc0 := pc) rfl (hb C.2.1 hd) rfl ((if0 _ _).trans (teq ((lw_eq x y).mpr q)).1) ho hp k) (kt q)
  · exact Go.step (fun T locs X _ t k => XS.ifNo X.here C.1 rfl (hb C.2.1 hd) rfl ((if0 _ _).trans (feq (fun z => q ((lw_eq x y).mp z))).1) k) (kf q)
theorem g_icmp_ne (C : Cx p s m meth c Z code maxL own ret) {pc pcT pcF : Nat} {Ls : Array Slot} {st : List Value} {o : Int} {x y : Int32} (hd : B1 code pc (.if_icmp .ne o) o pcT pcF) (kt : x = y → Go p l e R s m args below meth c n0 K N Q h ck cn (mkF m pcF Ls st)) (kf : ¬ (x = y) → Go p l e R s m args below meth c n0 K N Q h ck cn (mkF m pcT Ls st)) : Go p l e R s m args below meth c n0 K N Q h ck cn (mkF m pc Ls (.int y :: .int x :: st)) := by
  obtain ⟨hd, rfl, ho, hp⟩ := hd
  by_cases q : x = y
  · exact Go.step (fun T locs X _ t k => XS.icmpNo X.here C.1 rfl (hb C.2.1 hd) rfl ((teq q).2) k) (kt q)
  · exact Go.step (fun T locs X _ t k => XS.icmpYes X.here C.1 rfl (pc0 := pc) rfl (hb C.2.1 hd) rfl ((feq q).2) ho hp k) (kf q)
theorem g_if_ne (C : Cx p s m meth c Z code maxL own ret) {pc pcT pcF : Nat} {Ls : Array Slot} {st : List Value} {o : Int} {x : Int32} (hd : B1 code pc (.ifCond .ne o) o pcT pcF) (kt : x = 0 → Go p l e R s m args below meth c n0 K N Q h ck cn (mkF m pcF Ls st)) (kf : ¬ (x = 0) → Go p l e R s m args below meth c n0 K N Q h ck cn (mkF m pcT Ls st)) : Go p l e R s m args below meth c n0 K N Q h ck cn (mkF m pc Ls (.int x :: st)) := by
  obtain ⟨hd, rfl, ho, hp⟩ := hd
  by_cases q : x = 0
  · exact Go.step (fun T locs X _ t k => XS.ifNo X.here C.1 rfl (hb C.2.1 hd) rfl ((if0 _ _).trans (teq q).2) k) (kt q)
  · exact Go.step (fun T locs X _ t k => XS.ifYes X.here C.1 rfl (pc0 := pc) rfl (hb C.2.1 hd) rfl ((if0 _ _).trans (feq q).2) ho hp k) (kf q)
theorem g_ifl_ne (C : Cx p s m meth c Z code maxL own ret) {pc pcT pcF : Nat} {Ls : Array Slot} {st : List Value} {o : Int} {x y : Int64} (hd : B1 code pc (.ifCond .ne o) o pcT pcF) (kt : x = y → Go p l e R s m args below meth c n0 K N Q h ck cn (mkF m pcF Ls st)) (kf : ¬ (x = y) → Go p l e R s m args below meth c n0 K N Q h ck cn (mkF m pcT Ls st)) : Go p l e R s m args below meth c n0 K N Q h ck cn (mkF m pc Ls (.int (lcmpW x y) :: st)) := by
  obtain ⟨hd, rfl, ho, hp⟩ := hd
  by_cases q : x = y
  · exact Go.step (fun T locs X _ t k => XS.ifNo X.here C.1 rfl (hb C.2.1 hd) rfl ((if0 _ _).trans (teq ((lw_eq x y).mpr q)).2) k) (kt q)
  · exact Go.step (fun T locs X _ t k => XS.ifYes X.here C.1 rfl (pc0 := pc) rfl (hb C.2.1 hd) rfl ((if0 _ _).trans (feq (fun z => q ((lw_eq x y).mp z))).2) ho hp k) (kf q)
theorem g_ifnullN (C : Cx p s m meth c Z code maxL own ret) {pc pcT pcF : Nat} {Ls : Array Slot} {st : List Value} {o : Int} {b : Addr} (hd : B1 code pc (.ifnull o) o pcT pcF) (k : Go p l e R s m args below meth c n0 K N Q h ck cn (mkF m pcF Ls st)) : Go p l e R s m args below meth c n0 K N Q h ck cn (mkF m pc Ls (.ref b :: st)) := by
  obtain ⟨hd, rfl, ho, hp⟩ := hd
  exact Go.step (fun T locs X _ t k => XS.ifnullNo X.here C.1 rfl (hb C.2.1 hd) rfl k) k
theorem g_ifnullY (C : Cx p s m meth c Z code maxL own ret) {pc pcT pcF : Nat} {Ls : Array Slot} {st : List Value} {o : Int} (hd : B1 code pc (.ifnull o) o pcT pcF) (k : Go p l e R s m args below meth c n0 K N Q h ck cn (mkF m pcT Ls st)) : Go p l e R s m args below meth c n0 K N Q h ck cn (mkF m pc Ls (.null :: st)) := by
  obtain ⟨hd, rfl, ho, hp⟩ := hd
  exact Go.step (fun T locs X _ t k => XS.ifnullYes X.here C.1 rfl (pc0 := pc) rfl (hb C.2.1 hd) rfl ho hp k) k
theorem g_ifnonnullY (C : Cx p s m meth c Z code maxL own ret) {pc pcT pcF : Nat} {Ls : Array Slot} {st : List Value} {o : Int} {b : Addr} (hd : B1 code pc (.ifnonnull o) o pcT pcF) (k : Go p l e R s m args below meth c n0 K N Q h ck cn (mkF m pcT Ls st)) : Go p l e R s m args below meth c n0 K N Q h ck cn (mkF m pc Ls (.ref b :: st)) := by
  obtain ⟨hd, rfl, ho, hp⟩ := hd
  exact Go.step (fun T locs X _ t k => XS.ifnonnullYes X.here C.1 rfl (pc0 := pc) rfl (hb C.2.1 hd) rfl ho hp k) k
theorem g_ifnonnullN (C : Cx p s m meth c Z code maxL own ret) {pc pcT pcF : Nat} {Ls : Array Slot} {st : List Value} {o : Int} (hd : B1 code pc (.ifnonnull o) o pcT pcF) (k : Go p l e R s m args below meth c n0 K N Q h ck cn (mkF m pcF Ls st)) : Go p l e R s m args below meth c n0 K N Q h ck cn (mkF m pc Ls (.null :: st)) := by
  obtain ⟨hd, rfl, ho, hp⟩ := hd
  exact Go.step (fun T locs X _ t k => XS.ifnonnullNo X.here C.1 rfl (hb C.2.1 hd) rfl k) k
theorem g_acmp_eq (C : Cx p s m meth c Z code maxL own ret) {pc pcT pcF : Nat} {Ls : Array Slot} {st : List Value} {o : Int} {x y : Value} (h1 : x.isRef = true) (h2 : y.isRef = true) (hd : B1 code pc (.if_acmp .eq o) o pcT pcF) (kt : x = y → Go p l e R s m args below meth c n0 K N Q h ck cn (mkF m pcT Ls st)) (kf : ¬ x = y → Go p l e R s m args below meth c n0 K N Q h ck cn (mkF m pcF Ls st)) : Go p l e R s m args below meth c n0 K N Q h ck cn (mkF m pc Ls (y :: x :: st)) := by
  obtain ⟨hd, rfl, ho, rfl⟩ := hd
  by_cases q : x = y
  · exact Go.step (fun T locs X _ t k => Jvm.RoadKit.acmp X C.1 rfl h1 h2 (pc0 := pc) (same := true) rfl (hb C.2.1 hd) rfl (by simp [q]) ho rfl k) (kt q)
  · exact Go.step (fun T locs X _ t k => Jvm.RoadKit.acmp X C.1 rfl h1 h2 (pc0 := pc) (same := false) rfl (hb C.2.1 hd) rfl (by simp [q]) ho rfl k) (kf q)
theorem g_acmp_ne (C : Cx p s m meth c Z code maxL own ret) {pc pcT pcF : Nat} {Ls : Array Slot} {st : List Value} {o : Int} {x y : Value} (h1 : x.isRef = true) (h2 : y.isRef = true) (hd : B1 code pc (.if_acmp .ne o) o pcT pcF) (kt : x = y → Go p l e R s m args below meth c n0 K N Q h ck cn (mkF m pcF Ls st)) (kf : ¬ x = y → Go p l e R s m args below meth c n0 K N Q h ck cn (mkF m pcT Ls st)) : Go p l e R s m args below meth c n0 K N Q h ck cn (mkF m pc Ls (y :: x :: st)) := by
  obtain ⟨hd, rfl, ho, rfl⟩ := hd
  by_cases q : x = y
  · exact Go.step (fun T locs X _ t k => Jvm.RoadKit.acmp X C.1 rfl h1 h2 (pc0 := pc) (same := true) rfl (hb C.2.1 hd) rfl (by simp [q]) ho rfl k) (kt q)
  · exact Go.step (fun T locs X _ t k => Jvm.RoadKit.acmp X C.1 rfl h1 h2 (pc0 := pc) (same := false) rfl (hb C.2.1 hd) rfl (by simp [q]) ho rfl k) (kf q)
theorem ret0 {v : Option Value} {g : JFrame} (hlk : meth.locks = false) (hret : meth.sig.returnType = none → v = none) (hck : ck ≤ K) (hcn : cn ≤ N) (hQ : Q v h)
    (st : ∀ (T : State) (locs : List Loc) (fs : List Frame), Stand p l e R s m args below meth c T locs ck cn → (∀ (f : JFrame) (acts : List Action), f.method = m → f.locked = none → f.entered = [] → (doReturn e (T.setTop f) acts v).1 = T.setFrames fs) → Steps p.tables e below (T.setTop g) (T.setFrames fs)) :
    Go p l e R s m args below meth c n0 K N Q h ck cn g := fun T locs X eT hN => by
  obtain ⟨fs, hr, hrun, hended, hW, hsame⟩ := X.leave (v := v) hret hlk
  exact ⟨_, _, st T locs fs X hr, hrun, hended, v, locs, rfl, ⟨by show Q v T.heap; rw [eT]; exact hQ, hN⟩, ⟨_, rfl⟩, hW, hsame.mono hck hcn⟩
theorem g_retV (C : Cx p s m meth c Z code maxL own ret) {pc : Nat} {Ls : Array Slot} {pc' : Nat} (hd : I1 code pc .return_ 1 pc') (hret : ret = none) (hck : ck ≤ K) (hcn : cn ≤ N) (hQ : Q none h) : Go p l e R s m args below meth c n0 K N Q h ck cn (mkF m pc Ls []) := by
  obtain ⟨hd, -⟩ := hd
  exact ret0 C.2.2.2.2.2.2 (fun _ => rfl) hck hcn hQ (fun T locs fs X hr => X.returnOut C.1 (C.2.2.2.2.2.1.trans hret) (hb C.2.1 hd) hr)
theorem g_retInt (C : Cx p s m meth c Z code maxL own ret) {pc : Nat} {Ls : Array Slot} {pc' : Nat} {st : List Value} {z : Int32} (hd : I1 code pc .ireturn 1 pc') (hret : ret = some .int) (hck : ck ≤ K) (hcn : cn ≤ N) (hQ : Q (some (.int z)) h) : Go p l e R s m args below meth c n0 K N Q h ck cn (mkF m pc Ls (.int z :: st)) := by
  obtain ⟨hd, -⟩ := hd
  have hr' := C.2.2.2.2.2.1.trans hret
  exact ret0 C.2.2.2.2.2.2 (fun q => by rw [hr'] at q; cases q) hck hcn hQ (fun T locs fs X hr => retOut X C.1 hr' rfl (Or.inl ⟨rfl, Or.inl rfl, z, rfl⟩) (hb C.2.1 hd) hr)
theorem g_retLong (C : Cx p s m meth c Z code maxL own ret) {pc : Nat} {Ls : Array Slot} {pc' : Nat} {st : List Value} {z : Int64} (hd : I1 code pc .lreturn 1 pc') (hret : ret = some .long) (hck : ck ≤ K) (hcn : cn ≤ N) (hQ : Q (some (.long z)) h) : Go p l e R s m args below meth c n0 K N Q h ck cn (mkF m pc Ls (.long z :: st)) := by
  obtain ⟨hd, -⟩ := hd
  have hr' := C.2.2.2.2.2.1.trans hret
  exact ret0 C.2.2.2.2.2.2 (fun q => by rw [hr'] at q; cases q) hck hcn hQ (fun T locs fs X hr => retOut X C.1 hr' rfl (Or.inr (Or.inl ⟨rfl, rfl, z, rfl⟩)) (hb C.2.1 hd) hr)
theorem nar_ref {t : FieldType} {v : Value} (hv : v.isRef = true) : narrow t v = v := by
  rcases ref_cases hv with rfl | ⟨a, rfl⟩ <;> cases t <;> rfl
theorem g_retRef (C : Cx p s m meth c Z code maxL own ret) {pc : Nat} {Ls : Array Slot} {pc' : Nat} {st : List Value} {v : Value} {t : FieldType} (hd : I1 code pc .areturn 1 pc') (hret : ret = some t) (ht : t.isReference = true) (hv : v.isRef = true) (hck : ck ≤ K) (hcn : cn ≤ N) (hQ : Q (some v) h) : Go p l e R s m args below meth c n0 K N Q h ck cn (mkF m pc Ls (v :: st)) := by
  obtain ⟨hd, -⟩ := hd
  have hr' := C.2.2.2.2.2.1.trans hret
  exact ret0 C.2.2.2.2.2.2 (fun q => by rw [hr'] at q; cases q) hck hcn hQ (fun T locs fs X hr => retOut X C.1 hr' (nar_ref hv) (Or.inr (Or.inr (Or.inr (Or.inr ⟨rfl, ht, hv⟩)))) (hb C.2.1 hd) hr)
theorem g_retNar (C : Cx p s m meth c Z code maxL own ret) {pc : Nat} {Ls : Array Slot} {pc' : Nat} {st : List Value} {z : Int32} {t : FieldType} (hd : I1 code pc .ireturn 1 pc') (hret : ret = some t) (ht : t = .boolean ∨ t = .byte ∨ t = .char ∨ t = .short) (hck : ck ≤ K) (hcn : cn ≤ N) (hQ : Q (some (.int (nar t z))) h) : Go p l e R s m args below meth c n0 K N Q h ck cn (mkF m pc Ls (.int z :: st)) := by
  obtain ⟨hd, -⟩ := hd
  have hr' := C.2.2.2.2.2.1.trans hret
  exact ret0 C.2.2.2.2.2.2 (fun q => by rw [hr'] at q; cases q) hck hcn hQ (fun T locs fs X hr => retN X C.1 hr' ht (hb C.2.1 hd) hr)
theorem g_getF (C : Cx p s m meth c Z code maxL own ret) {pc pc' : Nat} {Ls : Array Slot} {st : List Value} {R0 O n d host : String} {index : Nat} {a : Addr} {v : Value} (hd : I1 code pc (.getfield index) 3 pc') (w : (Cond.fieldLink own index R0 n d).before a0 Z = true ∨ (Cond.fieldLinkNest own index R0 n d host).before a0 Z = true) (via : Via Z R0 O n d) (F : Fld Z h a O n d v)
    (k : Go p l e R s m args below meth c n0 K N Q h ck cn (mkF m pc' Ls (v :: st))) : Go p l e R s m args below meth c n0 K N Q h ck cn (mkF m pc Ls (.ref a :: st)) := fun T locs X eT hN => by
  obtain ⟨hd, rfl⟩ := hd
  obtain ⟨T', X', e', st'⟩ := Jvm.RoadKit.getF X C.1 C.2.2.2.1 C.2.2.2.2.1 w via eT F (g := mkF m pc Ls (.ref a :: st)) rfl rfl (hb C.2.1 hd)
  exact Go.move hN X' e' hN st' k
theorem g_getS (C : Cx p s m meth c Z code maxL own ret) {pc pc' : Nat} {Ls : Array Slot} {st : List Value} {R0 O n d host : String} {index : Nat} {v : Value} (hd : I1 code pc (.getstatic index) 3 pc') (w : (Cond.fieldLink own index R0 n d).before a0 Z = true ∨ (Cond.fieldLinkNest own index R0 n d host).before a0 Z = true) (via : Via Z R0 O n d) (F : Sta Z h O n d v)
    (k : Go p l e R s m args below meth c n0 K N Q h ck cn (mkF m pc' Ls (v :: st))) : Go p l e R s m args below meth c n0 K N Q h ck cn (mkF m pc Ls st) := fun T locs X eT hN => by
  obtain ⟨hd, rfl⟩ := hd
  obtain ⟨T', X', e', st'⟩ := Jvm.RoadKit.getS2 X C.1 C.2.2.2.1 C.2.2.2.2.1 w via eT F (g := mkF m pc Ls st) rfl (hb C.2.1 hd)
  exact Go.move hN X' e' hN st' k
theorem g_putF (C : Cx p s m meth c Z code maxL own ret) {pc pc' : Nat} {Ls : Array Slot} {st : List Value} {R0 O n d host Cl : String} {index kk : Nat} {ty : FieldType} {a : Addr} {v old : Value} (hd : I1 code pc (.putfield index) 3 pc') (w : (Cond.fieldLink own index R0 n d).before a0 Z = true ∨ (Cond.fieldLinkNest own index R0 n d host).before a0 Z = true) (via : Via Z R0 O n d) (F : Fld Z h a O n d old) (E : Exa Z h a Cl)
    (L : (Cond.lays Cl O n d).before a0 Z = true ∨ ((Cond.laysFinal Cl O n d).before a0 Z = true ∧ own = O ∧ meth.name = "<init>")) (wi : (Cond.instantiable Cl kk).before a0 Z = true) (hty : parseFieldDescriptor d = some ty) (hn : narrow ty v = v) (hf : fits ty v = true) (ha : n0 ≤ a)
    (k : ∀ h', Wr h h' a (Jvm.RoadKit.slotOf Z O n d) v → Go p l e R s m args below meth c n0 K N Q h' ck cn (mkF m pc' Ls st)) : Go p l e R s m args below meth c n0 K N Q h ck cn (mkF m pc Ls (v :: .ref a :: st)) := fun T locs X eT hN => by
  obtain ⟨hd, rfl⟩ := hd
  obtain ⟨T', h', X', e', W, st'⟩ := Jvm.RoadKit.putF X C.1 C.2.2.2.1 C.2.2.2.2.1 w via eT F E L wi hty hn hf (g := mkF m pc Ls (v :: .ref a :: st)) rfl rfl (hb C.2.1 hd)
  exact Go.move hN X' e' (Fr.snoc X' hN ha) st' (k h' W)
theorem g_putFN (C : Cx p s m meth c Z code maxL own ret) {pc pc' : Nat} {Ls : Array Slot} {st : List Value} {R0 O n d Cl : String} {index kk : Nat} {ty : FieldType} {a : Addr} {v v' old : Value} (hd : I1 code pc (.putfield index) 3 pc') (w : (Cond.fieldLink own index R0 n d).before a0 Z = true) (via : Via Z R0 O n d) (F : Fld Z h a O n d old) (E : Exa Z h a Cl)
    (L : (Cond.lays Cl O n d).before a0 Z = true ∨ ((Cond.laysFinal Cl O n d).before a0 Z = true ∧ own = O ∧ meth.name = "<init>")) (wi : (Cond.instantiable Cl kk).before a0 Z = true) (hty : parseFieldDescriptor d = some ty) (hn : narrow ty v = v') (hf : fits ty v' = true) (ha : n0 ≤ a)
    (k : ∀ h', Wr h h' a (Jvm.RoadKit.slotOf Z O n d) v' → Go p l e R s m args below meth c n0 K N Q h' ck cn (mkF m pc' Ls st)) : Go p l e R s m args below meth c n0 K N Q h ck cn (mkF m pc Ls (v :: .ref a :: st)) := fun T locs X eT hN => by
  obtain ⟨hd, rfl⟩ := hd
  obtain ⟨T', h', X', e', W, st'⟩ := Jvm.RoadKit.putFN X C.1 C.2.2.2.1 C.2.2.2.2.1 w via eT F E L wi hty hn hf (g := mkF m pc Ls (v :: .ref a :: st)) rfl rfl (hb C.2.1 hd)
  exact Go.move hN X' e' (Fr.snoc X' hN ha) st' (k h' W)
theorem g_newO (C : Cx p s m meth c Z code maxL own ret) {pc pc' : Nat} {Ls : Array Slot} {st : List Value} {Cl : String} {index n : Nat} (hd : I1 code pc (.new index) 3 pc') (w : (Cond.classLink own index Cl).before a0 Z = true) (wi : (Cond.instantiable Cl n).before a0 Z = true) (wz : (Cond.initialized Cl).before a0 Z = true) (hc : ck + 1 ≤ R.cells) (hl : cn + n ≤ R.slots) {ck' cn' : Nat} (hck : ck + 1 = ck') (hcn : cn + n = cn')
    (k : ∀ (h' : Heap) (a : Addr), a = h.size → Ext h h' → Exa Z h' a Cl → (∀ {O nm d : String} {ty : FieldType}, Laid Z a0 Cl O nm d → parseFieldDescriptor d = some ty → Fld Z h' a O nm d (defaultValue ty)) → Go p l e R s m args below meth c n0 K N Q h' ck' cn' (mkF m pc' Ls (.ref a :: st))) : Go p l e R s m args below meth c n0 K N Q h ck cn (mkF m pc Ls st) := fun T locs X eT hN => by
  obtain ⟨hd, rfl⟩ := hd
  subst hck hcn
  obtain ⟨T', h', X', e', E, A, D, -, st'⟩ := Jvm.RoadKit.newO X C.1 C.2.2.2.1 C.2.2.2.2.1 w wi wz eT (g := mkF m pc Ls st) rfl (hb C.2.1 hd) hc hl
  exact Go.move hN X' e' hN st' (k h' _ rfl E A D)
theorem g_initO (C : Cx p s m meth c Z code maxL own ret) {pc pc' : Nat} {Ls : Array Slot} {st : List Value} {a : Addr} {idx : Nat} (hd : I1 code pc (.invokespecial idx) 3 pc') (w1 : (Cond.methodLink own idx Lib.objectInit).before a0 Z = true) (w2 : (Cond.instanceMethod Lib.objectInit).before a0 Z = true) (w3 : (Cond.code Lib.objectInit ⟨#[0xb1]⟩ 1 none).before a0 Z = true) (hsz : Ls.size = maxL)
    (hf : 1 ≤ R.frames) (W : Nat) (hW : 2 * 0 + (st.map fun v => v.category).sum ≤ W) (hl : W + 12 ≤ R.locals) (k : Go p l e R s m args below meth c n0 K N Q h ck cn (mkF m pc' Ls st)) : Go p l e R s m args below meth c n0 K N Q h ck cn (mkF m pc Ls (.ref a :: st)) := fun T locs X eT hN => by
  obtain ⟨hd, rfl⟩ := hd
  obtain ⟨T', X', e', st'⟩ := Jvm.RoadKit.initO X C.1 C.2.2.2.1 C.2.2.2.2.1 w1 w2 w3 eT (g := mkF m pc Ls (.ref a :: st)) rfl (hsz.trans C.2.2.1.symm) rfl (hb C.2.1 hd) hf (W := W) hW hl
  exact Go.move hN X' e' hN st' k
theorem g_castY (C : Cx p s m meth c Z code maxL own ret) {pc pc' : Nat} {Ls : Array Slot} {st : List Value} {Kl : String} {index : Nat} {a : Addr} (hd : I1 code pc (.checkcast index) 3 pc') (w : (Cond.classLink own index Kl).before a0 Z = true) (F : Ins Z h a Kl true) (k : Go p l e R s m args below meth c n0 K N Q h ck cn (mkF m pc' Ls (.ref a :: st))) : Go p l e R s m args below meth c n0 K N Q h ck cn (mkF m pc Ls (.ref a :: st)) := fun T locs X eT hN => by
  obtain ⟨hd, rfl⟩ := hd
  obtain ⟨T', X', e', st'⟩ := Jvm.RoadKit.castY X C.1 C.2.2.2.1 C.2.2.2.2.1 w eT F (g := mkF m pc Ls (.ref a :: st)) rfl rfl (hb C.2.1 hd)
  exact Go.move hN X' e' hN st' k
theorem g_castNull (C : Cx p s m meth c Z code maxL own ret) {pc pc' : Nat} {Ls : Array Slot} {st : List Value} {index : Nat} (hd : I1 code pc (.checkcast index) 3 pc') (k : Go p l e R s m args below meth c n0 K N Q h ck cn (mkF m pc' Ls (.null :: st))) : Go p l e R s m args below meth c n0 K N Q h ck cn (mkF m pc Ls (.null :: st)) := by
  obtain ⟨hd, rfl⟩ := hd
  exact Go.step (fun T locs X _ t k => X.checkcastNull C.1 (g := mkF m pc Ls (.null :: st)) rfl rfl (hb C.2.1 hd) _ k) k
theorem g_instY (C : Cx p s m meth c Z code maxL own ret) {pc pc' : Nat} {Ls : Array Slot} {st : List Value} {Kl : String} {index : Nat} {a : Addr} (hd : I1 code pc (.instanceof index) 3 pc') (w : (Cond.classLink own index Kl).before a0 Z = true) (F : Ins Z h a Kl true) (k : Go p l e R s m args below meth c n0 K N Q h ck cn (mkF m pc' Ls (.int 1 :: st))) : Go p l e R s m args below meth c n0 K N Q h ck cn (mkF m pc Ls (.ref a :: st)) := fun T locs X eT hN => by
  obtain ⟨hd, rfl⟩ := hd
  obtain ⟨T', X', e', st'⟩ := Jvm.RoadKit.instY X C.1 C.2.2.2.1 C.2.2.2.2.1 w eT F (g := mkF m pc Ls (.ref a :: st)) rfl rfl (hb C.2.1 hd)
  exact Go.move hN X' e' hN st' k
theorem g_instNull (C : Cx p s m meth c Z code maxL own ret) {pc pc' : Nat} {Ls : Array Slot} {st : List Value} {index : Nat} (hd : I1 code pc (.instanceof index) 3 pc') (k : Go p l e R s m args below meth c n0 K N Q h ck cn (mkF m pc' Ls (.int 0 :: st))) : Go p l e R s m args below meth c n0 K N Q h ck cn (mkF m pc Ls (.null :: st)) := by
  obtain ⟨hd, rfl⟩ := hd
  exact Go.step (fun T locs X _ t k => X.instanceofNull C.1 (g := mkF m pc Ls (.null :: st)) rfl rfl (hb C.2.1 hd) _ k) k
/-- an array of n places: what each holds -/
def AV (Z : State) (h : Heap) (a : Addr) (ty : FieldType) (n : Nat) (f : Nat → Value) : Prop := ∃ c : Cell, Arr Z h a c ty ∧ c.slots.size = n ∧ n < 2 ^ 31 ∧ ∀ i, i < n → c.slots[i]? = some (f i)
theorem AV.lt {a : Addr} {ty : FieldType} {n : Nat} {f : Nat → Value} (F : AV Z h a ty n f) : a < h.size := by obtain ⟨c, A, -⟩ := F; exact A.lt
theorem AV.ext {h' : Heap} {a : Addr} {ty : FieldType} {n : Nat} {f : Nat → Value} (F : AV Z h a ty n f) (E : Ext h h') : AV Z h' a ty n f := by obtain ⟨c, A, r⟩ := F; exact ⟨c, A.ext E, r⟩
theorem AV.other {h' : Heap} {a b : Addr} {sl : Nat} {v : Value} {ty : FieldType} {n : Nat} {f : Nat → Value} (F : AV Z h b ty n f) (W : Wr h h' a sl v) (q : b ≠ a) : AV Z h' b ty n f := by obtain ⟨c, A, r⟩ := F; exact ⟨c, A.other W q, r⟩
theorem AV.keep {h' : Heap} {ws : List Addr} {a : Addr} {ty : FieldType} {n : Nat} {f : Nat → Value} (F : AV Z h a ty n f) (K : Keep h h' ws) (q : a ∉ ws) : AV Z h' a ty n f := by obtain ⟨c, A, r⟩ := F; exact ⟨c, ⟨K.2.1 a c A.1 q, A.2⟩, r⟩
theorem AV.congr {a : Addr} {ty : FieldType} {n : Nat} {f g : Nat → Value} (F : AV Z h a ty n f) (q : ∀ i, i < n → f i = g i) : AV Z h a ty n g := by obtain ⟨c, A, r1, r2, r3⟩ := F; exact ⟨c, A, r1, r2, fun i hi => by rw [← q i hi]; exact r3 i hi⟩
theorem AV.ofNew {a : Addr} {ty : FieldType} {cA : ClassId} {z : Int32} (A : Arr Z h a (newA cA ty z) ty) (q : ¬ z < 0) : AV Z h a ty z.toNatClampNeg (fun _ => defaultValue ty) :=
  ⟨_, A, sz_new _ _ _, (back32 q).2, fun i hi => by simp [newA, hi]⟩
theorem AV.set {h' : Heap} {a : Addr} {ty : FieldType} {n : Nat} {f : Nat → Value} {j : Nat} {v : Value} (F : AV Z h a ty n f) (W : Wr h h' a j v) : AV Z h' a ty n (fun i => if i = j then v else f i) := by
  obtain ⟨c, A, r1, r2, r3⟩ := F
  obtain ⟨cell, w1, w2, w3, w4⟩ := W
  cases w1.symm.trans A.1
  refine ⟨c.setSlot j v, A.same ⟨c, w1, w2, w3, w4⟩, by rw [sz_set, r1], r2, fun i hi => ?_⟩
  by_cases q : i = j
  · subst q; simp [Cell.setSlot, w3]
  · simp only [q, if_false]; rw [← r3 i hi]; exact Array.getElem?_setIfInBounds_ne (Ne.symm q)
/-- the place lies inside -/
def Inb (j : Int32) (n : Nat) : Prop := ¬ j < 0 ∧ j.toNatClampNeg < n
theorem Inb.not {j : Int32} {n : Nat} (q : Inb j n) : ¬ (j < 0 ∨ n ≤ j.toNatClampNeg) := fun r => r.elim q.1 (fun z => Nat.not_lt.mpr z q.2)
theorem inb_int {j : Int32} {n : Nat} (h1 : 0 ≤ j.toInt) (h2 : j.toInt < n) : Inb j n := ⟨by simp only [Int32.lt_iff_toInt_lt, Int32.reduceToInt]; omega, by simp only [Int32.toNatClampNeg]; omega⟩
theorem g_newP (C : Cx p s m meth c Z code maxL own ret) {pc pc' : Nat} {Ls : Array Slot} {st : List Value} {aty : ArrayType} {n : Int32} (hd : I1 code pc (.newarray aty) 2 pc') (w : (Cond.arrayClass (newarray.typeOf aty)).before a0 Z = true) (hn : ¬ n < 0) (cap : Nat) (hcap : n.toNatClampNeg ≤ cap) (hb8 : cap * 8 ≤ 536870912) (hc : ck + 1 ≤ R.cells) (hl : cn + cap ≤ R.slots) {ck' cn' : Nat} (hck : ck + 1 = ck') (hcn : cn + cap = cn')
    (k : ∀ (h' : Heap) (a : Addr), a = h.size → Ext h h' → AV Z h' a (newarray.typeOf aty) n.toNatClampNeg (fun _ => defaultValue (newarray.typeOf aty)) → Go p l e R s m args below meth c n0 K N Q h' ck' cn' (mkF m pc' Ls (.ref a :: st))) : Go p l e R s m args below meth c n0 K N Q h ck cn (mkF m pc Ls (.int n :: st)) := fun T locs X eT hN => by
  obtain ⟨hd, rfl⟩ := hd
  subst hck hcn
  obtain ⟨T', h', cA, X', e', E, A, st'⟩ := Jvm.RoadKit.newP X C.1 C.2.2.2.1 w eT (g := mkF m pc Ls (.int n :: st)) rfl (hb C.2.1 hd) rfl hn hcap hb8 hc hl
  exact Go.move hN X' e' hN st' (k h' _ rfl E (AV.ofNew A hn))
theorem g_alen (C : Cx p s m meth c Z code maxL own ret) {pc pc' : Nat} {Ls : Array Slot} {st : List Value} {a : Addr} {ty : FieldType} {n : Nat} {f : Nat → Value} (z : Int32) (hd : I1 code pc .arraylength 1 pc') (F : AV Z h a ty n f) (hz : n.toInt32 = z) (k : Go p l e R s m args below meth c n0 K N Q h ck cn (mkF m pc' Ls (.int z :: st))) : Go p l e R s m args below meth c n0 K N Q h ck cn (mkF m pc Ls (.ref a :: st)) := by
  obtain ⟨hd, rfl⟩ := hd
  obtain ⟨cl, A, r1, r2, r3⟩ := F
  subst hz
  exact Go.step (fun T locs X eT t k => X.arraylength C.1 (by rw [eT]; exact A.1) (State.isArrayOf_alike C.2.2.2.1.alike A.2.1) (g := mkF m pc Ls (.ref a :: st)) rfl rfl (hb C.2.1 hd) _ (by rw [r1]; exact k)) k
theorem g_iald (C : Cx p s m meth c Z code maxL own ret) {pc pc' : Nat} {Ls : Array Slot} {st : List Value} {a : Addr} {j : Int32} {n : Nat} {f : Nat → Value} (v : Value) (hd : I1 code pc .iaload 1 pc') (F : AV Z h a .int n f) (hj : Inb j n) (hv : f j.toNatClampNeg = v) (k : Go p l e R s m args below meth c n0 K N Q h ck cn (mkF m pc' Ls (v :: st))) : Go p l e R s m args below meth c n0 K N Q h ck cn (mkF m pc Ls (.int j :: .ref a :: st)) := by
  obtain ⟨hd, rfl⟩ := hd
  obtain ⟨cl, A, r1, r2, r3⟩ := F
  subst hv
  exact Go.step (fun T locs X eT t k => X.iaload C.1 (by rw [eT]; exact A.1) (State.isArrayOf_alike C.2.2.2.1.alike A.2.1) A.2.2 (by rw [r1]; exact hj.not) (r3 _ hj.2) (g := mkF m pc Ls (.int j :: .ref a :: st)) rfl rfl (hb C.2.1 hd) _ k) k
theorem g_lald (C : Cx p s m meth c Z code maxL own ret) {pc pc' : Nat} {Ls : Array Slot} {st : List Value} {a : Addr} {j : Int32} {n : Nat} {f : Nat → Value} (v : Value) (hd : I1 code pc .laload 1 pc') (F : AV Z h a .long n f) (hj : Inb j n) (hv : f j.toNatClampNeg = v) (k : Go p l e R s m args below meth c n0 K N Q h ck cn (mkF m pc' Ls (v :: st))) : Go p l e R s m args below meth c n0 K N Q h ck cn (mkF m pc Ls (.int j :: .ref a :: st)) := by
  obtain ⟨hd, rfl⟩ := hd
  obtain ⟨cl, A, r1, r2, r3⟩ := F
  subst hv
  exact Go.step (fun T locs X eT t k => X.laload C.1 (by rw [eT]; exact A.1) (State.isArrayOf_alike C.2.2.2.1.alike A.2.1) A.2.2 (by rw [r1]; exact hj.not) (r3 _ hj.2) (g := mkF m pc Ls (.int j :: .ref a :: st)) rfl rfl (hb C.2.1 hd) _ k) k
theorem g_cald (C : Cx p s m meth c Z code maxL own ret) {pc pc' : Nat} {Ls : Array Slot} {st : List Value} {a : Addr} {j : Int32} {n : Nat} {f : Nat → Value} (v : Value) (hd : I1 code pc .caload 1 pc') (F : AV Z h a .char n f) (hj : Inb j n) (hv : f j.toNatClampNeg = v) (k : Go p l e R s m args below meth c n0 K N Q h ck cn (mkF m pc' Ls (v :: st))) : Go p l e R s m args below meth c n0 K N Q h ck cn (mkF m pc Ls (.int j :: .ref a :: st)) := by
  obtain ⟨hd, rfl⟩ := hd
  obtain ⟨cl, A, r1, r2, r3⟩ := F
  subst hv
  exact Go.step (fun T locs X eT t k => X.caload C.1 (by rw [eT]; exact A.1) (State.isArrayOf_alike C.2.2.2.1.alike A.2.1) A.2.2 (by rw [r1]; exact hj.not) (r3 _ hj.2) (g := mkF m pc Ls (.int j :: .ref a :: st)) rfl rfl (hb C.2.1 hd) _ k) k
theorem g_sald (C : Cx p s m meth c Z code maxL own ret) {pc pc' : Nat} {Ls : Array Slot} {st : List Value} {a : Addr} {j : Int32} {n : Nat} {f : Nat → Value} (v : Value) (hd : I1 code pc .saload 1 pc') (F : AV Z h a .short n f) (hj : Inb j n) (hv : f j.toNatClampNeg = v) (k : Go p l e R s m args below meth c n0 K N Q h ck cn (mkF m pc' Ls (v :: st))) : Go p l e R s m args below meth c n0 K N Q h ck cn (mkF m pc Ls (.int j :: .ref a :: st)) := by
  obtain ⟨hd, rfl⟩ := hd
  obtain ⟨cl, A, r1, r2, r3⟩ := F
  subst hv
  exact Go.step (fun T locs X eT t k => X.saload C.1 (by rw [eT]; exact A.1) (State.isArrayOf_alike C.2.2.2.1.alike A.2.1) A.2.2 (by rw [r1]; exact hj.not) (r3 _ hj.2) (g := mkF m pc Ls (.int j :: .ref a :: st)) rfl rfl (hb C.2.1 hd) _ k) k
theorem g_bald (C : Cx p s m meth c Z code maxL own ret) {pc pc' : Nat} {Ls : Array Slot} {st : List Value} {a : Addr} {j : Int32} {n : Nat} {f : Nat → Value} (v : Value) (hd : I1 code pc .baload 1 pc') (F : AV Z h a .byte n f) (hj : Inb j n) (hv : f j.toNatClampNeg = v) (k : Go p l e R s m args below meth c n0 K N Q h ck cn (mkF m pc' Ls (v :: st))) : Go p l e R s m args below meth c n0 K N Q h ck cn (mkF m pc Ls (.int j :: .ref a :: st)) := by
  obtain ⟨hd, rfl⟩ := hd
  obtain ⟨cl, A, r1, r2, r3⟩ := F
  subst hv
  exact Go.step (fun T locs X eT t k => X.baloadBytes C.1 (by rw [eT]; exact A.1) (State.isArrayOf_alike C.2.2.2.1.alike A.2.1) A.2.2 (by rw [r1]; exact hj.not) (r3 _ hj.2) (g := mkF m pc Ls (.int j :: .ref a :: st)) rfl rfl (hb C.2.1 hd) _ k) k
theorem g_zald (C : Cx p s m meth c Z code maxL own ret) {pc pc' : Nat} {Ls : Array Slot} {st : List Value} {a : Addr} {j : Int32} {n : Nat} {f : Nat → Value} (v : Value) (hd : I1 code pc .baload 1 pc') (F : AV Z h a .boolean n f) (hj : Inb j n) (hv : f j.toNatClampNeg = v) (k : Go p l e R s m args below meth c n0 K N Q h ck cn (mkF m pc' Ls (v :: st))) : Go p l e R s m args below meth c n0 K N Q h ck cn (mkF m pc Ls (.int j :: .ref a :: st)) := by
  obtain ⟨hd, rfl⟩ := hd
  obtain ⟨cl, A, r1, r2, r3⟩ := F
  subst hv
  exact Go.step (fun T locs X eT t k => X.baloadBooleans C.1 (by rw [eT]; exact A.1) (State.isArrayOf_alike C.2.2.2.1.alike A.2.1) A.2.2 (by rw [r1]; exact hj.not) (r3 _ hj.2) (g := mkF m pc Ls (.int j :: .ref a :: st)) rfl rfl (hb C.2.1 hd) _ k) k
theorem g_aald (C : Cx p s m meth c Z code maxL own ret) {pc pc' : Nat} {Ls : Array Slot} {st : List Value} {a : Addr} {j : Int32} {ty : FieldType} {n : Nat} {f : Nat → Value} (v : Value) (hd : I1 code pc .aaload 1 pc') (F : AV Z h a ty n f) (hj : Inb j n) (hv : f j.toNatClampNeg = v) (ht : ty.isReference = true) (k : Go p l e R s m args below meth c n0 K N Q h ck cn (mkF m pc' Ls (v :: st))) : Go p l e R s m args below meth c n0 K N Q h ck cn (mkF m pc Ls (.int j :: .ref a :: st)) := by
  obtain ⟨hd, rfl⟩ := hd
  obtain ⟨cl, A, r1, r2, r3⟩ := F
  subst hv
  exact Go.step (fun T locs X eT t k => X.aaload C.1 (by rw [eT]; exact A.1) (State.isArrayOf_alike C.2.2.2.1.alike A.2.1) ht A.2.2 (by rw [r1]; exact hj.not) (r3 _ hj.2) (g := mkF m pc Ls (.int j :: .ref a :: st)) rfl rfl (hb C.2.1 hd) _ k) k
theorem g_iast (C : Cx p s m meth c Z code maxL own ret) {pc pc' : Nat} {Ls : Array Slot} {st : List Value} {a : Addr} {j : Int32} {x : Int32} {n : Nat} {f : Nat → Value} (hd : I1 code pc .iastore 1 pc') (F : AV Z h a .int n f) (hj : Inb j n) (ha : n0 ≤ a)
    (k : ∀ h', Wr h h' a j.toNatClampNeg (.int x) → AV Z h' a .int n (fun i => if i = j.toNatClampNeg then .int x else f i) → Go p l e R s m args below meth c n0 K N Q h' ck cn (mkF m pc' Ls st)) : Go p l e R s m args below meth c n0 K N Q h ck cn (mkF m pc Ls (.int x :: .int j :: .ref a :: st)) := fun T locs X eT hN => by
  obtain ⟨hd, rfl⟩ := hd
  have F' := F
  obtain ⟨cl, A, r1, r2, r3⟩ := F
  obtain ⟨T', h', X', e', W, st'⟩ := Jvm.RoadKit.stI X C.1 C.2.2.2.1 eT A (by rw [r1]; exact hj.not) (g := mkF m pc Ls (.int x :: .int j :: .ref a :: st)) rfl rfl (hb C.2.1 hd)
  exact Go.move hN X' e' (Fr.snoc X' hN ha) st' (k h' W (F'.set W))
theorem g_last (C : Cx p s m meth c Z code maxL own ret) {pc pc' : Nat} {Ls : Array Slot} {st : List Value} {a : Addr} {j : Int32} {x : Int64} {n : Nat} {f : Nat → Value} (hd : I1 code pc .lastore 1 pc') (F : AV Z h a .long n f) (hj : Inb j n) (ha : n0 ≤ a)
    (k : ∀ h', Wr h h' a j.toNatClampNeg (.long x) → AV Z h' a .long n (fun i => if i = j.toNatClampNeg then .long x else f i) → Go p l e R s m args below meth c n0 K N Q h' ck cn (mkF m pc' Ls st)) : Go p l e R s m args below meth c n0 K N Q h ck cn (mkF m pc Ls (.long x :: .int j :: .ref a :: st)) := fun T locs X eT hN => by
  obtain ⟨hd, rfl⟩ := hd
  have F' := F
  obtain ⟨cl, A, r1, r2, r3⟩ := F
  obtain ⟨T', h', X', e', W, st'⟩ := Jvm.RoadKit.stJ X C.1 C.2.2.2.1 eT A (by rw [r1]; exact hj.not) (g := mkF m pc Ls (.long x :: .int j :: .ref a :: st)) rfl rfl (hb C.2.1 hd)
  exact Go.move hN X' e' (Fr.snoc X' hN ha) st' (k h' W (F'.set W))
theorem g_cast (C : Cx p s m meth c Z code maxL own ret) {pc pc' : Nat} {Ls : Array Slot} {st : List Value} {a : Addr} {j : Int32} {x : Int32} {n : Nat} {f : Nat → Value} (hd : I1 code pc .castore 1 pc') (F : AV Z h a .char n f) (hj : Inb j n) (ha : n0 ≤ a)
    (k : ∀ h', Wr h h' a j.toNatClampNeg (.int (nar .char x)) → AV Z h' a .char n (fun i => if i = j.toNatClampNeg then .int (nar .char x) else f i) → Go p l e R s m args below meth c n0 K N Q h' ck cn (mkF m pc' Ls st)) : Go p l e R s m args below meth c n0 K N Q h ck cn (mkF m pc Ls (.int x :: .int j :: .ref a :: st)) := fun T locs X eT hN => by
  obtain ⟨hd, rfl⟩ := hd
  have F' := F
  obtain ⟨cl, A, r1, r2, r3⟩ := F
  obtain ⟨T', h', X', e', W, st'⟩ := Jvm.RoadKit.stC X C.1 C.2.2.2.1 eT A (by rw [r1]; exact hj.not) (g := mkF m pc Ls (.int x :: .int j :: .ref a :: st)) rfl rfl (hb C.2.1 hd)
  exact Go.move hN X' e' (Fr.snoc X' hN ha) st' (k h' W (F'.set W))
theorem g_sast (C : Cx p s m meth c Z code maxL own ret) {pc pc' : Nat} {Ls : Array Slot} {st : List Value} {a : Addr} {j : Int32} {x : Int32} {n : Nat} {f : Nat → Value} (hd : I1 code pc .sastore 1 pc') (F : AV Z h a .short n f) (hj : Inb j n) (ha : n0 ≤ a)
    (k : ∀ h', Wr h h' a j.toNatClampNeg (.int (nar .short x)) → AV Z h' a .short n (fun i => if i = j.toNatClampNeg then .int (nar .short x) else f i) → Go p l e R s m args below meth c n0 K N Q h' ck cn (mkF m pc' Ls st)) : Go p l e R s m args below meth c n0 K N Q h ck cn (mkF m pc Ls (.int x :: .int j :: .ref a :: st)) := fun T locs X eT hN => by
  obtain ⟨hd, rfl⟩ := hd
  have F' := F
  obtain ⟨cl, A, r1, r2, r3⟩ := F
  obtain ⟨T', h', X', e', W, st'⟩ := Jvm.RoadKit.stS X C.1 C.2.2.2.1 eT A (by rw [r1]; exact hj.not) (g := mkF m pc Ls (.int x :: .int j :: .ref a :: st)) rfl rfl (hb C.2.1 hd)
  exact Go.move hN X' e' (Fr.snoc X' hN ha) st' (k h' W (F'.set W))
theorem g_bast (C : Cx p s m meth c Z code maxL own ret) {pc pc' : Nat} {Ls : Array Slot} {st : List Value} {a : Addr} {j : Int32} {x : Int32} {n : Nat} {f : Nat → Value} (hd : I1 code pc .bastore 1 pc') (F : AV Z h a .byte n f) (hj : Inb j n) (ha : n0 ≤ a)
    (k : ∀ h', Wr h h' a j.toNatClampNeg (.int (nar .byte x)) → AV Z h' a .byte n (fun i => if i = j.toNatClampNeg then .int (nar .byte x) else f i) → Go p l e R s m args below meth c n0 K N Q h' ck cn (mkF m pc' Ls st)) : Go p l e R s m args below meth c n0 K N Q h ck cn (mkF m pc Ls (.int x :: .int j :: .ref a :: st)) := fun T locs X eT hN => by
  obtain ⟨hd, rfl⟩ := hd
  have F' := F
  obtain ⟨cl, A, r1, r2, r3⟩ := F
  obtain ⟨T', h', X', e', W, st'⟩ := Jvm.RoadKit.stB X C.1 C.2.2.2.1 eT A (by rw [r1]; exact hj.not) (g := mkF m pc Ls (.int x :: .int j :: .ref a :: st)) rfl rfl (hb C.2.1 hd)
  exact Go.move hN X' e' (Fr.snoc X' hN ha) st' (k h' W (F'.set W))
theorem g_zast (C : Cx p s m meth c Z code maxL own ret) {pc pc' : Nat} {Ls : Array Slot} {st : List Value} {a : Addr} {j : Int32} {x : Int32} {n : Nat} {f : Nat → Value} (hd : I1 code pc .bastore 1 pc') (F : AV Z h a .boolean n f) (hj : Inb j n) (ha : n0 ≤ a)
    (k : ∀ h', Wr h h' a j.toNatClampNeg (.int (nar .boolean x)) → AV Z h' a .boolean n (fun i => if i = j.toNatClampNeg then .int (nar .boolean x) else f i) → Go p l e R s m args below meth c n0 K N Q h' ck cn (mkF m pc' Ls st)) : Go p l e R s m args below meth c n0 K N Q h ck cn (mkF m pc Ls (.int x :: .int j :: .ref a :: st)) := fun T locs X eT hN => by
  obtain ⟨hd, rfl⟩ := hd
  have F' := F
  obtain ⟨cl, A, r1, r2, r3⟩ := F
  obtain ⟨T', h', X', e', W, st'⟩ := Jvm.RoadKit.stZ X C.1 C.2.2.2.1 eT A (by rw [r1]; exact hj.not) (g := mkF m pc Ls (.int x :: .int j :: .ref a :: st)) rfl rfl (hb C.2.1 hd)
  exact Go.move hN X' e' (Fr.snoc X' hN ha) st' (k h' W (F'.set W))
theorem g_callS (C : Cx p s m meth c Z code maxL own ret) {pc pc' : Nat} {Ls : Array Slot} {y : MethodName} {ycode : ByteArray} {ymax : Nat} {yret : Option FieldType} {rm : Room} {as' : Array Value} {Q' : Option Value → Heap → Prop} {index : Nat} (hC : Ctr l Z y ycode ymax yret rm as' h n0 Q') (hd : I1 code pc (.invokestatic index) 3 pc') (w1 : (Cond.methodLink own index y).before a0 Z = true) (w2 : (Cond.static y).before a0 Z = true) (w3 : (Cond.initialized y.cls).before a0 Z = true) (w4 : (Cond.code y ycode ymax yret).before a0 Z = true) (hy : y.cls ≠ "java/lang/invoke/MethodHandle" ∧ y.cls ≠ "java/lang/invoke/VarHandle")
    {argsL st rest : List Value} (hst : st = argsL.reverse ++ rest) (has : argsL.toArray = as') {ps : List FieldType} {r : Option FieldType} (hpd : parseMethodDescriptor y.desc = some ⟨ps, r⟩) (hlen : argsL.length = ps.length) (hsz : Ls.size = maxL) (W : Nat) (hW : 2 * 0 + (rest.map fun v => v.category).sum ≤ W)
    (hf : rm.frames + 1 ≤ R.frames) (hl : W + (ymax + 11) + rm.locals ≤ R.locals) (hc : ck + rm.cells ≤ R.cells) (hs : cn + rm.slots ≤ R.slots) {ck' cn' : Nat} (hck : ck + rm.cells = ck') (hcn : cn + rm.slots = cn')
    (k : ∀ v h', Q' v h' → Go p l e R s m args below meth c n0 K N Q h' ck' cn' (mkF m pc' Ls (v.toList ++ rest))) : Go p l e R s m args below meth c n0 K N Q h ck cn (mkF m pc Ls st) := fun T locs X eT hN => by
  obtain ⟨hd, rfl⟩ := hd
  subst hck hcn hst
  obtain ⟨v, _, ⟨T', L', k', n'⟩, -, X', ⟨Lc, hQ, l1, l2, l3⟩, st'⟩ := Jvm.LawKit.callS X C.1 C.2.2.2.2.1 (mvT C.2.2.2.1 w1) (mvT C.2.2.2.1 w2) (mvT C.2.2.2.1 w3) (mvT C.2.2.2.1 w4) hy (backOf (W := W) (Q := fun v h L => Q' v h ∧ Fr n0 L) (hC []) C.2.2.2.1 w4 w3 hf hl) (g := mkF m pc Ls (argsL.reverse ++ rest)) rfl (hsz.trans C.2.2.1.symm) (argsL := argsL) (rest := rest) (lenOf hpd hlen) rfl hW (hb C.2.1 hd) (fun _ _ => ⟨has, eT, hc, hs⟩)
  dsimp only [Pt.U, Pt.locs, Pt.cells, Pt.slots] at X' l1 l2 l3 st' hQ
  subst l1 l2 l3
  exact Go.move hN X' rfl (Fr.app hN hQ.2) st' (k v _ hQ.1)
theorem g_callI (C : Cx p s m meth c Z code maxL own ret) {pc pc' : Nat} {Ls : Array Slot} {y : MethodName} {ycode : ByteArray} {ymax : Nat} {yret : Option FieldType} {rm : Room} {as' : Array Value} {Q' : Option Value → Heap → Prop} {index : Nat} (hC : Ctr l Z y ycode ymax yret rm as' h n0 Q') {a : Addr} (hd : I1 code pc (.invokespecial index) 3 pc') (hy1 : y.name = "<init>") (w1 : (Cond.methodLink own index y).before a0 Z = true) (w2 : (Cond.instanceMethod y).before a0 Z = true) (w3 : (Cond.initialized y.cls).before a0 Z = true) (w4 : (Cond.code y ycode ymax none).before a0 Z = true) (hyr : yret = none) (hy : y.cls ≠ "java/lang/invoke/MethodHandle" ∧ y.cls ≠ "java/lang/invoke/VarHandle")
    {argsL st rest : List Value} (hst : st = argsL.reverse ++ .ref a :: rest) (has : (.ref a :: argsL).toArray = as') {ps : List FieldType} {r : Option FieldType} (hpd : parseMethodDescriptor y.desc = some ⟨ps, r⟩) (hlen : argsL.length = ps.length) (hsz : Ls.size = maxL) (W : Nat) (hW : 2 * 0 + (rest.map fun v => v.category).sum ≤ W)
    (hf : rm.frames + 1 ≤ R.frames) (hl : W + (ymax + 11) + rm.locals ≤ R.locals) (hc : ck + rm.cells ≤ R.cells) (hs : cn + rm.slots ≤ R.slots) {ck' cn' : Nat} (hck : ck + rm.cells = ck') (hcn : cn + rm.slots = cn')
    (k : ∀ v h', Q' v h' → Go p l e R s m args below meth c n0 K N Q h' ck' cn' (mkF m pc' Ls (v.toList ++ rest))) : Go p l e R s m args below meth c n0 K N Q h ck cn (mkF m pc Ls st) := fun T locs X eT hN => by
  obtain ⟨hd, rfl⟩ := hd
  subst hck hcn hst
  subst hyr
  obtain ⟨v, _, ⟨T', L', k', n'⟩, -, X', ⟨Lc, hQ, l1, l2, l3⟩, st'⟩ := X.specialBack C.1 hy1 C.2.2.2.2.1 (mvT C.2.2.2.1 w1) (mvT C.2.2.2.1 w2) (mvT C.2.2.2.1 w4) hy (backOf (W := W) (Q := fun v h L => Q' v h ∧ Fr n0 L) (hC []) C.2.2.2.1 w4 w3 hf hl) (g := mkF m pc Ls (argsL.reverse ++ .ref a :: rest)) rfl (hsz.trans C.2.2.1.symm) (Steps.refl _) (a := a) (argsL := argsL) (rest := rest) (lenOf hpd hlen) rfl hW (hb C.2.1 hd) (fun _ _ => ⟨has, eT, hc, hs⟩)
  dsimp only [Pt.U, Pt.locs, Pt.cells, Pt.slots] at X' l1 l2 l3 st' hQ
  subst l1 l2 l3
  exact Go.move hN X' rfl (Fr.app hN hQ.2) (fun _ z => st'.trans z) (k v _ hQ.1)
theorem g_callV (C : Cx p s m meth c Z code maxL own ret) {pc pc' : Nat} {Ls : Array Slot} {y : MethodName} {ycode : ByteArray} {ymax : Nat} {yret : Option FieldType} {rm : Room} {as' : Array Value} {Q' : Option Value → Heap → Prop} {index : Nat} (hC : Ctr l Z y ycode ymax yret rm as' h n0 Q') {a : Addr} {x : MethodName} {Cl : String} (hd : I1 code pc (.invokevirtual index) 3 pc') (w1 : (Cond.methodLink own index x).before a0 Z = true) (w2 : (Cond.declares x).before a0 Z = true) (hnf : ∀ s : State, Z.Warmed39 s.vm → NotFace s x) (w5 : (Cond.selects Cl x y).before a0 Z = true) (w6 : (Cond.instanceMethod y).before a0 Z = true) (w3 : (Cond.initialized y.cls).before a0 Z = true) (w4 : (Cond.code y ycode ymax yret).before a0 Z = true) (hy : x.cls ≠ "java/lang/invoke/MethodHandle" ∧ x.cls ≠ "java/lang/invoke/VarHandle") (E : Exa Z h a Cl)
    {argsL st rest : List Value} (hst : st = argsL.reverse ++ .ref a :: rest) (has : (.ref a :: argsL).toArray = as') {ps : List FieldType} {r : Option FieldType} (hpd : parseMethodDescriptor x.desc = some ⟨ps, r⟩) (hlen : argsL.length = ps.length) (hsz : Ls.size = maxL) (W : Nat) (hW : 2 * 0 + (rest.map fun v => v.category).sum ≤ W)
    (hf : rm.frames + 1 ≤ R.frames) (hl : W + (ymax + 11) + rm.locals ≤ R.locals) (hc : ck + rm.cells ≤ R.cells) (hs : cn + rm.slots ≤ R.slots) {ck' cn' : Nat} (hck : ck + rm.cells = ck') (hcn : cn + rm.slots = cn')
    (k : ∀ v h', Q' v h' → Go p l e R s m args below meth c n0 K N Q h' ck' cn' (mkF m pc' Ls (v.toList ++ rest))) : Go p l e R s m args below meth c n0 K N Q h ck cn (mkF m pc Ls st) := fun T locs X eT hN => by
  obtain ⟨hd, rfl⟩ := hd
  subst hck hcn hst
  obtain ⟨cq, kq, q1, q2, q3⟩ := isOf C.2.2.2.1 eT E
  obtain ⟨v, _, ⟨T', L', k', n'⟩, -, X', ⟨Lc, hQ, l1, l2, l3⟩, st'⟩ := X.virtualBack C.1 (y := x) (z := y) C.2.2.2.2.1 (mvT C.2.2.2.1 w1) (mvT C.2.2.2.1 w2) (hnf s C.2.2.2.1) (mvT C.2.2.2.1 w5) (mvT C.2.2.2.1 w6) hy (backOf (W := W) (Q := fun v h L => Q' v h ∧ Fr n0 L) (hC []) C.2.2.2.1 w4 w3 hf hl) q1 q3 (g := mkF m pc Ls (argsL.reverse ++ .ref a :: rest)) rfl (hsz.trans C.2.2.1.symm) (Steps.refl _) (argsL := argsL) (rest := rest) (lenOf hpd hlen) rfl hW (hb C.2.1 hd) (fun _ _ => ⟨has, eT, hc, hs⟩)
  dsimp only [Pt.U, Pt.locs, Pt.cells, Pt.slots] at X' l1 l2 l3 st' hQ
  subst l1 l2 l3
  exact Go.move hN X' rfl (Fr.app hN hQ.2) (fun _ z => st'.trans z) (k v _ hQ.1)
theorem g_callP (C : Cx p s m meth c Z code maxL own ret) {pc pc' : Nat} {Ls : Array Slot} {y : MethodName} {ycode : ByteArray} {ymax : Nat} {yret : Option FieldType} {rm : Room} {as' : Array Value} {Q' : Option Value → Heap → Prop} {index : Nat} (hC : Ctr l Z y ycode ymax yret rm as' h n0 Q') {a : Addr} {Cl : String} (hd : I1 code pc (.invokevirtual index) 3 pc') (w1 : (Cond.methodLink own index y).before a0 Z = true) (w2 : (Cond.instanceMethod y).before a0 Z = true) (w5 : (Cond.selects y.cls y y).before a0 Z = true) (w6 : (Cond.privateMethod y).before a0 Z = true) (w3 : (Cond.initialized y.cls).before a0 Z = true) (w4 : (Cond.code y ycode ymax yret).before a0 Z = true) (hy : y.cls ≠ "java/lang/invoke/MethodHandle" ∧ y.cls ≠ "java/lang/invoke/VarHandle") (E : Exa Z h a Cl)
    {argsL st rest : List Value} (hst : st = argsL.reverse ++ .ref a :: rest) (has : (.ref a :: argsL).toArray = as') {ps : List FieldType} {r : Option FieldType} (hpd : parseMethodDescriptor y.desc = some ⟨ps, r⟩) (hlen : argsL.length = ps.length) (hsz : Ls.size = maxL) (W : Nat) (hW : 2 * 0 + (rest.map fun v => v.category).sum ≤ W)
    (hf : rm.frames + 1 ≤ R.frames) (hl : W + (ymax + 11) + rm.locals ≤ R.locals) (hc : ck + rm.cells ≤ R.cells) (hs : cn + rm.slots ≤ R.slots) {ck' cn' : Nat} (hck : ck + rm.cells = ck') (hcn : cn + rm.slots = cn')
    (k : ∀ v h', Q' v h' → Go p l e R s m args below meth c n0 K N Q h' ck' cn' (mkF m pc' Ls (v.toList ++ rest))) : Go p l e R s m args below meth c n0 K N Q h ck cn (mkF m pc Ls st) := fun T locs X eT hN => by
  obtain ⟨hd, rfl⟩ := hd
  subst hck hcn hst
  obtain ⟨cq, q1, q2⟩ := E.cell
  obtain ⟨v, _, ⟨T', L', k', n'⟩, -, X', ⟨Lc, hQ, l1, l2, l3⟩, st'⟩ := X.privateBack C.1 (y := y) C.2.2.2.2.1 (mvT C.2.2.2.1 w1) (mvT C.2.2.2.1 w2) (mvT C.2.2.2.1 w5) (Cond.privateMethod_at (mvP C.2.2.2.1 w6 (args := #[]))) (mvT C.2.2.2.1 w4) hy (backOf (W := W) (Q := fun v h L => Q' v h ∧ Fr n0 L) (hC []) C.2.2.2.1 w4 w3 hf hl) (g := mkF m pc Ls (argsL.reverse ++ .ref a :: rest)) rfl (hsz.trans C.2.2.1.symm) (Steps.refl _) (a := a) (by rw [eT]; exact q1) q2 (argsL := argsL) (rest := rest) (lenOf hpd hlen) rfl hW (hb C.2.1 hd) (fun _ _ => ⟨has, eT, hc, hs⟩)
  dsimp only [Pt.U, Pt.locs, Pt.cells, Pt.slots] at X' l1 l2 l3 st' hQ
  subst l1 l2 l3
  exact Go.move hN X' rfl (Fr.app hN hQ.2) (fun _ z => st'.trans z) (k v _ hQ.1)
end
end Jvm.OwnGo
namespace Jvm.OwnGo
open Jvm.RoadKit
theorem nar_b (x : Int32) : nar .boolean x = x &&& 1 := rfl
theorem nbT {P : Prop} [Decidable P] : nar .boolean (if P then (1 : Int32) else (0 : Int32)) = 1 ↔ P := by
  by_cases h : P
  · simp only [if_pos h]; exact ⟨fun _ => h, fun _ => rfl⟩
  · simp only [if_neg h]; exact ⟨fun q => absurd q (by decide), fun q => absurd q h⟩
theorem own_nat {i : Nat} (h : i < 2147483648) : i.toInt32.toInt = i := len_toInt h
theorem own_cl {i : Nat} (h : i < 2147483648) : i.toInt32.toNatClampNeg = i := by simp only [Int32.toNatClampNeg, own_nat h]; omega
theorem own_lt {i n : Nat} (hi : i < 2147483648) (hn : n < 2147483648) : i.toInt32 < n.toInt32 ↔ i < n := by
  rw [Int32.lt_iff_toInt_lt, own_nat hi, own_nat hn]; omega
theorem own_inN {i n : Nat} (hi : i < 2147483648) (h : i < n) : Inb i.toInt32 n := inb_int (by rw [own_nat hi]; omega) (by rw [own_nat hi]; omega)
theorem own_rd {α : Type} (F : Nat → α) {i : Nat} (h : i < 2147483648) : F i.toInt32.toNatClampNeg = F i := by rw [own_cl h]
theorem own_succ {i : Nat} (h : i < 2147483647) : i.toInt32 + (1 : Int32) = (i + 1).toInt32 := by
  rw [← Int32.toInt_inj]
  have h1 := c_iadd i.toInt32 1
  have h2 := rng32 (i.toInt32 + 1)
  have h3 : (1 : Int32).toInt = 1 := rfl
  rw [own_nat (by omega), h3] at h1
  rw [own_nat (by omega)]
  omega
theorem AV.small {Z : State} {h : Heap} {a : Addr} {ty : ClassFile.FieldType} {n : Nat} {f : Nat → Value} (V : AV Z h a ty n f) : n < 2147483648 := by
  obtain ⟨c, -, -, r, -⟩ := V; exact r
theorem own_inb {Z : State} {h : Heap} {a : Addr} {ty : ClassFile.FieldType} {n : Nat} {f : Nat → Value} (V : AV Z h a ty n f) {j : Int32} (h0 : ¬ (j < (0 : Int32))) (h1 : j < n.toInt32) : Inb j n := by
  have hn := V.small
  have e0 : (0 : Int32).toInt = 0 := rfl
  rw [Int32.lt_iff_toInt_lt] at h0 h1
  rw [own_nat hn] at h1
  exact inb_int (by omega) (by omega)
end Jvm.OwnGo
namespace Jvm.Pilot.@@N@@
open Jvm Jvm.ClassFile Sem Op Lib Jvm.Free Jvm.Stand Jvm.LawKit Jvm.RoadKit Bundle Jvm.Pilot.@@N@@.Jvm.D
open Jvm.OwnGo
theorem own_eqint {args : Array Value} {first s : State} {o : Option Outcome} {idx : List Nat} {a b : Term} {z : Int32} (hb : b.eval args first o idx s = some (.int z)) (h : (Cond.eq a b).value args first o s idx = some true) : a.eval args first o idx s = some (.int z) := by
  obtain ⟨x, y, e1, e2, k1, k2⟩ := cmp_v (Or.inl h)
  rw [e1]
  cases hb.symm.trans e2
  cases x <;> simp [Cond.value, e1, hb] at h ⊢
  exact h
theorem pn0 : plainFor (⟨"com/example/strict_aspect/strictaspect/model/BooleanValue", "of", "(Z)Lcom/example/strict_aspect/strictaspect/model/BooleanValue;"⟩ : MethodName) = true := by decide +kernel
theorem iO1_0 : I1 prog_34_method_2_code 0 (.iload_n 0) 1 1 := ⟨(by decide +kernel), rfl⟩
theorem iO1_1 : B1 prog_34_method_2_code 1 (.ifCond .eq 9) 9 10 4 := ⟨(by decide +kernel), rfl, by decide, by decide⟩
theorem iO1_4 : I1 prog_34_method_2_code 4 (.getstatic 13) 3 7 := ⟨(by decide +kernel), rfl⟩
theorem iO1_7 : B1 prog_34_method_2_code 7 (.goto 6) 6 13 10 := ⟨(by decide +kernel), rfl, by decide, by decide⟩
theorem iO1_13 : I1 prog_34_method_2_code 13 (.areturn) 1 14 := ⟨(by decide +kernel), rfl⟩
theorem efO1 (m : MethodId)  : entryFrame m #[(.int (1 : Int32))] 1 = mkF m 0 #[.val (.int (1 : Int32))] [] := by first | (simp [entryFrame, mkF, argsToLocals, Value.category]; done) | rfl
def QO1 (Z : State) (w_TRUE : Addr) (h0 : Heap) (n0 : Nat) (v : Option Value) (h : Heap) : Prop := v = some (.ref w_TRUE) ∧ h = h0
set_option maxRecDepth 65536 in
set_option maxHeartbeats 40000000 in
theorem rmO1 (l : Launch) (Z : State) (aZ : Array Value) (hw : ∀ d ∈ tables_1, d.before aZ Z = true) (w_TRUE : Addr) (h0 : Heap) (n0 : Nat) (Z0 : n0 ≤ h0.size) (S_TRUE : Sta Z h0 "com/example/strict_aspect/strictaspect/model/BooleanValue" "TRUE" "Lcom/example/strict_aspect/strictaspect/model/BooleanValue;" (.ref w_TRUE)) :
    Ctr l Z (⟨"com/example/strict_aspect/strictaspect/model/BooleanValue", "of", "(Z)Lcom/example/strict_aspect/strictaspect/model/BooleanValue;"⟩ : MethodName) prog_34_method_2_code 1 (some (.object "com/example/strict_aspect/strictaspect/model/BooleanValue")) ({ frames := 0, cells := 0, slots := 0, locals := 0 } : Room) #[(.int (1 : Int32))] h0 n0 (QO1 Z w_TRUE h0 n0) := by
  refine Ctr.of_go pn0 (fun m => efO1 m ) ?_
  intro p e s m below meth c hnm C
  refine g_iloadN C iO1_0 rfl ?_
  refine g_if_eq C iO1_1 (fun q => absurd q (by decide)) (fun _ => ?_)
  refine g_getS C iO1_4 (host := "") (Or.inl (hw _ (List.mem_of_getElem? (i := 23) rfl))) Via.refl S_TRUE ?_
  refine g_goto C iO1_7 ?_
  exact g_retRef C (t := (.object "com/example/strict_aspect/strictaspect/model/BooleanValue")) iO1_13 rfl rfl rfl (by decide) (by decide) ⟨rfl, rfl⟩
theorem iO0_0 : I1 prog_34_method_2_code 0 (.iload_n 0) 1 1 := ⟨(by decide +kernel), rfl⟩
theorem iO0_1 : B1 prog_34_method_2_code 1 (.ifCond .eq 9) 9 10 4 := ⟨(by decide +kernel), rfl, by decide, by decide⟩
theorem iO0_10 : I1 prog_34_method_2_code 10 (.getstatic 17) 3 13 := ⟨(by decide +kernel), rfl⟩
theorem iO0_13 : I1 prog_34_method_2_code 13 (.areturn) 1 14 := ⟨(by decide +kernel), rfl⟩
theorem efO0 (m : MethodId)  : entryFrame m #[(.int (0 : Int32))] 1 = mkF m 0 #[.val (.int (0 : Int32))] [] := by first | (simp [entryFrame, mkF, argsToLocals, Value.category]; done) | rfl
def QO0 (Z : State) (w_FALSE : Addr) (h0 : Heap) (n0 : Nat) (v : Option Value) (h : Heap) : Prop := v = some (.ref w_FALSE) ∧ h = h0
set_option maxRecDepth 65536 in
set_option maxHeartbeats 40000000 in
theorem rmO0 (l : Launch) (Z : State) (aZ : Array Value) (hw : ∀ d ∈ tables_1, d.before aZ Z = true) (w_FALSE : Addr) (h0 : Heap) (n0 : Nat) (Z0 : n0 ≤ h0.size) (S_FALSE : Sta Z h0 "com/example/strict_aspect/strictaspect/model/BooleanValue" "FALSE" "Lcom/example/strict_aspect/strictaspect/model/BooleanValue;" (.ref w_FALSE)) :
    Ctr l Z (⟨"com/example/strict_aspect/strictaspect/model/BooleanValue", "of", "(Z)Lcom/example/strict_aspect/strictaspect/model/BooleanValue;"⟩ : MethodName) prog_34_method_2_code 1 (some (.object "com/example/strict_aspect/strictaspect/model/BooleanValue")) ({ frames := 0, cells := 0, slots := 0, locals := 0 } : Room) #[(.int (0 : Int32))] h0 n0 (QO0 Z w_FALSE h0 n0) := by
  refine Ctr.of_go pn0 (fun m => efO0 m ) ?_
  intro p e s m below meth c hnm C
  refine g_iloadN C iO0_0 rfl ?_
  refine g_if_eq C iO0_1 (fun _ => ?_) (fun q => absurd (by decide) q)
  refine g_getS C iO0_10 (host := "") (Or.inl (hw _ (List.mem_of_getElem? (i := 4) rfl))) Via.refl S_FALSE ?_
  exact g_retRef C (t := (.object "com/example/strict_aspect/strictaspect/model/BooleanValue")) iO0_13 rfl rfl rfl (by decide) (by decide) ⟨rfl, rfl⟩
theorem pn1 : plainFor (⟨"com/example/strict_aspect/strictaspect/model/BooleanValue", "value", "()Z"⟩ : MethodName) = true := by decide +kernel
theorem iV_0 : I1 prog_34_method_7_code 0 (.aload_n 0) 1 1 := ⟨(by decide +kernel), rfl⟩
theorem iV_1 : I1 prog_34_method_7_code 1 (.getfield 7) 3 4 := ⟨(by decide +kernel), rfl⟩
theorem iV_4 : I1 prog_34_method_7_code 4 (.ireturn) 1 5 := ⟨(by decide +kernel), rfl⟩
theorem efV (m : MethodId) (a0 : Addr) : entryFrame m #[(.ref a0)] 1 = mkF m 0 #[.val (.ref a0)] [] := by first | (simp [entryFrame, mkF, argsToLocals, Value.category]; done) | rfl
def QV (Z : State) (a0 : Addr) (w_value_a0 : Int32) (h0 : Heap) (n0 : Nat) (v : Option Value) (h : Heap) : Prop := v = some (.int (nar .boolean w_value_a0)) ∧ h = h0
set_option maxRecDepth 65536 in
set_option maxHeartbeats 40000000 in
theorem rmV (l : Launch) (Z : State) (aZ : Array Value) (hw : ∀ d ∈ tables_1, d.before aZ Z = true) (a0 : Addr) (w_value_a0 : Int32) (h0 : Heap) (n0 : Nat) (Z0 : n0 ≤ h0.size) (F_value_a0 : Fld Z h0 a0 "com/example/strict_aspect/strictaspect/model/BooleanValue" "value" "Z" (.int w_value_a0)) :
    Ctr l Z (⟨"com/example/strict_aspect/strictaspect/model/BooleanValue", "value", "()Z"⟩ : MethodName) prog_34_method_7_code 1 (some .boolean) ({ frames := 0, cells := 0, slots := 0, locals := 0 } : Room) #[(.ref a0)] h0 n0 (QV Z a0 w_value_a0 h0 n0) := by
  refine Ctr.of_go pn1 (fun m => efV m a0) ?_
  intro p e s m below meth c hnm C
  refine g_aloadN C iV_0 rfl rfl ?_
  refine g_getF C iV_1 (host := "") (Or.inl (hw _ (List.mem_of_getElem? (i := 11) rfl))) Via.refl F_value_a0 ?_
  exact g_retNar C (t := .boolean) iV_4 rfl (by simp) (by decide) (by decide) ⟨rfl, rfl⟩
theorem pn2 : plainFor (⟨"com/example/strict_aspect/strictaspect/model/BooleanValue", "kind", "()Lcom/example/strict_aspect/strictaspect/model/Kind;"⟩ : MethodName) = true := by decide +kernel
theorem iK_0 : I1 prog_34_method_3_code 0 (.getstatic 20) 3 3 := ⟨(by decide +kernel), rfl⟩
theorem iK_3 : I1 prog_34_method_3_code 3 (.areturn) 1 4 := ⟨(by decide +kernel), rfl⟩
theorem efK (m : MethodId) (a0 : Addr) : entryFrame m #[(.ref a0)] 1 = mkF m 0 #[.val (.ref a0)] [] := by first | (simp [entryFrame, mkF, argsToLocals, Value.category]; done) | rfl
def QK (Z : State) (a0 : Addr) (w_BOOLEAN : Addr) (h0 : Heap) (n0 : Nat) (v : Option Value) (h : Heap) : Prop := v = some (.ref w_BOOLEAN) ∧ h = h0
set_option maxRecDepth 65536 in
set_option maxHeartbeats 40000000 in
theorem rmK (l : Launch) (Z : State) (aZ : Array Value) (hw : ∀ d ∈ tables_1, d.before aZ Z = true) (a0 : Addr) (w_BOOLEAN : Addr) (h0 : Heap) (n0 : Nat) (Z0 : n0 ≤ h0.size) (S_BOOLEAN : Sta Z h0 "com/example/strict_aspect/strictaspect/model/Kind" "BOOLEAN" "Lcom/example/strict_aspect/strictaspect/model/Kind;" (.ref w_BOOLEAN)) :
    Ctr l Z (⟨"com/example/strict_aspect/strictaspect/model/BooleanValue", "kind", "()Lcom/example/strict_aspect/strictaspect/model/Kind;"⟩ : MethodName) prog_34_method_3_code 1 (some (.object "com/example/strict_aspect/strictaspect/model/Kind")) ({ frames := 0, cells := 0, slots := 0, locals := 0 } : Room) #[(.ref a0)] h0 n0 (QK Z a0 w_BOOLEAN h0 n0) := by
  refine Ctr.of_go pn2 (fun m => efK m a0) ?_
  intro p e s m below meth c hnm C
  refine g_getS C iK_0 (host := "") (Or.inl (hw _ (List.mem_of_getElem? (i := 19) rfl))) Via.refl S_BOOLEAN ?_
  exact g_retRef C (t := (.object "com/example/strict_aspect/strictaspect/model/Kind")) iK_3 rfl rfl rfl (by decide) (by decide) ⟨rfl, rfl⟩
theorem pd0 : parseMethodDescriptor "(Z)Lcom/example/strict_aspect/strictaspect/model/BooleanValue;" = some ⟨[.boolean], some (.object "com/example/strict_aspect/strictaspect/model/BooleanValue")⟩ := by decide +kernel
theorem pd1 : parseMethodDescriptor "()Z" = some ⟨[], some .boolean⟩ := by decide +kernel
theorem pd2 : parseMethodDescriptor "()Lcom/example/strict_aspect/strictaspect/model/Kind;" = some ⟨[], some (.object "com/example/strict_aspect/strictaspect/model/Kind")⟩ := by decide +kernel
theorem pn3 : plainFor (⟨"com/example/strict_aspect/strictaspect/model/BooleanValueOfPinLaw", "law", "(I)Z"⟩ : MethodName) = true := by decide +kernel
theorem iM_0 : I1 code 0 (.iload_n 0) 1 1 := ⟨at_0, rfl⟩
theorem iM_1 : I1 code 1 (.iconst 1) 1 2 := ⟨at_1, rfl⟩
theorem iM_2 : I1 code 2 (.iand) 1 3 := ⟨at_2, rfl⟩
theorem iM_3 : B1 code 3 (.ifCond .eq 7) 7 10 6 := ⟨at_3, rfl, by decide, by decide⟩
theorem iM_6 : I1 code 6 (.iconst 1) 1 7 := ⟨at_6, rfl⟩
theorem iM_7 : B1 code 7 (.goto 4) 4 11 10 := ⟨at_7, rfl, by decide, by decide⟩
theorem iM_10 : I1 code 10 (.iconst 0) 1 11 := ⟨at_10, rfl⟩
theorem iM_11 : I1 code 11 (.istore_n 1) 1 12 := ⟨at_11, rfl⟩
theorem iM_12 : I1 code 12 (.iload_n 1) 1 13 := ⟨at_12, rfl⟩
theorem iM_13 : I1 code 13 (.invokestatic 7) 3 16 := ⟨at_13, rfl⟩
theorem iM_16 : I1 code 16 (.astore_n 2) 1 17 := ⟨at_16, rfl⟩
theorem iM_17 : I1 code 17 (.aload_n 2) 1 18 := ⟨at_17, rfl⟩
theorem iM_18 : B1 code 18 (.ifnonnull 5) 5 23 21 := ⟨at_18, rfl, by decide, by decide⟩
theorem iM_23 : I1 code 23 (.aload_n 2) 1 24 := ⟨at_23, rfl⟩
theorem iM_24 : I1 code 24 (.invokevirtual 13) 3 27 := ⟨at_24, rfl⟩
theorem iM_27 : I1 code 27 (.iload_n 1) 1 28 := ⟨at_27, rfl⟩
theorem iM_28 : B1 code 28 (.if_icmp .eq 5) 5 33 31 := ⟨at_28, rfl, by decide, by decide⟩
theorem iM_31 : I1 code 31 (.iconst 0) 1 32 := ⟨at_31, rfl⟩
theorem iM_32 : I1 code 32 (.ireturn) 1 33 := ⟨at_32, rfl⟩
theorem iM_33 : I1 code 33 (.iload_n 1) 1 34 := ⟨at_33, rfl⟩
theorem iM_34 : B1 code 34 (.ifCond .eq 9) 9 43 37 := ⟨at_34, rfl, by decide, by decide⟩
theorem iM_37 : I1 code 37 (.getstatic 17) 3 40 := ⟨at_37, rfl⟩
theorem iM_40 : B1 code 40 (.goto 6) 6 46 43 := ⟨at_40, rfl, by decide, by decide⟩
theorem iM_43 : I1 code 43 (.getstatic 21) 3 46 := ⟨at_43, rfl⟩
theorem iM_46 : I1 code 46 (.astore_n 3) 1 47 := ⟨at_46, rfl⟩
theorem iM_47 : I1 code 47 (.aload_n 2) 1 48 := ⟨at_47, rfl⟩
theorem iM_48 : I1 code 48 (.aload_n 3) 1 49 := ⟨at_48, rfl⟩
theorem iM_49 : B1 code 49 (.if_acmp .eq 5) 5 54 52 := ⟨at_49, rfl, by decide, by decide⟩
theorem iM_54 : I1 code 54 (.aload_n 2) 1 55 := ⟨at_54, rfl⟩
theorem iM_55 : I1 code 55 (.invokevirtual 24) 3 58 := ⟨at_55, rfl⟩
theorem iM_58 : I1 code 58 (.getstatic 28) 3 61 := ⟨at_58, rfl⟩
theorem iM_61 : B1 code 61 (.if_acmp .ne 7) 7 68 64 := ⟨at_61, rfl, by decide, by decide⟩
theorem iM_64 : I1 code 64 (.iconst 1) 1 65 := ⟨at_64, rfl⟩
theorem iM_65 : B1 code 65 (.goto 4) 4 69 68 := ⟨at_65, rfl, by decide, by decide⟩
theorem iM_69 : I1 code 69 (.ireturn) 1 70 := ⟨at_69, rfl⟩
theorem leafM_0 (p0 : Int32) (hc3_1 : (p0 &&& (1 : Int32)) = (0 : Int32)) (hc28_1 : (nar .boolean (0 : Int32)) = (0 : Int32)) : nar .boolean (1 : Int32) = 1 := by
  first | rfl | exact absurd (by decide) hc28_1
theorem leafM_1 (p0 : Int32) (hc3_1 : (p0 &&& (1 : Int32)) = (0 : Int32)) (hc28_1 : ¬ ((nar .boolean (0 : Int32)) = (0 : Int32))) : nar .boolean (0 : Int32) = 1 := by
  first | rfl | exact absurd (by decide) hc28_1
theorem leafM_2 (p0 : Int32) (hc3_1 : ¬ ((p0 &&& (1 : Int32)) = (0 : Int32))) (hc28_1 : (nar .boolean (1 : Int32)) = (1 : Int32)) : nar .boolean (1 : Int32) = 1 := by
  first | rfl | exact absurd (by decide) hc28_1
theorem leafM_3 (p0 : Int32) (hc3_1 : ¬ ((p0 &&& (1 : Int32)) = (0 : Int32))) (hc28_1 : ¬ ((nar .boolean (1 : Int32)) = (1 : Int32))) : nar .boolean (0 : Int32) = 1 := by
  first | rfl | exact absurd (by decide) hc28_1
theorem efM (m : MethodId) (p0 : Int32) : entryFrame m #[(.int p0)] maxLocals = mkF m 0 #[.val (.int p0), .unset, .unset, .unset] [] := by first | (simp [entryFrame, mkF, argsToLocals, Value.category, maxLocals]; done) | rfl
def QM (Z : State) (p0 : Int32) (t : Addr) (f : Addr) (k : Addr) (h0 : Heap) (n0 : Nat) (v : Option Value) (h : Heap) : Prop := v = some (.int 1)
set_option maxRecDepth 65536 in
set_option maxHeartbeats 40000000 in
theorem rmM (l : Launch) (Z : State) (aZ : Array Value) (hw : ∀ d ∈ tables_1, d.before aZ Z = true) (p0 : Int32) (t : Addr) (f : Addr) (k : Addr) (h0 : Heap) (n0 : Nat) (Z0 : n0 ≤ h0.size) (S_T : Sta Z h0 "com/example/strict_aspect/strictaspect/model/BooleanValue" "TRUE" "Lcom/example/strict_aspect/strictaspect/model/BooleanValue;" (.ref t)) (S_F : Sta Z h0 "com/example/strict_aspect/strictaspect/model/BooleanValue" "FALSE" "Lcom/example/strict_aspect/strictaspect/model/BooleanValue;" (.ref f)) (S_K : Sta Z h0 "com/example/strict_aspect/strictaspect/model/Kind" "BOOLEAN" "Lcom/example/strict_aspect/strictaspect/model/Kind;" (.ref k)) (E_t : Exa Z h0 t "com/example/strict_aspect/strictaspect/model/BooleanValue") (E_f : Exa Z h0 f "com/example/strict_aspect/strictaspect/model/BooleanValue") (F_t : Fld Z h0 t "com/example/strict_aspect/strictaspect/model/BooleanValue" "value" "Z" (.int (1 : Int32))) (F_f : Fld Z h0 f "com/example/strict_aspect/strictaspect/model/BooleanValue" "value" "Z" (.int (0 : Int32))) :
    Ctr l Z x code maxLocals ret room_1 #[(.int p0)] h0 n0 (QM Z p0 t f k h0 n0) := by
  refine Ctr.of_go pn3 (fun m => efM m p0) ?_
  intro p e s m below meth c hnm C
  refine g_iloadN C iM_0 rfl ?_
  refine g_iconst C (1 : Int32) iM_1 rfl ?_
  refine g_iand C iM_2 ?_
  refine g_if_eq C iM_3 (fun hc3_1 => ?_) (fun hc3_1 => ?_)
  · refine g_iconst C (0 : Int32) iM_10 rfl ?_
    refine g_istoreN C (Ls' := #[.val (.int p0), .val (.int (0 : Int32)), .unset, .unset]) iM_11 rfl ?_
    refine g_iloadN C iM_12 rfl ?_
    refine g_callS C (rmO0 l Z aZ hw f h0 n0 Z0 S_F) iM_13 (hw _ (List.mem_of_getElem? (i := 0) rfl)) (hw _ (List.mem_of_getElem? (i := 1) rfl)) (hw _ (List.mem_of_getElem? (i := 2) rfl)) (hw _ (List.mem_of_getElem? (i := 3) rfl)) (by decide) (argsL := [(.int (0 : Int32))]) (rest := []) rfl rfl pd0 rfl rfl 0 (Nat.le_of_eq rfl) (by decide) (by decide) (by decide) (by decide) rfl rfl ?_
    rintro _ _ ⟨rfl, he1⟩
    refine Go.heap he1.symm ?_
    refine Go.some' ?_
    refine g_astoreN C (Ls' := #[.val (.int p0), .val (.int (0 : Int32)), .val (.ref f), .unset]) iM_16 rfl rfl ?_
    refine g_aloadN C iM_17 rfl rfl ?_
    refine g_ifnonnullY C iM_18 ?_
    refine g_aloadN C iM_23 rfl rfl ?_
    refine g_callV C (rmV l Z aZ hw f (0 : Int32) h0 n0 Z0 F_f) (a := f) iM_24 (hw _ (List.mem_of_getElem? (i := 6) rfl)) (hw _ (List.mem_of_getElem? (i := 7) rfl)) (fun s hZ => notFace_of_selects (args := #[]) (mvT hZ (hw _ (List.mem_of_getElem? (i := 9) rfl)))) (hw _ (List.mem_of_getElem? (i := 9) rfl)) (hw _ (List.mem_of_getElem? (i := 8) rfl)) (hw _ (List.mem_of_getElem? (i := 2) rfl)) (hw _ (List.mem_of_getElem? (i := 10) rfl)) (by decide) E_f (argsL := []) (rest := []) rfl rfl pd1 rfl rfl 0 (Nat.le_of_eq rfl) (by decide) (by decide) (by decide) (by decide) rfl rfl ?_
    rintro _ _ ⟨rfl, he2⟩
    refine Go.heap he2.symm ?_
    refine Go.some' ?_
    refine g_iloadN C iM_27 rfl ?_
    refine g_icmp_eq C iM_28 (fun hc28_1 => ?_) (fun hc28_1 => ?_)
    · refine g_iloadN C iM_33 rfl ?_
      refine g_if_eq C iM_34 (fun _ => ?_) (fun q => absurd (by decide) q)
      refine g_getS C iM_43 (host := "") (Or.inl (hw _ (List.mem_of_getElem? (i := 13) rfl))) Via.refl S_F ?_
      refine g_astoreN C (Ls' := #[.val (.int p0), .val (.int (0 : Int32)), .val (.ref f), .val (.ref f)]) iM_46 rfl rfl ?_
      refine g_aloadN C iM_47 rfl rfl ?_
      refine g_aloadN C iM_48 rfl rfl ?_
      refine g_acmp_eq C rfl rfl iM_49 (fun _ => ?_) (fun q => absurd rfl q)
      refine g_aloadN C iM_54 rfl rfl ?_
      refine g_callV C (rmK l Z aZ hw f k h0 n0 Z0 S_K) (a := f) iM_55 (hw _ (List.mem_of_getElem? (i := 14) rfl)) (hw _ (List.mem_of_getElem? (i := 15) rfl)) (fun s hZ => notFace_of_selects (args := #[]) (mvT hZ (hw _ (List.mem_of_getElem? (i := 17) rfl)))) (hw _ (List.mem_of_getElem? (i := 17) rfl)) (hw _ (List.mem_of_getElem? (i := 16) rfl)) (hw _ (List.mem_of_getElem? (i := 2) rfl)) (hw _ (List.mem_of_getElem? (i := 18) rfl)) (by decide) E_f (argsL := []) (rest := []) rfl rfl pd2 rfl rfl 0 (Nat.le_of_eq rfl) (by decide) (by decide) (by decide) (by decide) rfl rfl ?_
      rintro _ _ ⟨rfl, he3⟩
      refine Go.heap he3.symm ?_
      refine Go.some' ?_
      refine g_getS C iM_58 (host := "") (Or.inl (hw _ (List.mem_of_getElem? (i := 22) rfl))) Via.refl S_K ?_
      refine g_acmp_ne C rfl rfl iM_61 (fun _ => ?_) (fun q => absurd rfl q)
      refine g_iconst C (1 : Int32) iM_64 rfl ?_
      refine g_goto C iM_65 ?_
      exact g_retNar C (t := .boolean) iM_69 rfl (by simp) (by decide) (by decide) (show _ = _ from congrArg (fun z => some (Value.int z)) (leafM_0 p0 hc3_1 hc28_1))
    · refine g_iconst C (0 : Int32) iM_31 rfl ?_
      exact g_retNar C (t := .boolean) iM_32 rfl (by simp) (by decide) (by decide) (show _ = _ from congrArg (fun z => some (Value.int z)) (leafM_1 p0 hc3_1 hc28_1))
  · refine g_iconst C (1 : Int32) iM_6 rfl ?_
    refine g_goto C iM_7 ?_
    refine g_istoreN C (Ls' := #[.val (.int p0), .val (.int (1 : Int32)), .unset, .unset]) iM_11 rfl ?_
    refine g_iloadN C iM_12 rfl ?_
    refine g_callS C (rmO1 l Z aZ hw t h0 n0 Z0 S_T) iM_13 (hw _ (List.mem_of_getElem? (i := 0) rfl)) (hw _ (List.mem_of_getElem? (i := 1) rfl)) (hw _ (List.mem_of_getElem? (i := 2) rfl)) (hw _ (List.mem_of_getElem? (i := 3) rfl)) (by decide) (argsL := [(.int (1 : Int32))]) (rest := []) rfl rfl pd0 rfl rfl 0 (Nat.le_of_eq rfl) (by decide) (by decide) (by decide) (by decide) rfl rfl ?_
    rintro _ _ ⟨rfl, he4⟩
    refine Go.heap he4.symm ?_
    refine Go.some' ?_
    refine g_astoreN C (Ls' := #[.val (.int p0), .val (.int (1 : Int32)), .val (.ref t), .unset]) iM_16 rfl rfl ?_
    refine g_aloadN C iM_17 rfl rfl ?_
    refine g_ifnonnullY C iM_18 ?_
    refine g_aloadN C iM_23 rfl rfl ?_
    refine g_callV C (rmV l Z aZ hw t (1 : Int32) h0 n0 Z0 F_t) (a := t) iM_24 (hw _ (List.mem_of_getElem? (i := 6) rfl)) (hw _ (List.mem_of_getElem? (i := 7) rfl)) (fun s hZ => notFace_of_selects (args := #[]) (mvT hZ (hw _ (List.mem_of_getElem? (i := 9) rfl)))) (hw _ (List.mem_of_getElem? (i := 9) rfl)) (hw _ (List.mem_of_getElem? (i := 8) rfl)) (hw _ (List.mem_of_getElem? (i := 2) rfl)) (hw _ (List.mem_of_getElem? (i := 10) rfl)) (by decide) E_t (argsL := []) (rest := []) rfl rfl pd1 rfl rfl 0 (Nat.le_of_eq rfl) (by decide) (by decide) (by decide) (by decide) rfl rfl ?_
    rintro _ _ ⟨rfl, he5⟩
    refine Go.heap he5.symm ?_
    refine Go.some' ?_
    refine g_iloadN C iM_27 rfl ?_
    refine g_icmp_eq C iM_28 (fun hc28_1 => ?_) (fun hc28_1 => ?_)
    · refine g_iloadN C iM_33 rfl ?_
      refine g_if_eq C iM_34 (fun q => absurd q (by decide)) (fun _ => ?_)
      refine g_getS C iM_37 (host := "") (Or.inl (hw _ (List.mem_of_getElem? (i := 25) rfl))) Via.refl S_T ?_
      refine g_goto C iM_40 ?_
      refine g_astoreN C (Ls' := #[.val (.int p0), .val (.int (1 : Int32)), .val (.ref t), .val (.ref t)]) iM_46 rfl rfl ?_
      refine g_aloadN C iM_47 rfl rfl ?_
      refine g_aloadN C iM_48 rfl rfl ?_
      refine g_acmp_eq C rfl rfl iM_49 (fun _ => ?_) (fun q => absurd rfl q)
      refine g_aloadN C iM_54 rfl rfl ?_
      refine g_callV C (rmK l Z aZ hw t k h0 n0 Z0 S_K) (a := t) iM_55 (hw _ (List.mem_of_getElem? (i := 14) rfl)) (hw _ (List.mem_of_getElem? (i := 15) rfl)) (fun s hZ => notFace_of_selects (args := #[]) (mvT hZ (hw _ (List.mem_of_getElem? (i := 17) rfl)))) (hw _ (List.mem_of_getElem? (i := 17) rfl)) (hw _ (List.mem_of_getElem? (i := 16) rfl)) (hw _ (List.mem_of_getElem? (i := 2) rfl)) (hw _ (List.mem_of_getElem? (i := 18) rfl)) (by decide) E_t (argsL := []) (rest := []) rfl rfl pd2 rfl rfl 0 (Nat.le_of_eq rfl) (by decide) (by decide) (by decide) (by decide) rfl rfl ?_
      rintro _ _ ⟨rfl, he6⟩
      refine Go.heap he6.symm ?_
      refine Go.some' ?_
      refine g_getS C iM_58 (host := "") (Or.inl (hw _ (List.mem_of_getElem? (i := 22) rfl))) Via.refl S_K ?_
      refine g_acmp_ne C rfl rfl iM_61 (fun _ => ?_) (fun q => absurd rfl q)
      refine g_iconst C (1 : Int32) iM_64 rfl ?_
      refine g_goto C iM_65 ?_
      exact g_retNar C (t := .boolean) iM_69 rfl (by simp) (by decide) (by decide) (show _ = _ from congrArg (fun z => some (Value.int z)) (leafM_2 p0 hc3_1 hc28_1))
    · refine g_iconst C (0 : Int32) iM_31 rfl ?_
      exact g_retNar C (t := .boolean) iM_32 rfl (by simp) (by decide) (by decide) (show _ = _ from congrArg (fun z => some (Value.int z)) (leafM_3 p0 hc3_1 hc28_1))
set_option maxRecDepth 65536 in
set_option maxHeartbeats 40000000 in
theorem comes_1 {Post : Tables → Env → Array Value → State → Outcome → State → Prop} (hpost : ∀ tb e args s v u, (limb_1_1.after args s (.returned v) u = true ∧ limb_1_2.after args s (.returned v) u = true ∧ True) → FrameEnd s (.returned v) u (Jvm.fieldLocs frame_1_writes args s ++ Jvm.arrayLocs frame_1_arrays args s ++ Jvm.staticLocs frame_1_statics s) 0 0 → Post tb e args s (.returned v) u) :
    ArmFor flags0 classFile x code maxLocals ret World_1 tables_1 room_1 Calls_1 rest_1 Pre_1 Post := by
  intro l hfl _ _ p e ha hc hk s m args below hf hA hF happ hP
  obtain ⟨hcalls, hrest, hpre⟩ := hP
  obtain ⟨-, -, -, hnamed, -, -, -, hat⟩ := (Spec.applies_iff hf).mp happ
  obtain ⟨hg, hn⟩ := and_e (Cond.before_iff.mp (show (Jvm.Cond.and given_1 narrow_1).before args s = true from hpre))
  obtain ⟨gg1, gg2⟩ := and_e hg
  obtain ⟨w0, rfl⟩ : ∃ w0 : Value, args = #[w0] := by
    have hs : args.size = 1 := by simpa [Cond.value, given_1] using gg1
    obtain ⟨L⟩ := args
    match L, hs with
    | [w0], _ => exact ⟨w0, rfl⟩
  have hw := fun d (hd : d ∈ tables_1) => atoms_spec (ws := Jvm.Cond.code x code maxLocals ret :: tables_1) hat d (List.mem_cons_of_mem _ hd)
  have hfit : Fit s := fun {y c} hc i hi => by
    obtain ⟨ha, rfl⟩ := Array.getElem?_eq_some_iff.mp hc
    have q := List.all_eq_true.mp ((Array.all_eq_true_iff_forall_mem.mp hF) _ (Array.getElem_mem ha)) i (List.mem_range.mpr hi)
    simpa [Array.getElem?_eq_getElem hi] using q
  obtain ⟨i0, ei0⟩ := is_v gg2
  obtain rfl : w0 = (.int i0) := Option.some.inj ei0
  obtain ⟨nF, hn2⟩ := and_e hn
  obtain ⟨vF, hn3⟩ := and_e hn2
  obtain ⟨nK, hn4⟩ := and_e hn3
  obtain ⟨nT, vT⟩ := and_e hn4
  obtain ⟨f, ef⟩ := exa_v nF
  obtain ⟨k, ek⟩ := exa_v nK
  obtain ⟨t, et⟩ := exa_v nT
  have S_f := Sta.start ef (Or.inr ⟨(hw _ (List.mem_of_getElem? (i := 2) rfl)), (hw _ (List.mem_of_getElem? (i := 5) rfl))⟩)
  have E_f := Exa.start ef nF
  have S_t := Sta.start et (Or.inr ⟨(hw _ (List.mem_of_getElem? (i := 2) rfl)), (hw _ (List.mem_of_getElem? (i := 24) rfl))⟩)
  have E_t := Exa.start et nT
  have S_k := Sta.start ek (Or.inr ⟨(hw _ (List.mem_of_getElem? (i := 20) rfl)), (hw _ (List.mem_of_getElem? (i := 21) rfl))⟩)
  have E_k := Exa.start ek nK
  have F_f : Fld s s.heap f "com/example/strict_aspect/strictaspect/model/BooleanValue" "value" "Z" (.int (0 : Int32)) := by
    refine Fld.start ?_
    rw [← fld_at ef]
    exact own_eqint (Term.int_eval (0)) vF
  have F_t : Fld s s.heap t "com/example/strict_aspect/strictaspect/model/BooleanValue" "value" "Z" (.int (1 : Int32)) := by
    refine Fld.start ?_
    rw [← fld_at et]
    exact own_eqint (Term.int_eval (1)) vT
  obtain ⟨n, o, h1, h2, h3, _, L, rfl, ⟨rfl, N⟩, hq⟩ := rmM l s _ hw i0 t f k s.heap s.heap.size (Nat.le_refl _) S_t S_f S_k E_t E_f F_t F_f tables_1 p e ha hc hk s m _ below hf ((Spec.applies_iff_loose hf).mp happ).1 ⟨rfl, State.Warmed39.refl s, rfl⟩ trivial
  refine ⟨n, _, h1, h2, h3, hpost _ _ _ _ _ _ ⟨Cond.after_iff.mpr rfl, Cond.after_iff.mpr (eq_i res_at (Term.int_eval (1)) rfl), trivial⟩ ⟨hq.1, hq.2.1, (hq.2.2.sift fun y hy => Or.inr (N y hy)).mono (by decide) (by decide)⟩⟩
theorem main_1_1 : Claimed_1_1 := comes_1 fun _ _ _ _ _ _ h hF => ⟨h.1, hF⟩
theorem main_1_2 : Claimed_1_2 := comes_1 fun _ _ _ _ _ _ h hF => ⟨h.2.1, hF⟩
end Jvm.Pilot.@@N@@
namespace Jvm.Pilot.@@N@@
open Jvm Jvm.ClassFile Sem Op Lib Jvm.Free Jvm.Stand Jvm.Pilot.@@N@@.Jvm.D
/-! MADE BY PROGRAM (witnessworld.py) out of the Statement's table words and the real class files: 15 classes; the members and pool entries that the words name. The judged class is class 1, her method 1. -/
namespace start1
open Jvm.ClassFile
def u (s : String) : CpInfo := .utf8 (stringToUtf16 s)
/-- a pool by its gaps: so many unusable entries, then the entry; so many at the end -/
def gap : Nat → List CpInfo → List CpInfo
  | 0, r => r
  | n + 1, r => .unusable :: gap n r
def poolList (es : List (Nat × CpInfo)) (last : Nat) : List CpInfo := es.foldr (fun e r => gap e.1 (e.2 :: r)) (gap last [])
def pool (es : List (Nat × CpInfo)) (last : Nat) : Array CpInfo := ⟨poolList es last⟩
def fileOf (pool : Array CpInfo) (this : Nat) (attrs : Array Attribute := #[]) (ms : Array MethodInfo := #[]) (fl : Nat := 33) (sup : Nat := 0) (ifs : Array Nat := #[]) (fds : Array FieldInfo := #[]) : ClassFile where
  minorVersion := 0
  majorVersion := 65
  constantPool := pool
  accessFlags := fl
  thisClass := this
  superClass := sup
  interfaces := ifs
  fields := fds
  methods := ms
  attributes := attrs
def plain (name : String) (sup : Option ClassId) : Class where
  name := name
  kind := .ordinary
  loader := none
  accessFlags := 33
  super := sup
  interfaces := #[]
  cf := none
  fields := #[]
  methods := #[]
  instanceTypes := #[]
  staticTypes := #[]
  resolved := #[]
  callSites := []
  init := .initialized
  statics := none
  mirror := none

def pool0 : Array CpInfo := pool [(5, u "<init>"), (0, u "()V"), (1, .class_ 10), (1, u "java/lang/Object")] 113

def k0m0 : Method := { name := "<init>", desc := "()V", sig := { parameters := [], returnType := none }, accessFlags := 1, code := none }
/-- java/lang/Object -/
def k0 : Class := { plain "java/lang/Object" none with
  accessFlags := 33
  interfaces := #[]
  cf := some (fileOf pool0 8 #[] #[{ accessFlags := 1, nameIndex := 5, descriptorIndex := 6, attributes := #[] }] 33 0 #[] #[])
  fields := #[]
  methods := #[k0m0]
  instanceTypes := #[]
  staticTypes := #[]
  resolved := Array.replicate 124 none
  statics := none }

def pool1 : Array CpInfo := pool [(2, .class_ 4), (1, u "java/lang/Object"), (0, u "<init>"), (0, u "()V"), (0, .methodref 8 9), (0, .class_ 10), (0, .nameAndType 11 12), (0, u "com/example/strict_aspect/strictaspect/model/BooleanValue"), (0, u "of"), (0, u "(Z)Lcom/example/strict_aspect/strictaspect/model/BooleanValue;"), (0, .methodref 8 14), (0, .nameAndType 15 16), (0, u "value"), (0, u "()Z"), (0, .fieldref 8 18), (0, .nameAndType 19 20), (0, u "TRUE"), (0, u "Lcom/example/strict_aspect/strictaspect/model/BooleanValue;"), (0, .fieldref 8 22), (0, .nameAndType 23 20), (0, u "FALSE"), (0, .methodref 8 25), (0, .nameAndType 26 27), (0, u "kind"), (0, u "()Lcom/example/strict_aspect/strictaspect/model/Kind;"), (0, .fieldref 29 30), (0, .class_ 31), (0, .nameAndType 32 33), (0, u "com/example/strict_aspect/strictaspect/model/Kind"), (0, u "BOOLEAN"), (0, u "Lcom/example/strict_aspect/strictaspect/model/Kind;"), (0, .class_ 35), (0, u "com/example/strict_aspect/strictaspect/model/BooleanValueOfPinLaw"), (2, u "law"), (0, u "(I)Z")] 3

def k1m0 : Method := { name := "<init>", desc := "()V", sig := { parameters := [], returnType := none }, accessFlags := 2, code := none }
def k1c1 : Code := { maxStack := 2, maxLocals := 4, code := code, exceptionTable := #[], attributes := #[] }
def k1m1 : Method := { name := "law", desc := "(I)Z", sig := { parameters := [.int], returnType := some .boolean }, accessFlags := 9, code := some k1c1 }
/-- com/example/strict_aspect/strictaspect/model/BooleanValueOfPinLaw -/
def k1 : Class := { plain "com/example/strict_aspect/strictaspect/model/BooleanValueOfPinLaw" (some 0) with
  accessFlags := 49
  interfaces := #[]
  cf := some (fileOf pool1 34 #[] #[{ accessFlags := 2, nameIndex := 5, descriptorIndex := 6, attributes := #[] }, { accessFlags := 9, nameIndex := 38, descriptorIndex := 39, attributes := #[] }] 49 2 #[] #[])
  fields := #[]
  methods := #[k1m0, k1m1]
  instanceTypes := #[]
  staticTypes := #[]
  resolved := Array.replicate 43 none
  statics := none }

def pool2 : Array CpInfo := pool [(2, .class_ 4), (1, u "java/lang/Object"), (0, u "<init>"), (0, u "()V"), (0, .class_ 8), (0, u "java/lang/Record")] 13

def k2m0 : Method := { name := "<init>", desc := "()V", sig := { parameters := [], returnType := none }, accessFlags := 4, code := none }
/-- java/lang/Record -/
def k2 : Class := { plain "java/lang/Record" (some 0) with
  accessFlags := 1057
  interfaces := #[]
  cf := some (fileOf pool2 7 #[] #[{ accessFlags := 4, nameIndex := 5, descriptorIndex := 6, attributes := #[] }] 1057 2 #[] #[])
  fields := #[]
  methods := #[k2m0]
  instanceTypes := #[]
  staticTypes := #[]
  resolved := Array.replicate 22 none
  statics := none }

def pool3 : Array CpInfo := pool [(1, .class_ 2), (0, u "com/example/strict_aspect/strictaspect/model/Value"), (0, .class_ 4), (0, u "java/lang/Object")] 11

/-- com/example/strict_aspect/strictaspect/model/Value -/
def k3 : Class := { plain "com/example/strict_aspect/strictaspect/model/Value" (some 0) with
  accessFlags := 1537
  interfaces := #[]
  cf := some (fileOf pool3 1 #[] #[] 1537 3 #[] #[])
  fields := #[]
  methods := #[]
  instanceTypes := #[]
  staticTypes := #[]
  resolved := Array.replicate 16 none
  statics := none }

def pool4 : Array CpInfo := pool [(2, .class_ 4), (1, u "java/lang/Record"), (2, .fieldref 8 9), (0, .class_ 10), (0, .nameAndType 11 12), (0, u "com/example/strict_aspect/strictaspect/model/BooleanValue"), (0, u "value"), (0, u "Z"), (0, .fieldref 8 14), (0, .nameAndType 15 16), (0, u "TRUE"), (0, u "Lcom/example/strict_aspect/strictaspect/model/BooleanValue;"), (0, .fieldref 8 18), (0, .nameAndType 19 16), (0, u "FALSE"), (0, .fieldref 21 22), (0, .class_ 23), (0, .nameAndType 24 25), (0, u "com/example/strict_aspect/strictaspect/model/Kind"), (0, u "BOOLEAN"), (0, u "Lcom/example/strict_aspect/strictaspect/model/Kind;"), (13, .class_ 40), (0, u "com/example/strict_aspect/strictaspect/model/Value"), (3, u "of"), (0, u "(Z)Lcom/example/strict_aspect/strictaspect/model/BooleanValue;"), (1, u "kind"), (0, u "()Lcom/example/strict_aspect/strictaspect/model/Kind;"), (6, u "()Z")] 20

def k4c0 : Code := { maxStack := 1, maxLocals := 1, code := prog_34_method_2_code, exceptionTable := #[], attributes := #[] }
def k4m0 : Method := { name := "of", desc := "(Z)Lcom/example/strict_aspect/strictaspect/model/BooleanValue;", sig := { parameters := [.boolean], returnType := some (.object "com/example/strict_aspect/strictaspect/model/BooleanValue") }, accessFlags := 9, code := some k4c0 }
def k4c1 : Code := { maxStack := 1, maxLocals := 1, code := prog_34_method_3_code, exceptionTable := #[], attributes := #[] }
def k4m1 : Method := { name := "kind", desc := "()Lcom/example/strict_aspect/strictaspect/model/Kind;", sig := { parameters := [], returnType := some (.object "com/example/strict_aspect/strictaspect/model/Kind") }, accessFlags := 1, code := some k4c1 }
def k4c2 : Code := { maxStack := 1, maxLocals := 1, code := prog_34_method_7_code, exceptionTable := #[], attributes := #[] }
def k4m2 : Method := { name := "value", desc := "()Z", sig := { parameters := [], returnType := some .boolean }, accessFlags := 1, code := some k4c2 }
/-- com/example/strict_aspect/strictaspect/model/BooleanValue -/
def k4 : Class := { plain "com/example/strict_aspect/strictaspect/model/BooleanValue" (some 2) with
  accessFlags := 49
  interfaces := #[3]
  cf := some (fileOf pool4 8 #[] #[{ accessFlags := 9, nameIndex := 44, descriptorIndex := 45, attributes := #[] }, { accessFlags := 1, nameIndex := 47, descriptorIndex := 48, attributes := #[] }, { accessFlags := 1, nameIndex := 11, descriptorIndex := 55, attributes := #[] }] 49 2 #[39] #[{ accessFlags := 18, nameIndex := 11, descriptorIndex := 12, attributes := #[] }, { accessFlags := 25, nameIndex := 15, descriptorIndex := 16, attributes := #[] }, { accessFlags := 25, nameIndex := 19, descriptorIndex := 16, attributes := #[] }])
  fields := #[{ name := "value", type := .boolean, accessFlags := 18, slot := 0, constantValue := 0 }, { name := "TRUE", type := (.object "com/example/strict_aspect/strictaspect/model/BooleanValue"), accessFlags := 25, slot := 0, constantValue := 0 }, { name := "FALSE", type := (.object "com/example/strict_aspect/strictaspect/model/BooleanValue"), accessFlags := 25, slot := 1, constantValue := 0 }]
  methods := #[k4m0, k4m1, k4m2]
  instanceTypes := #[.boolean]
  staticTypes := #[(.object "com/example/strict_aspect/strictaspect/model/BooleanValue"), (.object "com/example/strict_aspect/strictaspect/model/BooleanValue")]
  resolved := Array.replicate 76 none
  statics := some 0 }

def pool5 : Array CpInfo := pool [(1, .class_ 2), (0, u "java/lang/constant/Constable"), (0, .class_ 4), (0, u "java/lang/Object")] 6

/-- java/lang/constant/Constable -/
def k5 : Class := { plain "java/lang/constant/Constable" (some 0) with
  accessFlags := 1537
  interfaces := #[]
  cf := some (fileOf pool5 1 #[] #[] 1537 3 #[] #[])
  fields := #[]
  methods := #[]
  instanceTypes := #[]
  staticTypes := #[]
  resolved := Array.replicate 11 none
  statics := none }

def pool6 : Array CpInfo := pool [(1, .class_ 2), (0, u "java/lang/Comparable"), (0, .class_ 4), (0, u "java/lang/Object")] 7

/-- java/lang/Comparable -/
def k6 : Class := { plain "java/lang/Comparable" (some 0) with
  accessFlags := 1537
  interfaces := #[]
  cf := some (fileOf pool6 1 #[] #[] 1537 3 #[] #[])
  fields := #[]
  methods := #[]
  instanceTypes := #[]
  staticTypes := #[]
  resolved := Array.replicate 12 none
  statics := none }

def pool7 : Array CpInfo := pool [(1, .class_ 2), (0, u "java/io/Serializable"), (0, .class_ 4), (0, u "java/lang/Object")] 2

/-- java/io/Serializable -/
def k7 : Class := { plain "java/io/Serializable" (some 0) with
  accessFlags := 1537
  interfaces := #[]
  cf := some (fileOf pool7 1 #[] #[] 1537 3 #[] #[])
  fields := #[]
  methods := #[]
  instanceTypes := #[]
  staticTypes := #[]
  resolved := Array.replicate 7 none
  statics := none }

def pool8 : Array CpInfo := pool [(2, .class_ 4), (1, u "java/lang/Enum"), (0, u "name"), (0, u "Ljava/lang/String;"), (2, u "ordinal"), (0, u "I"), (1, .class_ 14), (1, u "java/lang/Object"), (4, u "hash"), (86, .class_ 108), (1, u "java/lang/Enum$EnumDesc"), (2, .class_ 112), (0, u "java/lang/constant/Constable"), (0, .class_ 114), (0, u "java/lang/Comparable"), (0, .class_ 116), (0, u "java/io/Serializable")] 87

/-- java/lang/Enum -/
def k8 : Class := { plain "java/lang/Enum" (some 0) with
  accessFlags := 1057
  interfaces := #[5, 6, 7]
  cf := some (fileOf pool8 2 #[.nestMembers #[106]] #[] 1057 12 #[111, 113, 115] #[{ accessFlags := 18, nameIndex := 5, descriptorIndex := 6, attributes := #[] }, { accessFlags := 18, nameIndex := 9, descriptorIndex := 10, attributes := #[] }, { accessFlags := 2, nameIndex := 19, descriptorIndex := 10, attributes := #[] }])
  fields := #[{ name := "name", type := (.object "java/lang/String"), accessFlags := 18, slot := 0, constantValue := 0 }, { name := "ordinal", type := .int, accessFlags := 18, slot := 1, constantValue := 0 }, { name := "hash", type := .int, accessFlags := 2, slot := 2, constantValue := 0 }]
  methods := #[]
  instanceTypes := #[(.object "java/lang/String"), .int, .int]
  staticTypes := #[]
  resolved := Array.replicate 204 none
  statics := none }

def pool9 : Array CpInfo := pool [(1, .class_ 2), (0, u "com/example/strict_aspect/strictaspect/model/Kind"), (2, u "BOOLEAN"), (0, u "Lcom/example/strict_aspect/strictaspect/model/Kind;"), (2, u "INTEGER"), (2, u "SYMBOLIC"), (2, u "$VALUES"), (0, u "[Lcom/example/strict_aspect/strictaspect/model/Kind;"), (6, .class_ 25), (1, u "java/lang/Enum"), (8, u "description"), (0, u "Ljava/lang/String;")] 29

/-- com/example/strict_aspect/strictaspect/model/Kind -/
def k9 : Class := { plain "com/example/strict_aspect/strictaspect/model/Kind" (some 8) with
  accessFlags := 16433
  interfaces := #[]
  cf := some (fileOf pool9 1 #[] #[] 16433 23 #[] #[{ accessFlags := 16409, nameIndex := 5, descriptorIndex := 6, attributes := #[] }, { accessFlags := 16409, nameIndex := 9, descriptorIndex := 6, attributes := #[] }, { accessFlags := 16409, nameIndex := 12, descriptorIndex := 6, attributes := #[] }, { accessFlags := 18, nameIndex := 34, descriptorIndex := 35, attributes := #[] }, { accessFlags := 4122, nameIndex := 15, descriptorIndex := 16, attributes := #[] }])
  fields := #[{ name := "BOOLEAN", type := (.object "com/example/strict_aspect/strictaspect/model/Kind"), accessFlags := 16409, slot := 0, constantValue := 0 }, { name := "INTEGER", type := (.object "com/example/strict_aspect/strictaspect/model/Kind"), accessFlags := 16409, slot := 1, constantValue := 0 }, { name := "SYMBOLIC", type := (.object "com/example/strict_aspect/strictaspect/model/Kind"), accessFlags := 16409, slot := 2, constantValue := 0 }, { name := "description", type := (.object "java/lang/String"), accessFlags := 18, slot := 3, constantValue := 0 }, { name := "$VALUES", type := (.array (.object "com/example/strict_aspect/strictaspect/model/Kind")), accessFlags := 4122, slot := 3, constantValue := 0 }]
  methods := #[]
  instanceTypes := #[(.object "java/lang/String"), .int, .int, (.object "java/lang/String")]
  staticTypes := #[(.object "com/example/strict_aspect/strictaspect/model/Kind"), (.object "com/example/strict_aspect/strictaspect/model/Kind"), (.object "com/example/strict_aspect/strictaspect/model/Kind"), (.array (.object "com/example/strict_aspect/strictaspect/model/Kind"))]
  resolved := Array.replicate 65 none
  statics := some 1 }

def pool10 : Array CpInfo := pool [(1, u "java/lang/Cloneable"), (0, .class_ 1), (0, u "java/lang/Object"), (0, .class_ 3)] 3

/-- java/lang/Cloneable -/
def k10 : Class := { plain "java/lang/Cloneable" (some 0) with
  accessFlags := 1537
  interfaces := #[]
  cf := some (fileOf pool10 2 #[] #[] 1537 4 #[] #[])
  fields := #[]
  methods := #[]
  instanceTypes := #[]
  staticTypes := #[]
  resolved := Array.replicate 8 none
  statics := none }

/-- the primitive byte -/
def k11 : Class := { plain "byte" none with kind := .primitive 'B', accessFlags := 0x411 }
/-- [B -/
def k12 : Class := { plain "[B" (some 0) with kind := .array 11 .byte, interfaces := #[10, 7], accessFlags := 1041 }

/-- the primitive int -/
def k13 : Class := { plain "int" none with kind := .primitive 'I', accessFlags := 0x411 }
/-- [I -/
def k14 : Class := { plain "[I" (some 0) with kind := .array 13 .int, interfaces := #[10, 7], accessFlags := 1041 }

def heap : Heap := #[{ cls := 4, slots := #[.ref 3, .ref 2], vm := .statics 4 },
  { cls := 9, slots := #[.ref 4, .null, .null, .null], vm := .statics 9 },
  { cls := 4, slots := #[.int 0], vm := .none },
  { cls := 4, slots := #[.int 1], vm := .none },
  { cls := 9, slots := #[.null, .int 0, .int 0, .null], vm := .none }]
def classes : Array Class := #[k0, k1, k2, k3, k4, k5, k6, k7, k8, k9, k10, k11, k12, k13, k14]
def interned : List (Array UInt16 × Addr) := []
def slotsUsed : Nat := 12
def theMethod : MethodId := ⟨1, 1⟩
def args0 : Array Value := #[.int 5]
def aboutOver (below : List Frame) : State where
  vm := { classes := classes, interned := interned.toArray }
  heap := heap
  slotsUsed := slotsUsed
  threads := #[{ frames := .invoking theMethod args0 :: below }]
def below0 : List Frame := [.native { method := ⟨0, 0⟩, args := #[] }]
def about1 : State := aboutOver below0
def p0 : Program := .bare "" "" ""
def e0 : Env := launch0.env 0 0 0
theorem w_frames : about1.frames = Frame.invoking theMethod args0 :: below0 := rfl
set_option maxRecDepth 65536 in
theorem w_args : argsFit about1.vm theMethod args0 = true := by decide +kernel
set_option maxRecDepth 65536 in
theorem w_heap : heapFits about1 = true := by decide +kernel
set_option maxRecDepth 65536 in
theorem w_runnable : about1.curStatus? = some .runnable := by decide +kernel
set_option maxRecDepth 65536 in
theorem w_alone : about1.alone = true := by decide +kernel
set_option maxRecDepth 65536 in
theorem w_named : about1.methodNamed? x = some theMethod := by decide +kernel
set_option maxRecDepth 65536 in
theorem w_hears : about1.hears theMethod below0 = true := by decide +kernel
set_option maxRecDepth 65536 in
theorem w_ripe : about1.ripe theMethod args0 below0 = true := by decide +kernel
theorem w_running : about1.status = .running := rfl
set_option maxRecDepth 65536 in
theorem w_room : about1.hasRoom e0.platform room_1 = true :=
  launch0.hasRoom_least _ room_1 (by decide +kernel) (by decide +kernel) (by decide +kernel) (by decide +kernel) (by decide +kernel) (by decide +kernel)
theorem allAtoms_all (ts : List Jvm.Cond) (a : Array Jvm.Value) (st : Jvm.State) : (allAtoms ts).before a st = ts.all (fun c => c.before a st) := by
  induction ts with
  | nil => rfl
  | cons c t ih =>
    show (Jvm.Cond.and c (allAtoms t)).before a st = _
    rw [Jvm.Cond.before_and, ih, List.all_cons]
def words1 : List Jvm.Cond := Jvm.Cond.code x code maxLocals ret :: tables_1
/-- a 'code' word, met by the world's own term for the bytes: nothing is compared byte by byte -/
theorem code_word {y : MethodName} {bytes : ByteArray} {mx : Nat} {rt : Option FieldType} {a : Array Value} {s : State} {m : MethodId} {meth : Method} {c : Code} (h1 : s.methodNamed? y = some m) (h2 : s.vm.method? m = some meth) (h3 : meth.code = some c) (h4 : c.code = bytes)
    (h5 : (c.maxLocals == mx && c.exceptionTable.isEmpty && decide (c.maxStack ≤ mostOperands) && decide (meth.sig.returnType = rt) && !meth.locks && decide (parseMethodDescriptor y.desc = some meth.sig)) = true) : (Jvm.Cond.code y bytes mx rt).before a s = true := by
  simp only [Bool.and_eq_true, beq_iff_eq, Bool.not_eq_true', decide_eq_true_eq] at h5
  obtain ⟨⟨⟨⟨⟨g1, g2⟩, g3⟩, g4⟩, g5⟩, g6⟩ := h5
  simp [Cond.before, Cond.holds, Cond.value, h1, h2, h3, h4, g1, g2, g3, g4, g5, g6]
def isCode : Jvm.Cond → Bool
  | .code _ _ _ _ => true
  | _ => false
theorem all_split {L : List Jvm.Cond} {P : Jvm.Cond → Bool} (h1 : L.all (fun c => isCode c || P c) = true) (h2 : ∀ c ∈ L.filter isCode, P c = true) : L.all P = true := by
  refine List.all_eq_true.mpr fun c hc => ?_
  have h := List.all_eq_true.mp h1 c hc
  rcases Bool.eq_false_or_eq_true (isCode c) with hi | hi
  · exact h2 c (List.mem_filter.mpr ⟨hc, hi⟩)
  · simpa [hi] using h
set_option maxRecDepth 65536 in
theorem w_c0 : (Jvm.Cond.code x code maxLocals ret).before args0 about1 = true := code_word (m := ⟨1, 1⟩) (meth := k1m1) (c := k1c1) (by decide +kernel) rfl rfl rfl (by decide +kernel)
set_option maxRecDepth 65536 in
theorem w_c1 : (Jvm.Cond.code ({ cls := "com/example/strict_aspect/strictaspect/model/BooleanValue", name := "of", desc := "(Z)Lcom/example/strict_aspect/strictaspect/model/BooleanValue;" } : Jvm.MethodName) prog_34_method_2_code (1 : Nat) (Option.some (Jvm.ClassFile.FieldType.object "com/example/strict_aspect/strictaspect/model/BooleanValue"))).before args0 about1 = true := code_word (m := ⟨4, 0⟩) (meth := k4m0) (c := k4c0) (by decide +kernel) rfl rfl rfl (by decide +kernel)
set_option maxRecDepth 65536 in
theorem w_c2 : (Jvm.Cond.code ({ cls := "com/example/strict_aspect/strictaspect/model/BooleanValue", name := "value", desc := "()Z" } : Jvm.MethodName) prog_34_method_7_code (1 : Nat) (Option.some Jvm.ClassFile.FieldType.boolean)).before args0 about1 = true := code_word (m := ⟨4, 2⟩) (meth := k4m2) (c := k4c2) (by decide +kernel) rfl rfl rfl (by decide +kernel)
set_option maxRecDepth 65536 in
theorem w_c3 : (Jvm.Cond.code ({ cls := "com/example/strict_aspect/strictaspect/model/BooleanValue", name := "kind", desc := "()Lcom/example/strict_aspect/strictaspect/model/Kind;" } : Jvm.MethodName) prog_34_method_3_code (1 : Nat) (Option.some (Jvm.ClassFile.FieldType.object "com/example/strict_aspect/strictaspect/model/Kind"))).before args0 about1 = true := code_word (m := ⟨4, 1⟩) (meth := k4m1) (c := k4c1) (by decide +kernel) rfl rfl rfl (by decide +kernel)
def codes1 : List Jvm.Cond := [Jvm.Cond.code x code maxLocals ret, Jvm.Cond.code ({ cls := "com/example/strict_aspect/strictaspect/model/BooleanValue", name := "of", desc := "(Z)Lcom/example/strict_aspect/strictaspect/model/BooleanValue;" } : Jvm.MethodName) prog_34_method_2_code (1 : Nat) (Option.some (Jvm.ClassFile.FieldType.object "com/example/strict_aspect/strictaspect/model/BooleanValue")), Jvm.Cond.code ({ cls := "com/example/strict_aspect/strictaspect/model/BooleanValue", name := "value", desc := "()Z" } : Jvm.MethodName) prog_34_method_7_code (1 : Nat) (Option.some Jvm.ClassFile.FieldType.boolean), Jvm.Cond.code ({ cls := "com/example/strict_aspect/strictaspect/model/BooleanValue", name := "kind", desc := "()Lcom/example/strict_aspect/strictaspect/model/Kind;" } : Jvm.MethodName) prog_34_method_3_code (1 : Nat) (Option.some (Jvm.ClassFile.FieldType.object "com/example/strict_aspect/strictaspect/model/Kind"))]
set_option maxRecDepth 65536 in
theorem codes_eq : words1.filter isCode = codes1 := rfl
theorem w_codes : ∀ c ∈ words1.filter isCode, c.before args0 about1 = true := by
  rw [codes_eq]
  intro c hc
  simp only [codes1, List.mem_cons, List.not_mem_nil, or_false] at hc
  rcases hc with rfl | rfl | rfl | rfl
  · exact w_c0
  · exact w_c1
  · exact w_c2
  · exact w_c3
set_option maxRecDepth 65536 in
theorem w_t1 : (words1.take 24).all (fun c => isCode c || c.before args0 about1) = true := by decide +kernel
set_option maxRecDepth 65536 in
theorem w_t2 : (words1.drop 24).all (fun c => isCode c || c.before args0 about1) = true := by decide +kernel
theorem w_tables : (allAtoms (Jvm.Cond.code x code maxLocals ret :: tables_1)).before args0 about1 = true := by
  rw [allAtoms_all]
  show words1.all (fun c => c.before args0 about1) = true
  refine all_split ?_ w_codes
  rw [← List.take_append_drop 24 words1, List.all_append, w_t1, w_t2]
  rfl
set_option maxRecDepth 65536 in
theorem w_case : (Jvm.Cond.and given_1 narrow_1).before args0 about1 = true := by decide +kernel
theorem w_applies : (headSpec (Jvm.Cond.code x code maxLocals ret :: tables_1) room_1).applies x e0.platform about1 = true :=
  (Spec.applies_iff w_frames).mpr ⟨w_running, w_runnable, w_alone, w_named, w_hears, w_ripe, w_room, w_tables⟩
theorem atStart : AtStart classFile x code maxLocals ret World_1 tables_1 room_1 Calls_1 rest_1 Pre_1 launch0 p0 e0 about1 theMethod args0 below0 :=
  ⟨lists_1, trivial, launch0.admits_env _ _ _, launch0.least_env, fairChoices_fair.cas, fairChoices_fair.clock, w_frames, w_args, w_heap, w_applies, trivial, trivial, w_case⟩
end start1
theorem witness_1 : WitnessClaimed_1 := ⟨start1.p0, start1.e0, start1.about1, start1.theMethod, start1.args0, start1.below0, start1.atStart⟩
end Jvm.Pilot.@@N@@
