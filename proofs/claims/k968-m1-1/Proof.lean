import JvmDerived
import JvmDerived.Pilot.@@N@@Statement
import JvmDerived.Pilot.@@N@@Code
set_option linter.unusedVariables false
set_option linter.unusedSimpArgs false
namespace Jvm.OwnGo
open Sem ClassFile Op Lib Jvm.Stand Jvm.Free Jvm.LawKit Jvm.RoadKit
/-- one instruction: where it stands, what it is, its length, the next pc -/
def I1 (code : ByteArray) (pc : Nat) (i : Instr) (len pc' : Nat) : Prop := decode code pc = .ok (i, len) ∧ pc + len = pc'
/-- a branch: besides, where it leads -/
def B1 (code : ByteArray) (pc : Nat) (i : Instr) (o : Int) (pcT pcF : Nat) : Prop := decode code pc = .ok (i, 3) ∧ pc + 3 = pcF ∧ 0 ≤ (pc : Int) + o ∧ ((pc : Int) + o).toNat = pcT
/-- what is fixed while a body runs -/
def Cx (p : Program) (s : State) (m : MethodId) (meth : Method) (c : Code) (Z : State) (code : ByteArray) (maxL : Nat) (own : String) (ret : Option FieldType) : Prop :=
  p.tables.exec = Jvm.exec ∧ c.code = code ∧ c.maxLocals = maxL ∧ Z.Warmed39 s.vm ∧ s.vm.findClass own = some m.cls ∧ meth.sig.returnType = ret ∧ meth.locks = false
/-- from the frame g, over every state that stands there with the heap h, the body ends, and ends in Q -/
def Go (p : Program) (l : Launch) (e : Env) (R : Room) (s : State) (m : MethodId) (args : Array Value) (below : List Frame) (meth : Method) (c : Code) (n0 K N : Nat) (Q : Option Value → Heap → Prop) (h : Heap) (ck cn : Nat) (g : JFrame) : Prop :=
  ∀ (T : State) (locs : List Loc), Stand p l e R s m args below meth c T locs ck cn → T.heap = h → Fr n0 locs →
    ∃ s₂ o, Steps p.tables e below (T.setTop g) s₂ ∧ s₂.status = .running ∧ Ended s₂ below o ∧ ∃ v L, o = .returned v ∧ (Q v s₂.heap ∧ Fr n0 L) ∧ FrameEnd s o s₂ L K N
/-- a body's contract: from these arguments over this heap it returns as Q says, and writes nothing below n0 -/
def Ctr (l : Launch) (Z : State) (y : MethodName) (code : ByteArray) (maxL : Nat) (ret : Option FieldType) (rm : Room) (as' : Array Value) (h0 : Heap) (n0 : Nat) (Q : Option Value → Heap → Prop) : Prop :=
  ∀ ws : List Cond, MetFree l y (head1 (Cond.code y code maxL ret :: ws) rm) (fun a U => a = as' ∧ Z.Warmed39 U.vm ∧ U.heap = h0) (fun _ _ _ _ _ => True)
    (fun _ U o U' => ∃ v L, o = .returned v ∧ (Q v U'.heap ∧ Fr n0 L) ∧ FrameEnd U o U' L rm.cells rm.slots)
section
variable {p : Program} {l : Launch} {e : Env} {R : Room} {s : State} {m : MethodId} {args : Array Value} {below : List Frame} {meth : Method} {c : Code} {n0 K N : Nat} {Q : Option Value → Heap → Prop} {h : Heap} {ck cn : Nat} {Z : State} {a0 : Array Value} {code : ByteArray} {maxL : Nat} {own : String} {ret : Option FieldType}
theorem Ctr.of_go {y : MethodName} {rm : Room} {as' : Array Value} {h0 : Heap} {Ls : Array Slot} (hpl : plainFor y = true) (hef : ∀ m, entryFrame m as' maxL = mkF m 0 Ls [])
    (hgo : ∀ p e s m below meth c, meth.name = y.name → Cx p s m meth c Z code maxL y.cls ret → Go p l e rm s m as' below meth c n0 rm.cells rm.slots Q h0 0 0 (mkF m 0 Ls [])) : Ctr l Z y code maxL ret rm as' h0 n0 Q := fun ws => by
  refine MetFree.of_bodySF hpl hisR ?_
  intro p e s m args below meth c s₁ Bd hml0 hP hK
  obtain ⟨rfl, hZ, hh⟩ := hP
  have X0 : Stand p l e rm s m args below meth c s₁ [] 0 0 := Stand.of_body Bd
  have e0 : s₁.heap = h0 := by rw [← hh, Bd.state]; rfl
  obtain ⟨s₂, o, g1, g2, g3, v, L, g4, g5, g6⟩ := hgo p e s m below meth c (name_of_methodNamed Bd.named Bd.method).1 ⟨Bd.exec, Bd.bytes, hml0, hZ, findClass_of_methodNamed Bd.named, Bd.returns, Bd.notSynchronized⟩ s₁ [] X0 e0 (Fr.nil n0)
  exact ⟨s₂, o, castTop (hef m) g1, g2, g3, v, L, g4, g5, g6⟩
theorem Go.step {g g' : JFrame} (st : ∀ (T : State) (locs : List Loc), Stand p l e R s m args below meth c T locs ck cn → T.heap = h → ∀ target, Steps p.tables e below (T.setTop g') target → Steps p.tables e below (T.setTop g) target)
    (k : Go p l e R s m args below meth c n0 K N Q h ck cn g') : Go p l e R s m args below meth c n0 K N Q h ck cn g := fun T locs X eT hN => by
  obtain ⟨s₂, o, h1, r⟩ := k T locs X eT hN
  exact ⟨s₂, o, st T locs X eT _ h1, r⟩
/-- a step that moves the state: heap, counts -/
theorem Go.move {g g' : JFrame} {h' : Heap} {ck' cn' : Nat} {T : State} {locs : List Loc} (hN : Fr n0 locs) {T' : State} {locs' : List Loc} (X' : Stand p l e R s m args below meth c T' locs' ck' cn') (e' : T'.heap = h') (hN' : Fr n0 locs')
    (st : ∀ target, Steps p.tables e below (T'.setTop g') target → Steps p.tables e below (T.setTop g) target) (k : Go p l e R s m args below meth c n0 K N Q h' ck' cn' g') :
    ∃ s₂ o, Steps p.tables e below (T.setTop g) s₂ ∧ s₂.status = .running ∧ Ended s₂ below o ∧ ∃ v L, o = .returned v ∧ (Q v s₂.heap ∧ Fr n0 L) ∧ FrameEnd s o s₂ L K N := by
  obtain ⟨s₂, o, h1, r⟩ := k T' locs' X' e' hN'
  exact ⟨s₂, o, st _ h1, r⟩
theorem Go.join {g : JFrame} (g' : JFrame) (J : Go p l e R s m args below meth c n0 K N Q h ck cn g') (k : Go p l e R s m args below meth c n0 K N Q h ck cn g' → Go p l e R s m args below meth c n0 K N Q h ck cn g) : Go p l e R s m args below meth c n0 K N Q h ck cn g := k J
theorem Go.cast {g g' : JFrame} (k : Go p l e R s m args below meth c n0 K N Q h ck cn g') (q : g = g') : Go p l e R s m args below meth c n0 K N Q h ck cn g := q ▸ k
theorem Go.more {g : JFrame} {ck' cn' : Nat} (hc : ck ≤ ck') (hs : cn ≤ cn') (k : Go p l e R s m args below meth c n0 K N Q h ck' cn' g) : Go p l e R s m args below meth c n0 K N Q h ck cn g := fun T locs X eT hN => k T locs (X.more hc hs) eT hN
theorem Go.heap {g : JFrame} {h' : Heap} (q : h' = h) (k : Go p l e R s m args below meth c n0 K N Q h' ck cn g) : Go p l e R s m args below meth c n0 K N Q h ck cn g := q ▸ k
theorem Go.some' {v : Value} {pc : Nat} {Ls : Array Slot} {st : List Value} (k : Go p l e R s m args below meth c n0 K N Q h ck cn (mkF m pc Ls (v :: st))) : Go p l e R s m args below meth c n0 K N Q h ck cn (mkF m pc Ls ((some v).toList ++ st)) := k
theorem Go.none' {pc : Nat} {Ls : Array Slot} {st : List Value} (k : Go p l e R s m args below meth c n0 K N Q h ck cn (mkF m pc Ls st)) : Go p l e R s m args below meth c n0 K N Q h ck cn (mkF m pc Ls ((none : Option Value).toList ++ st)) := k
theorem g_iadd (C : Cx p s m meth c Z code maxL own ret) {pc pc' : Nat} {Ls : Array Slot} {st : List Value} {x y : Int32} (hd : I1 code pc (.iadd) 1 pc') (k : Go p l e R s m args below meth c n0 K N Q h ck cn (mkF m pc' Ls (.int (x + y) :: st))) : Go p l e R s m args below meth c n0 K N Q h ck cn (mkF m pc Ls (.int y :: .int x :: st)) := by
  obtain ⟨hd, rfl⟩ := hd
  exact Go.step (fun T locs X _ t k => XS.iadd X.here C.1 rfl (hb C.2.1 hd) rfl k) k
theorem g_isub (C : Cx p s m meth c Z code maxL own ret) {pc pc' : Nat} {Ls : Array Slot} {st : List Value} {x y : Int32} (hd : I1 code pc (.isub) 1 pc') (k : Go p l e R s m args below meth c n0 K N Q h ck cn (mkF m pc' Ls (.int (x - y) :: st))) : Go p l e R s m args below meth c n0 K N Q h ck cn (mkF m pc Ls (.int y :: .int x :: st)) := by
  obtain ⟨hd, rfl⟩ := hd
  exact Go.step (fun T locs X _ t k => XS.isub X.here C.1 rfl (hb C.2.1 hd) rfl k) k
theorem g_imul (C : Cx p s m meth c Z code maxL own ret) {pc pc' : Nat} {Ls : Array Slot} {st : List Value} {x y : Int32} (hd : I1 code pc (.imul) 1 pc') (k : Go p l e R s m args below meth c n0 K N Q h ck cn (mkF m pc' Ls (.int (x * y) :: st))) : Go p l e R s m args below meth c n0 K N Q h ck cn (mkF m pc Ls (.int y :: .int x :: st)) := by
  obtain ⟨hd, rfl⟩ := hd
  exact Go.step (fun T locs X _ t k => XS.imul X.here C.1 rfl (hb C.2.1 hd) rfl k) k
theorem g_iand (C : Cx p s m meth c Z code maxL own ret) {pc pc' : Nat} {Ls : Array Slot} {st : List Value} {x y : Int32} (hd : I1 code pc (.iand) 1 pc') (k : Go p l e R s m args below meth c n0 K N Q h ck cn (mkF m pc' Ls (.int (x &&& y) :: st))) : Go p l e R s m args below meth c n0 K N Q h ck cn (mkF m pc Ls (.int y :: .int x :: st)) := by
  obtain ⟨hd, rfl⟩ := hd
  exact Go.step (fun T locs X _ t k => XS.iand X.here C.1 rfl (hb C.2.1 hd) rfl k) k
theorem g_ior (C : Cx p s m meth c Z code maxL own ret) {pc pc' : Nat} {Ls : Array Slot} {st : List Value} {x y : Int32} (hd : I1 code pc (.ior) 1 pc') (k : Go p l e R s m args below meth c n0 K N Q h ck cn (mkF m pc' Ls (.int (x ||| y) :: st))) : Go p l e R s m args below meth c n0 K N Q h ck cn (mkF m pc Ls (.int y :: .int x :: st)) := by
  obtain ⟨hd, rfl⟩ := hd
  exact Go.step (fun T locs X _ t k => XS.ior X.here C.1 rfl (hb C.2.1 hd) rfl k) k
theorem g_ixor (C : Cx p s m meth c Z code maxL own ret) {pc pc' : Nat} {Ls : Array Slot} {st : List Value} {x y : Int32} (hd : I1 code pc (.ixor) 1 pc') (k : Go p l e R s m args below meth c n0 K N Q h ck cn (mkF m pc' Ls (.int (x ^^^ y) :: st))) : Go p l e R s m args below meth c n0 K N Q h ck cn (mkF m pc Ls (.int y :: .int x :: st)) := by
  obtain ⟨hd, rfl⟩ := hd
  exact Go.step (fun T locs X _ t k => XS.ixor X.here C.1 rfl (hb C.2.1 hd) rfl k) k
theorem g_ishl (C : Cx p s m meth c Z code maxL own ret) {pc pc' : Nat} {Ls : Array Slot} {st : List Value} {x y : Int32} (hd : I1 code pc (.ishl) 1 pc') (k : Go p l e R s m args below meth c n0 K N Q h ck cn (mkF m pc' Ls (.int (x <<< (y &&& 31)) :: st))) : Go p l e R s m args below meth c n0 K N Q h ck cn (mkF m pc Ls (.int y :: .int x :: st)) := by
  obtain ⟨hd, rfl⟩ := hd
  exact Go.step (fun T locs X _ t k => XS.ishl X.here C.1 rfl (hb C.2.1 hd) rfl k) k
theorem g_ishr (C : Cx p s m meth c Z code maxL own ret) {pc pc' : Nat} {Ls : Array Slot} {st : List Value} {x y : Int32} (hd : I1 code pc (.ishr) 1 pc') (k : Go p l e R s m args below meth c n0 K N Q h ck cn (mkF m pc' Ls (.int (x >>> (y &&& 31)) :: st))) : Go p l e R s m args below meth c n0 K N Q h ck cn (mkF m pc Ls (.int y :: .int x :: st)) := by
  obtain ⟨hd, rfl⟩ := hd
  exact Go.step (fun T locs X _ t k => XS.ishr X.here C.1 rfl (hb C.2.1 hd) rfl k) k
theorem g_iushr (C : Cx p s m meth c Z code maxL own ret) {pc pc' : Nat} {Ls : Array Slot} {st : List Value} {x y : Int32} (hd : I1 code pc (.iushr) 1 pc') (k : Go p l e R s m args below meth c n0 K N Q h ck cn (mkF m pc' Ls (.int ((x.toUInt32 >>> (y &&& 31).toUInt32).toInt32) :: st))) : Go p l e R s m args below meth c n0 K N Q h ck cn (mkF m pc Ls (.int y :: .int x :: st)) := by
  obtain ⟨hd, rfl⟩ := hd
  exact Go.step (fun T locs X _ t k => XS.iushr X.here C.1 rfl (hb C.2.1 hd) rfl k) k
theorem g_ladd (C : Cx p s m meth c Z code maxL own ret) {pc pc' : Nat} {Ls : Array Slot} {st : List Value} {x y : Int64} (hd : I1 code pc (.ladd) 1 pc') (k : Go p l e R s m args below meth c n0 K N Q h ck cn (mkF m pc' Ls (.long (x + y) :: st))) : Go p l e R s m args below meth c n0 K N Q h ck cn (mkF m pc Ls (.long y :: .long x :: st)) := by
  obtain ⟨hd, rfl⟩ := hd
  exact Go.step (fun T locs X _ t k => XS.ladd X.here C.1 rfl (hb C.2.1 hd) rfl k) k
theorem g_lsub (C : Cx p s m meth c Z code maxL own ret) {pc pc' : Nat} {Ls : Array Slot} {st : List Value} {x y : Int64} (hd : I1 code pc (.lsub) 1 pc') (k : Go p l e R s m args below meth c n0 K N Q h ck cn (mkF m pc' Ls (.long (x - y) :: st))) : Go p l e R s m args below meth c n0 K N Q h ck cn (mkF m pc Ls (.long y :: .long x :: st)) := by
  obtain ⟨hd, rfl⟩ := hd
  exact Go.step (fun T locs X _ t k => XS.lsub X.here C.1 rfl (hb C.2.1 hd) rfl k) k
theorem g_lmul (C : Cx p s m meth c Z code maxL own ret) {pc pc' : Nat} {Ls : Array Slot} {st : List Value} {x y : Int64} (hd : I1 code pc (.lmul) 1 pc') (k : Go p l e R s m args below meth c n0 K N Q h ck cn (mkF m pc' Ls (.long (x * y) :: st))) : Go p l e R s m args below meth c n0 K N Q h ck cn (mkF m pc Ls (.long y :: .long x :: st)) := by
  obtain ⟨hd, rfl⟩ := hd
  exact Go.step (fun T locs X _ t k => XS.lmul X.here C.1 rfl (hb C.2.1 hd) rfl k) k
theorem g_land (C : Cx p s m meth c Z code maxL own ret) {pc pc' : Nat} {Ls : Array Slot} {st : List Value} {x y : Int64} (hd : I1 code pc (.land) 1 pc') (k : Go p l e R s m args below meth c n0 K N Q h ck cn (mkF m pc' Ls (.long (x &&& y) :: st))) : Go p l e R s m args below meth c n0 K N Q h ck cn (mkF m pc Ls (.long y :: .long x :: st)) := by
  obtain ⟨hd, rfl⟩ := hd
  exact Go.step (fun T locs X _ t k => XS.land X.here C.1 rfl (hb C.2.1 hd) rfl k) k
theorem g_lor (C : Cx p s m meth c Z code maxL own ret) {pc pc' : Nat} {Ls : Array Slot} {st : List Value} {x y : Int64} (hd : I1 code pc (.lor) 1 pc') (k : Go p l e R s m args below meth c n0 K N Q h ck cn (mkF m pc' Ls (.long (x ||| y) :: st))) : Go p l e R s m args below meth c n0 K N Q h ck cn (mkF m pc Ls (.long y :: .long x :: st)) := by
  obtain ⟨hd, rfl⟩ := hd
  exact Go.step (fun T locs X _ t k => XS.lor X.here C.1 rfl (hb C.2.1 hd) rfl k) k
theorem g_lxor (C : Cx p s m meth c Z code maxL own ret) {pc pc' : Nat} {Ls : Array Slot} {st : List Value} {x y : Int64} (hd : I1 code pc (.lxor) 1 pc') (k : Go p l e R s m args below meth c n0 K N Q h ck cn (mkF m pc' Ls (.long (x ^^^ y) :: st))) : Go p l e R s m args below meth c n0 K N Q h ck cn (mkF m pc Ls (.long y :: .long x :: st)) := by
  obtain ⟨hd, rfl⟩ := hd
  exact Go.step (fun T locs X _ t k => XS.lxor X.here C.1 rfl (hb C.2.1 hd) rfl k) k
theorem g_lshl (C : Cx p s m meth c Z code maxL own ret) {pc pc' : Nat} {Ls : Array Slot} {st : List Value} {x : Int64} {y : Int32} (hd : I1 code pc (.lshl) 1 pc') (k : Go p l e R s m args below meth c n0 K N Q h ck cn (mkF m pc' Ls (.long (x <<< (y &&& 0x3f).toInt64) :: st))) : Go p l e R s m args below meth c n0 K N Q h ck cn (mkF m pc Ls (.int y :: .long x :: st)) := by
  obtain ⟨hd, rfl⟩ := hd
  exact Go.step (fun T locs X _ t k => XS.lshl X.here C.1 rfl (hb C.2.1 hd) rfl k) k
theorem g_lshr (C : Cx p s m meth c Z code maxL own ret) {pc pc' : Nat} {Ls : Array Slot} {st : List Value} {x : Int64} {y : Int32} (hd : I1 code pc (.lshr) 1 pc') (k : Go p l e R s m args below meth c n0 K N Q h ck cn (mkF m pc' Ls (.long (x >>> (y &&& 0x3f).toInt64) :: st))) : Go p l e R s m args below meth c n0 K N Q h ck cn (mkF m pc Ls (.int y :: .long x :: st)) := by
  obtain ⟨hd, rfl⟩ := hd
  exact Go.step (fun T locs X _ t k => XS.lshr X.here C.1 rfl (hb C.2.1 hd) rfl k) k
theorem g_lushr (C : Cx p s m meth c Z code maxL own ret) {pc pc' : Nat} {Ls : Array Slot} {st : List Value} {x : Int64} {y : Int32} (hd : I1 code pc (.lushr) 1 pc') (k : Go p l e R s m args below meth c n0 K N Q h ck cn (mkF m pc' Ls (.long ((x.toUInt64 >>> (y &&& 0x3f).toInt64.toUInt64).toInt64) :: st))) : Go p l e R s m args below meth c n0 K N Q h ck cn (mkF m pc Ls (.int y :: .long x :: st)) := by
  obtain ⟨hd, rfl⟩ := hd
  exact Go.step (fun T locs X _ t k => XS.lushr X.here C.1 rfl (hb C.2.1 hd) rfl k) k
theorem g_lcmp (C : Cx p s m meth c Z code maxL own ret) {pc pc' : Nat} {Ls : Array Slot} {st : List Value} {x y : Int64} (hd : I1 code pc (.lcmp) 1 pc') (k : Go p l e R s m args below meth c n0 K N Q h ck cn (mkF m pc' Ls (.int (lcmpW x y) :: st))) : Go p l e R s m args below meth c n0 K N Q h ck cn (mkF m pc Ls (.long y :: .long x :: st)) := by
  obtain ⟨hd, rfl⟩ := hd
  exact Go.step (fun T locs X _ t k => XS.lcmp X.here C.1 rfl (hb C.2.1 hd) rfl k) k
theorem g_ineg (C : Cx p s m meth c Z code maxL own ret) {pc pc' : Nat} {Ls : Array Slot} {st : List Value} {x : Int32} (hd : I1 code pc (.ineg) 1 pc') (k : Go p l e R s m args below meth c n0 K N Q h ck cn (mkF m pc' Ls (.int (-x) :: st))) : Go p l e R s m args below meth c n0 K N Q h ck cn (mkF m pc Ls (.int x :: st)) := by
  obtain ⟨hd, rfl⟩ := hd
  exact Go.step (fun T locs X _ t k => XS.ineg X.here C.1 rfl (hb C.2.1 hd) rfl k) k
theorem g_lneg (C : Cx p s m meth c Z code maxL own ret) {pc pc' : Nat} {Ls : Array Slot} {st : List Value} {x : Int64} (hd : I1 code pc (.lneg) 1 pc') (k : Go p l e R s m args below meth c n0 K N Q h ck cn (mkF m pc' Ls (.long (-x) :: st))) : Go p l e R s m args below meth c n0 K N Q h ck cn (mkF m pc Ls (.long x :: st)) := by
  obtain ⟨hd, rfl⟩ := hd
  exact Go.step (fun T locs X _ t k => XS.lneg X.here C.1 rfl (hb C.2.1 hd) rfl k) k
theorem g_i2l (C : Cx p s m meth c Z code maxL own ret) {pc pc' : Nat} {Ls : Array Slot} {st : List Value} {x : Int32} (hd : I1 code pc (.i2l) 1 pc') (k : Go p l e R s m args below meth c n0 K N Q h ck cn (mkF m pc' Ls (.long x.toInt64 :: st))) : Go p l e R s m args below meth c n0 K N Q h ck cn (mkF m pc Ls (.int x :: st)) := by
  obtain ⟨hd, rfl⟩ := hd
  exact Go.step (fun T locs X _ t k => XS.i2l X.here C.1 rfl (hb C.2.1 hd) rfl k) k
theorem g_l2i (C : Cx p s m meth c Z code maxL own ret) {pc pc' : Nat} {Ls : Array Slot} {st : List Value} {x : Int64} (hd : I1 code pc (.l2i) 1 pc') (k : Go p l e R s m args below meth c n0 K N Q h ck cn (mkF m pc' Ls (.int x.toInt32 :: st))) : Go p l e R s m args below meth c n0 K N Q h ck cn (mkF m pc Ls (.long x :: st)) := by
  obtain ⟨hd, rfl⟩ := hd
  exact Go.step (fun T locs X _ t k => XS.l2i X.here C.1 rfl (hb C.2.1 hd) rfl k) k
theorem g_i2b (C : Cx p s m meth c Z code maxL own ret) {pc pc' : Nat} {Ls : Array Slot} {st : List Value} {x : Int32} (hd : I1 code pc (.i2b) 1 pc') (k : Go p l e R s m args below meth c n0 K N Q h ck cn (mkF m pc' Ls (.int x.toInt8.toInt32 :: st))) : Go p l e R s m args below meth c n0 K N Q h ck cn (mkF m pc Ls (.int x :: st)) := by
  obtain ⟨hd, rfl⟩ := hd
  exact Go.step (fun T locs X _ t k => XS.i2b X.here C.1 rfl (hb C.2.1 hd) rfl k) k
theorem g_i2s (C : Cx p s m meth c Z code maxL own ret) {pc pc' : Nat} {Ls : Array Slot} {st : List Value} {x : Int32} (hd : I1 code pc (.i2s) 1 pc') (k : Go p l e R s m args below meth c n0 K N Q h ck cn (mkF m pc' Ls (.int x.toInt16.toInt32 :: st))) : Go p l e R s m args below meth c n0 K N Q h ck cn (mkF m pc Ls (.int x :: st)) := by
  obtain ⟨hd, rfl⟩ := hd
  exact Go.step (fun T locs X _ t k => XS.i2s X.here C.1 rfl (hb C.2.1 hd) rfl k) k
theorem g_i2c (C : Cx p s m meth c Z code maxL own ret) {pc pc' : Nat} {Ls : Array Slot} {st : List Value} {x : Int32} (hd : I1 code pc (.i2c) 1 pc') (k : Go p l e R s m args below meth c n0 K N Q h ck cn (mkF m pc' Ls (.int x.toUInt32.toUInt16.toUInt32.toInt32 :: st))) : Go p l e R s m args below meth c n0 K N Q h ck cn (mkF m pc Ls (.int x :: st)) := by
  obtain ⟨hd, rfl⟩ := hd
  exact Go.step (fun T locs X _ t k => XS.i2c X.here C.1 rfl (hb C.2.1 hd) rfl k) k
theorem g_idiv (C : Cx p s m meth c Z code maxL own ret) {pc pc' : Nat} {Ls : Array Slot} {st : List Value} {x y : Int32} (hd : I1 code pc (.idiv) 1 pc') (hy : y ≠ 0) (k : Go p l e R s m args below meth c n0 K N Q h ck cn (mkF m pc' Ls (.int (x / y) :: st))) : Go p l e R s m args below meth c n0 K N Q h ck cn (mkF m pc Ls (.int y :: .int x :: st)) := by
  obtain ⟨hd, rfl⟩ := hd
  exact Go.step (fun T locs X _ t k => XS.idiv X.here C.1 rfl (hb C.2.1 hd) rfl hy k) k
theorem g_ldiv (C : Cx p s m meth c Z code maxL own ret) {pc pc' : Nat} {Ls : Array Slot} {st : List Value} {x y : Int64} (hd : I1 code pc (.ldiv) 1 pc') (hy : y ≠ 0) (k : Go p l e R s m args below meth c n0 K N Q h ck cn (mkF m pc' Ls (.long (x / y) :: st))) : Go p l e R s m args below meth c n0 K N Q h ck cn (mkF m pc Ls (.long y :: .long x :: st)) := by
  obtain ⟨hd, rfl⟩ := hd
  exact Go.step (fun T locs X _ t k => XS.ldiv X.here C.1 rfl (hb C.2.1 hd) rfl hy k) k
theorem g_irem (C : Cx p s m meth c Z code maxL own ret) {pc pc' : Nat} {Ls : Array Slot} {st : List Value} {x y : Int32} (hd : I1 code pc .irem 1 pc') (hy : y ≠ 0) (k : Go p l e R s m args below meth c n0 K N Q h ck cn (mkF m pc' Ls (.int (x % y) :: st))) : Go p l e R s m args below meth c n0 K N Q h ck cn (mkF m pc Ls (.int y :: .int x :: st)) := by
  obtain ⟨hd, rfl⟩ := hd
  exact Go.step (fun T locs X _ t k => iremM X C.1 rfl (hb C.2.1 hd) rfl hy k) k
theorem g_lrem (C : Cx p s m meth c Z code maxL own ret) {pc pc' : Nat} {Ls : Array Slot} {st : List Value} {x y : Int64} (hd : I1 code pc .lrem 1 pc') (hy : y ≠ 0) (k : Go p l e R s m args below meth c n0 K N Q h ck cn (mkF m pc' Ls (.long (x % y) :: st))) : Go p l e R s m args below meth c n0 K N Q h ck cn (mkF m pc Ls (.long y :: .long x :: st)) := by
  obtain ⟨hd, rfl⟩ := hd
  exact Go.step (fun T locs X _ t k => XS.lrem X.here C.1 rfl (hb C.2.1 hd) rfl hy (by rw [lrem_mod]; exact k)) k
theorem g_iloadN (C : Cx p s m meth c Z code maxL own ret) {pc pc' : Nat} {Ls : Array Slot} {st : List Value} {k : Fin 4} {v : Int32} (hd : I1 code pc (.iload_n k) 1 pc') (hl : Ls[k.val]? = some (.val (.int v))) (k : Go p l e R s m args below meth c n0 K N Q h ck cn (mkF m pc' Ls (.int v :: st))) : Go p l e R s m args below meth c n0 K N Q h ck cn (mkF m pc Ls (st)) := by
  obtain ⟨hd, rfl⟩ := hd
  exact Go.step (fun T locs X _ t k => XS.iloadN X.here C.1 rfl (hb C.2.1 hd) hl k) k
theorem g_iload (C : Cx p s m meth c Z code maxL own ret) {pc pc' : Nat} {Ls : Array Slot} {st : List Value} {k : Nat} {v : Int32} (hd : I1 code pc (.iload k) 2 pc') (hl : Ls[k]? = some (.val (.int v))) (k : Go p l e R s m args below meth c n0 K N Q h ck cn (mkF m pc' Ls (.int v :: st))) : Go p l e R s m args below meth c n0 K N Q h ck cn (mkF m pc Ls (st)) := by
  obtain ⟨hd, rfl⟩ := hd
  exact Go.step (fun T locs X _ t k => XS.iload X.here C.1 rfl (hb C.2.1 hd) hl k) k
theorem g_istoreN (C : Cx p s m meth c Z code maxL own ret) {pc pc' : Nat} {Ls : Array Slot} {st : List Value} {k : Fin 4} {x : Int32} {Ls' : Array Slot} (hd : I1 code pc (.istore_n k) 1 pc') (hl : storeLocals Ls k.val (.int x) = some Ls') (k : Go p l e R s m args below meth c n0 K N Q h ck cn (mkF m pc' Ls' (st))) : Go p l e R s m args below meth c n0 K N Q h ck cn (mkF m pc Ls (.int x :: st)) := by
  obtain ⟨hd, rfl⟩ := hd
  exact Go.step (fun T locs X _ t k => XS.istoreN X.here C.1 rfl (hb C.2.1 hd) rfl hl k) k
theorem g_istore (C : Cx p s m meth c Z code maxL own ret) {pc pc' : Nat} {Ls : Array Slot} {st : List Value} {k : Nat} {x : Int32} {Ls' : Array Slot} (hd : I1 code pc (.istore k) 2 pc') (hl : storeLocals Ls k (.int x) = some Ls') (k : Go p l e R s m args below meth c n0 K N Q h ck cn (mkF m pc' Ls' (st))) : Go p l e R s m args below meth c n0 K N Q h ck cn (mkF m pc Ls (.int x :: st)) := by
  obtain ⟨hd, rfl⟩ := hd
  exact Go.step (fun T locs X _ t k => XS.istore X.here C.1 rfl (hb C.2.1 hd) rfl hl k) k
theorem g_lloadN (C : Cx p s m meth c Z code maxL own ret) {pc pc' : Nat} {Ls : Array Slot} {st : List Value} {k : Fin 4} {v : Int64} (hd : I1 code pc (.lload_n k) 1 pc') (hl : Ls[k.val]? = some (.val (.long v))) (k : Go p l e R s m args below meth c n0 K N Q h ck cn (mkF m pc' Ls (.long v :: st))) : Go p l e R s m args below meth c n0 K N Q h ck cn (mkF m pc Ls (st)) := by
  obtain ⟨hd, rfl⟩ := hd
  exact Go.step (fun T locs X _ t k => XS.lloadN X.here C.1 rfl (hb C.2.1 hd) hl k) k
theorem g_lload (C : Cx p s m meth c Z code maxL own ret) {pc pc' : Nat} {Ls : Array Slot} {st : List Value} {k : Nat} {v : Int64} (hd : I1 code pc (.lload k) 2 pc') (hl : Ls[k]? = some (.val (.long v))) (k : Go p l e R s m args below meth c n0 K N Q h ck cn (mkF m pc' Ls (.long v :: st))) : Go p l e R s m args below meth c n0 K N Q h ck cn (mkF m pc Ls (st)) := by
  obtain ⟨hd, rfl⟩ := hd
  exact Go.step (fun T locs X _ t k => XS.lload X.here C.1 rfl (hb C.2.1 hd) hl k) k
theorem g_lstoreN (C : Cx p s m meth c Z code maxL own ret) {pc pc' : Nat} {Ls : Array Slot} {st : List Value} {k : Fin 4} {x : Int64} {Ls' : Array Slot} (hd : I1 code pc (.lstore_n k) 1 pc') (hl : storeLocals Ls k.val (.long x) = some Ls') (k : Go p l e R s m args below meth c n0 K N Q h ck cn (mkF m pc' Ls' (st))) : Go p l e R s m args below meth c n0 K N Q h ck cn (mkF m pc Ls (.long x :: st)) := by
  obtain ⟨hd, rfl⟩ := hd
  exact Go.step (fun T locs X _ t k => XS.lstoreN X.here C.1 rfl (hb C.2.1 hd) rfl hl k) k
theorem g_lstore (C : Cx p s m meth c Z code maxL own ret) {pc pc' : Nat} {Ls : Array Slot} {st : List Value} {k : Nat} {x : Int64} {Ls' : Array Slot} (hd : I1 code pc (.lstore k) 2 pc') (hl : storeLocals Ls k (.long x) = some Ls') (k : Go p l e R s m args below meth c n0 K N Q h ck cn (mkF m pc' Ls' (st))) : Go p l e R s m args below meth c n0 K N Q h ck cn (mkF m pc Ls (.long x :: st)) := by
  obtain ⟨hd, rfl⟩ := hd
  exact Go.step (fun T locs X _ t k => XS.lstore X.here C.1 rfl (hb C.2.1 hd) rfl hl k) k
theorem g_aloadN (C : Cx p s m meth c Z code maxL own ret) {pc pc' : Nat} {Ls : Array Slot} {st : List Value} {k : Fin 4} {v : Value} (hd : I1 code pc (.aload_n k) 1 pc') (hl : Ls[k.val]? = some (.val v)) (hv : v.isRef = true) (k : Go p l e R s m args below meth c n0 K N Q h ck cn (mkF m pc' Ls (v :: st))) : Go p l e R s m args below meth c n0 K N Q h ck cn (mkF m pc Ls (st)) := by
  obtain ⟨hd, rfl⟩ := hd
  exact Go.step (fun T locs X _ t k => XS.aloadN X.here C.1 rfl (hb C.2.1 hd) hl hv k) k
theorem g_aload (C : Cx p s m meth c Z code maxL own ret) {pc pc' : Nat} {Ls : Array Slot} {st : List Value} {k : Nat} {v : Value} (hd : I1 code pc (.aload k) 2 pc') (hl : Ls[k]? = some (.val v)) (hv : v.isRef = true) (k : Go p l e R s m args below meth c n0 K N Q h ck cn (mkF m pc' Ls (v :: st))) : Go p l e R s m args below meth c n0 K N Q h ck cn (mkF m pc Ls (st)) := by
  obtain ⟨hd, rfl⟩ := hd
  exact Go.step (fun T locs X _ t k => XS.aload X.here C.1 rfl (hb C.2.1 hd) hl hv k) k
theorem g_astoreN (C : Cx p s m meth c Z code maxL own ret) {pc pc' : Nat} {Ls : Array Slot} {st : List Value} {k : Fin 4} {x : Value} {Ls' : Array Slot} (hd : I1 code pc (.astore_n k) 1 pc') (hv : x.isRef = true) (hl : storeLocals Ls k.val x = some Ls') (k : Go p l e R s m args below meth c n0 K N Q h ck cn (mkF m pc' Ls' (st))) : Go p l e R s m args below meth c n0 K N Q h ck cn (mkF m pc Ls (x :: st)) := by
  obtain ⟨hd, rfl⟩ := hd
  exact Go.step (fun T locs X _ t k => XS.astoreN X.here C.1 rfl (hb C.2.1 hd) rfl hv hl k) k
theorem g_astore (C : Cx p s m meth c Z code maxL own ret) {pc pc' : Nat} {Ls : Array Slot} {st : List Value} {k : Nat} {x : Value} {Ls' : Array Slot} (hd : I1 code pc (.astore k) 2 pc') (hv : x.isRef = true) (hl : storeLocals Ls k x = some Ls') (k : Go p l e R s m args below meth c n0 K N Q h ck cn (mkF m pc' Ls' (st))) : Go p l e R s m args below meth c n0 K N Q h ck cn (mkF m pc Ls (x :: st)) := by
  obtain ⟨hd, rfl⟩ := hd
  exact Go.step (fun T locs X _ t k => XS.astore X.here C.1 rfl (hb C.2.1 hd) rfl hv hl k) k
theorem g_iinc (C : Cx p s m meth c Z code maxL own ret) {pc pc' : Nat} {Ls : Array Slot} {st : List Value} {k : Nat} {cst : Int} {x : Int32} {Ls' : Array Slot} (hd : I1 code pc (.iinc k cst) 3 pc') (hl : Ls[k]? = some (.val (.int x))) (hl' : storeLocals Ls k (.int (x + Int32.ofInt cst)) = some Ls') (k : Go p l e R s m args below meth c n0 K N Q h ck cn (mkF m pc' Ls' (st))) : Go p l e R s m args below meth c n0 K N Q h ck cn (mkF m pc Ls (st)) := by
  obtain ⟨hd, rfl⟩ := hd
  exact Go.step (fun T locs X _ t k => XS.iinc X.here C.1 rfl (hb C.2.1 hd) hl hl' k) k
theorem g_iconst (C : Cx p s m meth c Z code maxL own ret) {pc pc' : Nat} {Ls : Array Slot} {st : List Value} {i : Int} (v : Int32) (hd : I1 code pc (.iconst i) 1 pc') (hv : Int32.ofInt i = v) (k : Go p l e R s m args below meth c n0 K N Q h ck cn (mkF m pc' Ls (.int v :: st))) : Go p l e R s m args below meth c n0 K N Q h ck cn (mkF m pc Ls st) := by
  obtain ⟨hd, rfl⟩ := hd
  subst hv
  exact Go.step (fun T locs X _ t k => XS.iconst X.here C.1 rfl (hb C.2.1 hd) k) k
theorem g_bipush (C : Cx p s m meth c Z code maxL own ret) {pc pc' : Nat} {Ls : Array Slot} {st : List Value} {i : Int} (v : Int32) (hd : I1 code pc (.bipush i) 2 pc') (hv : (Int8.ofInt i).toInt32 = v) (k : Go p l e R s m args below meth c n0 K N Q h ck cn (mkF m pc' Ls (.int v :: st))) : Go p l e R s m args below meth c n0 K N Q h ck cn (mkF m pc Ls st) := by
  obtain ⟨hd, rfl⟩ := hd
  subst hv
  exact Go.step (fun T locs X _ t k => XS.bipush X.here C.1 rfl (hb C.2.1 hd) k) k
theorem g_sipush (C : Cx p s m meth c Z code maxL own ret) {pc pc' : Nat} {Ls : Array Slot} {st : List Value} {i : Int} (v : Int32) (hd : I1 code pc (.sipush i) 3 pc') (hv : (Int16.ofInt i).toInt32 = v) (k : Go p l e R s m args below meth c n0 K N Q h ck cn (mkF m pc' Ls (.int v :: st))) : Go p l e R s m args below meth c n0 K N Q h ck cn (mkF m pc Ls st) := by
  obtain ⟨hd, rfl⟩ := hd
  subst hv
  exact Go.step (fun T locs X _ t k => XS.sipush X.here C.1 rfl (hb C.2.1 hd) k) k
theorem g_lconst (C : Cx p s m meth c Z code maxL own ret) {pc pc' : Nat} {Ls : Array Slot} {st : List Value} {i : Fin 2} (v : Int64) (hd : I1 code pc (.lconst i) 1 pc') (hv : Int64.ofNat i = v) (k : Go p l e R s m args below meth c n0 K N Q h ck cn (mkF m pc' Ls (.long v :: st))) : Go p l e R s m args below meth c n0 K N Q h ck cn (mkF m pc Ls st) := by
  obtain ⟨hd, rfl⟩ := hd
  subst hv
  exact Go.step (fun T locs X _ t k => XS.lconst X.here C.1 rfl (hb C.2.1 hd) k) k
theorem g_aconstNull (C : Cx p s m meth c Z code maxL own ret) {pc pc' : Nat} {Ls : Array Slot} {st : List Value}  (hd : I1 code pc (.aconst_null) 1 pc') (k : Go p l e R s m args below meth c n0 K N Q h ck cn (mkF m pc' Ls (.null :: st))) : Go p l e R s m args below meth c n0 K N Q h ck cn (mkF m pc Ls (st)) := by
  obtain ⟨hd, rfl⟩ := hd
  exact Go.step (fun T locs X _ t k => XS.aconstNull X.here C.1 rfl (hb C.2.1 hd)  k) k
theorem g_ldcInt (C : Cx p s m meth c Z code maxL own ret) {pc pc' : Nat} {Ls : Array Slot} {st : List Value} {i : Nat} {v : Int32} (hd : I1 code pc (.ldc i) 2 pc') (w : (Cond.constant own i v).before a0 Z = true) (k : Go p l e R s m args below meth c n0 K N Q h ck cn (mkF m pc' Ls (.int v :: st))) : Go p l e R s m args below meth c n0 K N Q h ck cn (mkF m pc Ls st) := by
  obtain ⟨hd, rfl⟩ := hd
  exact Go.step (fun T locs X _ t k => X.ldcInt C.1 C.2.2.2.2.1 (mvT C.2.2.2.1 w) (g := mkF m pc Ls st) rfl (hb C.2.1 hd) _ k) k
theorem g_ldcwInt (C : Cx p s m meth c Z code maxL own ret) {pc pc' : Nat} {Ls : Array Slot} {st : List Value} {i : Nat} {v : Int32} (hd : I1 code pc (.ldc_w i) 3 pc') (w : (Cond.constant own i v).before a0 Z = true) (k : Go p l e R s m args below meth c n0 K N Q h ck cn (mkF m pc' Ls (.int v :: st))) : Go p l e R s m args below meth c n0 K N Q h ck cn (mkF m pc Ls st) := by
  obtain ⟨hd, rfl⟩ := hd
  exact Go.step (fun T locs X _ t k => X.ldcwInt C.1 C.2.2.2.2.1 (mvT C.2.2.2.1 w) (g := mkF m pc Ls st) rfl (hb C.2.1 hd) _ k) k
theorem g_ldc2Long (C : Cx p s m meth c Z code maxL own ret) {pc pc' : Nat} {Ls : Array Slot} {st : List Value} {i : Nat} {v : Int64} (hd : I1 code pc (.ldc2_w i) 3 pc') (w : (Cond.constantLong own i v).before a0 Z = true) (k : Go p l e R s m args below meth c n0 K N Q h ck cn (mkF m pc' Ls (.long v :: st))) : Go p l e R s m args below meth c n0 K N Q h ck cn (mkF m pc Ls st) := by
  obtain ⟨hd, rfl⟩ := hd
  exact Go.step (fun T locs X _ t k => X.ldc2Long C.1 C.2.2.2.2.1 (mvT C.2.2.2.1 w) (g := mkF m pc Ls st) rfl (hb C.2.1 hd) _ k) k
theorem g_dup (C : Cx p s m meth c Z code maxL own ret) {pc pc' : Nat} {Ls : Array Slot} {st : List Value} {x : Value} (hd : I1 code pc (.dup) 1 pc') (hc : x.category = 1) (k : Go p l e R s m args below meth c n0 K N Q h ck cn (mkF m pc' Ls (x :: x :: st))) : Go p l e R s m args below meth c n0 K N Q h ck cn (mkF m pc Ls (x :: st)) := by
  obtain ⟨hd, rfl⟩ := hd
  exact Go.step (fun T locs X _ t k => XS.dup X.here C.1 rfl (hb C.2.1 hd) rfl hc k) k
theorem g_pop (C : Cx p s m meth c Z code maxL own ret) {pc pc' : Nat} {Ls : Array Slot} {st : List Value} {x : Value} (hd : I1 code pc (.pop) 1 pc') (hc : x.category = 1) (k : Go p l e R s m args below meth c n0 K N Q h ck cn (mkF m pc' Ls (st))) : Go p l e R s m args below meth c n0 K N Q h ck cn (mkF m pc Ls (x :: st)) := by
  obtain ⟨hd, rfl⟩ := hd
  exact Go.step (fun T locs X _ t k => XS.pop X.here C.1 rfl (hb C.2.1 hd) rfl hc k) k
theorem g_dupX1 (C : Cx p s m meth c Z code maxL own ret) {pc pc' : Nat} {Ls : Array Slot} {st : List Value} {x y : Value} (hd : I1 code pc (.dup_x1) 1 pc') (hc : x.category = 1) (hc' : y.category = 1) (k : Go p l e R s m args below meth c n0 K N Q h ck cn (mkF m pc' Ls (x :: y :: x :: st))) : Go p l e R s m args below meth c n0 K N Q h ck cn (mkF m pc Ls (x :: y :: st)) := by
  obtain ⟨hd, rfl⟩ := hd
  exact Go.step (fun T locs X _ t k => XS.dupX1 X.here C.1 rfl (hb C.2.1 hd) rfl hc hc' k) k
theorem g_dup2 (C : Cx p s m meth c Z code maxL own ret) {pc pc' : Nat} {Ls : Array Slot} {st : List Value} {x y : Value} (hd : I1 code pc (.dup2) 1 pc') (hc : x.category = 1) (hc' : y.category = 1) (k : Go p l e R s m args below meth c n0 K N Q h ck cn (mkF m pc' Ls (x :: y :: x :: y :: st))) : Go p l e R s m args below meth c n0 K N Q h ck cn (mkF m pc Ls (x :: y :: st)) := by
  obtain ⟨hd, rfl⟩ := hd
  exact Go.step (fun T locs X _ t k => Jvm.Free.XT.dup2 X.here C.1 rfl (hb C.2.1 hd) rfl hc hc' k) k
theorem g_dup2L (C : Cx p s m meth c Z code maxL own ret) {pc pc' : Nat} {Ls : Array Slot} {st : List Value} {x : Int64} (hd : I1 code pc (.dup2) 1 pc') (k : Go p l e R s m args below meth c n0 K N Q h ck cn (mkF m pc' Ls (.long x :: .long x :: st))) : Go p l e R s m args below meth c n0 K N Q h ck cn (mkF m pc Ls (.long x :: st)) := by
  obtain ⟨hd, rfl⟩ := hd
  exact Go.step (fun T locs X _ t k => Jvm.Free.XT.dup2L X.here C.1 rfl (hb C.2.1 hd) rfl k) k
theorem g_goto (C : Cx p s m meth c Z code maxL own ret) {pc pcT pcF : Nat} {Ls : Array Slot} {st : List Value} {o : Int} (hd : B1 code pc (.goto o) o pcT pcF) (k : Go p l e R s m args below meth c n0 K N Q h ck cn (mkF m pcT Ls st)) : Go p l e R s m args below meth c n0 K N Q h ck cn (mkF m pc Ls st) := by
  obtain ⟨hd, -, ho, hp⟩ := hd
  exact Go.step (fun T locs X _ t k => XS.goto X.here C.1 rfl (pc0 := pc) rfl (hb C.2.1 hd) ho hp k) k
theorem g_icmp_lt (C : Cx p s m meth c Z code maxL own ret) {pc pcT pcF : Nat} {Ls : Array Slot} {st : List Value} {o : Int} {x y : Int32} (hd : B1 code pc (.if_icmp .lt o) o pcT pcF) (kt : x < y → Go p l e R s m args below meth c n0 K N Q h ck cn (mkF m pcT Ls st)) (kf : ¬ (x < y) → Go p l e R s m args below meth c n0 K N Q h ck cn (mkF m pcF Ls st)) : Go p l e R s m args below meth c n0 K N Q h ck cn (mkF m pc Ls (.int y :: .int x :: st)) := by
  obtain ⟨hd, rfl, ho, hp⟩ := hd
  by_cases q : x < y
  · exact Go.step (fun T locs X _ t k => XS.icmpYes X.here C.1 rfl (pc0 := pc) rfl (hb C.2.1 hd) rfl ((tlt q).1) ho hp k) (kt q)
  · exact Go.step (fun T locs X _ t k => XS.icmpNo X.here C.1 rfl (hb C.2.1 hd) rfl ((flt q).1) k) (kf q)
theorem g_if_lt (C : Cx p s m meth c Z code maxL own ret) {pc pcT pcF : Nat} {Ls : Array Slot} {st : List Value} {o : Int} {x : Int32} (hd : B1 code pc (.ifCond .lt o) o pcT pcF) (kt : x < 0 → Go p l e R s m args below meth c n0 K N Q h ck cn (mkF m pcT Ls st)) (kf : ¬ (x < 0) → Go p l e R s m args below meth c n0 K N Q h ck cn (mkF m pcF Ls st)) : Go p l e R s m args below meth c n0 K N Q h ck cn (mkF m pc Ls (.int x :: st)) := by
  obtain ⟨hd, rfl, ho, hp⟩ := hd
  by_cases q : x < 0
  · exact Go.step (fun T locs X _ t k => XS.ifYes X.here C.1 rfl (pc0 := pc) rfl (hb C.2.1 hd) rfl ((if0 _ _).trans (tlt q).1) ho hp k) (kt q)
  · exact Go.step (fun T locs X _ t k => XS.ifNo X.here C.1 rfl (hb C.2.1 hd) rfl ((if0 _ _).trans (flt q).1) k) (kf q)
theorem g_ifl_lt (C : Cx p s m meth c Z code maxL own ret) {pc pcT pcF : Nat} {Ls : Array Slot} {st : List Value} {o : Int} {x y : Int64} (hd : B1 code pc (.ifCond .lt o) o pcT pcF) (kt : x < y → Go p l e R s m args below meth c n0 K N Q h ck cn (mkF m pcT Ls st)) (kf : ¬ (x < y) → Go p l e R s m args below meth c n0 K N Q h ck cn (mkF m pcF Ls st)) : Go p l e R s m args below meth c n0 K N Q h ck cn (mkF m pc Ls (.int (lcmpW x y) :: st)) := by
  obtain ⟨hd, rfl, ho, hp⟩ := hd
  by_cases q : x < y
  · exact Go.step (fun T locs X _ t k => XS.ifYes X.here C.1 rfl (pc0 := pc) rfl (hb C.2.1 hd) rfl ((if0 _ _).trans (tlt ((lw_lt x y).mpr q)).1) ho hp k) (kt q)
  · exact Go.step (fun T locs X _ t k => XS.ifNo X.here C.1 rfl (hb C.2.1 hd) rfl ((if0 _ _).trans (flt (fun z => q ((lw_lt x y).mp z))).1) k) (kf q)
theorem g_icmp_ge (C : Cx p s m meth c Z code maxL own ret) {pc pcT pcF : Nat} {Ls : Array Slot} {st : List Value} {o : Int} {x y : Int32} (hd : B1 code pc (.if_icmp .ge o) o pcT pcF) (kt : x < y → Go p l e R s m args below meth c n0 K N Q h ck cn (mkF m pcF Ls st)) (kf : ¬ (x < y) → Go p l e R s m args below meth c n0 K N Q h ck cn (mkF m pcT Ls st)) : Go p l e R s m args below meth c n0 K N Q h ck cn (mkF m pc Ls (.int y :: .int x :: st)) := by
  obtain ⟨hd, rfl, ho, hp⟩ := hd
  by_cases q : x < y
  · exact Go.step (fun T locs X _ t k => XS.icmpNo X.here C.1 rfl (hb C.2.1 hd) rfl ((tlt q).2.1) k) (kt q)
  · exact Go.step (fun T locs X _ t k => XS.icmpYes X.here C.1 rfl (pc0 := pc) rfl (hb C.2.1 hd) rfl ((flt q).2.1) ho hp k) (kf q)
theorem g_if_ge (C : Cx p s m meth c Z code maxL own ret) {pc pcT pcF : Nat} {Ls : Array Slot} {st : List Value} {o : Int} {x : Int32} (hd : B1 code pc (.ifCond .ge o) o pcT pcF) (kt : x < 0 → Go p l e R s m args below meth c n0 K N Q h ck cn (mkF m pcF Ls st)) (kf : ¬ (x < 0) → Go p l e R s m args below meth c n0 K N Q h ck cn (mkF m pcT Ls st)) : Go p l e R s m args below meth c n0 K N Q h ck cn (mkF m pc Ls (.int x :: st)) := by
  obtain ⟨hd, rfl, ho, hp⟩ := hd
  by_cases q : x < 0
  · exact Go.step (fun T locs X _ t k => XS.ifNo X.here C.1 rfl (hb C.2.1 hd) rfl ((if0 _ _).trans (tlt q).2.1) k) (kt q)
  · exact Go.step (fun T locs X _ t k => XS.ifYes X.here C.1 rfl (pc0 := pc) rfl (hb C.2.1 hd) rfl ((if0 _ _).trans (flt q).2.1) ho hp k) (kf q)
theorem g_ifl_ge (C : Cx p s m meth c Z code maxL own ret) {pc pcT pcF : Nat} {Ls : Array Slot} {st : List Value} {o : Int} {x y : Int64} (hd : B1 code pc (.ifCond .ge o) o pcT pcF) (kt : x < y → Go p l e R s m args below meth c n0 K N Q h ck cn (mkF m pcF Ls st)) (kf : ¬ (x < y) → Go p l e R s m args below meth c n0 K N Q h ck cn (mkF m pcT Ls st)) : Go p l e R s m args below meth c n0 K N Q h ck cn (mkF m pc Ls (.int (lcmpW x y) :: st)) := by
  obtain ⟨hd, rfl, ho, hp⟩ := hd
  by_cases q : x < y
  · exact Go.step (fun T locs X _ t k => XS.ifNo X.here C.1 rfl (hb C.2.1 hd) rfl ((if0 _ _).trans (tlt ((lw_lt x y).mpr q)).2.1) k) (kt q)
  · exact Go.step (fun T locs X _ t k => XS.ifYes X.here C.1 rfl (pc0 := pc) rfl (hb C.2.1 hd) rfl ((if0 _ _).trans (flt (fun z => q ((lw_lt x y).mp z))).2.1) ho hp k) (kf q)
theorem g_icmp_gt (C : Cx p s m meth c Z code maxL own ret) {pc pcT pcF : Nat} {Ls : Array Slot} {st : List Value} {o : Int} {x y : Int32} (hd : B1 code pc (.if_icmp .gt o) o pcT pcF) (kt : y < x → Go p l e R s m args below meth c n0 K N Q h ck cn (mkF m pcT Ls st)) (kf : ¬ (y < x) → Go p l e R s m args below meth c n0 K N Q h ck cn (mkF m pcF Ls st)) : Go p l e R s m args below meth c n0 K N Q h ck cn (mkF m pc Ls (.int y :: .int x :: st)) := by
  obtain ⟨hd, rfl, ho, hp⟩ := hd
  by_cases q : y < x
  · exact Go.step (fun T locs X _ t k => XS.icmpYes X.here C.1 rfl (pc0 := pc) rfl (hb C.2.1 hd) rfl ((tlt q).2.2.1) ho hp k) (kt q)
  · exact Go.step (fun T locs X _ t k => XS.icmpNo X.here C.1 rfl (hb C.2.1 hd) rfl ((flt q).2.2.1) k) (kf q)
theorem g_if_gt (C : Cx p s m meth c Z code maxL own ret) {pc pcT pcF : Nat} {Ls : Array Slot} {st : List Value} {o : Int} {x : Int32} (hd : B1 code pc (.ifCond .gt o) o pcT pcF) (kt : 0 < x → Go p l e R s m args below meth c n0 K N Q h ck cn (mkF m pcT Ls st)) (kf : ¬ (0 < x) → Go p l e R s m args below meth c n0 K N Q h ck cn (mkF m pcF Ls st)) : Go p l e R s m args below meth c n0 K N Q h ck cn (mkF m pc Ls (.int x :: st)) := by
  obtain ⟨hd, rfl, ho, hp⟩ := hd
  by_cases q : 0 < x
  · exact Go.step (fun T locs X _ t k => XS.ifYes X.here C.1 rfl (pc0 := pc) rfl (hb C.2.1 hd) rfl ((if0 _ _).trans (tlt q).2.2.1) ho hp k) (kt q)
  · exact Go.step (fun T locs X _ t k => XS.ifNo X.here C.1 rfl (hb C.2.1 hd) rfl ((if0 _ _).trans (flt q).2.2.1) k) (kf q)
theorem g_ifl_gt (C : Cx p s m meth c Z code maxL own ret) {pc pcT pcF : Nat} {Ls : Array Slot} {st : List Value} {o : Int} {x y : Int64} (hd : B1 code pc (.ifCond .gt o) o pcT pcF) (kt : y < x → Go p l e R s m args below meth c n0 K N Q h ck cn (mkF m pcT Ls st)) (kf : ¬ (y < x) → Go p l e R s m args below meth c n0 K N Q h ck cn (mkF m pcF Ls st)) : Go p l e R s m args below meth c n0 K N Q h ck cn (mkF m pc Ls (.int (lcmpW x y) :: st)) := by
  obtain ⟨hd, rfl, ho, hp⟩ := hd
  by_cases q : y < x
  · exact Go.step (fun T locs X _ t k => XS.ifYes X.here C.1 rfl (pc0 := pc) rfl (hb C.2.1 hd) rfl ((if0 _ _).trans (tlt ((lw_gt x y).mpr q)).2.2.1) ho hp k) (kt q)
  · exact Go.step (fun T locs X _ t k => XS.ifNo X.here C.1 rfl (hb C.2.1 hd) rfl ((if0 _ _).trans (flt (fun z => q ((lw_gt x y).mp z))).2.2.1) k) (kf q)
theorem g_icmp_le (C : Cx p s m meth c Z code maxL own ret) {pc pcT pcF : Nat} {Ls : Array Slot} {st : List Value} {o : Int} {x y : Int32} (hd : B1 code pc (.if_icmp .le o) o pcT pcF) (kt : y < x → Go p l e R s m args below meth c n0 K N Q h ck cn (mkF m pcF Ls st)) (kf : ¬ (y < x) → Go p l e R s m args below meth c n0 K N Q h ck cn (mkF m pcT Ls st)) : Go p l e R s m args below meth c n0 K N Q h ck cn (mkF m pc Ls (.int y :: .int x :: st)) := by
  obtain ⟨hd, rfl, ho, hp⟩ := hd
  by_cases q : y < x
  · exact Go.step (fun T locs X _ t k => XS.icmpNo X.here C.1 rfl (hb C.2.1 hd) rfl ((tlt q).2.2.2) k) (kt q)
  · exact Go.step (fun T locs X _ t k => XS.icmpYes X.here C.1 rfl (pc0 := pc) rfl (hb C.2.1 hd) rfl ((flt q).2.2.2) ho hp k) (kf q)
theorem g_if_le (C : Cx p s m meth c Z code maxL own ret) {pc pcT pcF : Nat} {Ls : Array Slot} {st : List Value} {o : Int} {x : Int32} (hd : B1 code pc (.ifCond .le o) o pcT pcF) (kt : 0 < x → Go p l e R s m args below meth c n0 K N Q h ck cn (mkF m pcF Ls st)) (kf : ¬ (0 < x) → Go p l e R s m args below meth c n0 K N Q h ck cn (mkF m pcT Ls st)) : Go p l e R s m args below meth c n0 K N Q h ck cn (mkF m pc Ls (.int x :: st)) := by
  obtain ⟨hd, rfl, ho, hp⟩ := hd
  by_cases q : 0 < x
  · exact Go.step (fun T locs X _ t k => XS.ifNo X.here C.1 rfl (hb C.2.1 hd) rfl ((if0 _ _).trans (tlt q).2.2.2) k) (kt q)
  · exact Go.step (fun T locs X _ t k => XS.ifYes X.here C.1 rfl (pc0 := pc) rfl (hb C.2.1 hd) rfl ((if0 _ _).trans (flt q).2.2.2) ho hp k) (kf q)
theorem g_ifl_le (C : Cx p s m meth c Z code maxL own ret) {pc pcT pcF : Nat} {Ls : Array Slot} {st : List Value} {o : Int} {x y : Int64} (hd : B1 code pc (.ifCond .le o) o pcT pcF) (kt : y < x → Go p l e R s m args below meth c n0 K N Q h ck cn (mkF m pcF Ls st)) (kf : ¬ (y < x) → Go p l e R s m args below meth c n0 K N Q h ck cn (mkF m pcT Ls st)) : Go p l e R s m args below meth c n0 K N Q h ck cn (mkF m pc Ls (.int (lcmpW x y) :: st)) := by
  obtain ⟨hd, rfl, ho, hp⟩ := hd
  by_cases q : y < x
  · exact Go.step (fun T locs X _ t k => XS.ifNo X.here C.1 rfl (hb C.2.1 hd) rfl ((if0 _ _).trans (tlt ((lw_gt x y).mpr q)).2.2.2) k) (kt q)
  · exact Go.step (fun T locs X _ t k => XS.ifYes X.here C.1 rfl (pc0 := pc) rfl (hb C.2.1 hd) rfl ((if0 _ _).trans (flt (fun z => q ((lw_gt x y).mp z))).2.2.2) ho hp k) (kf q)
theorem g_icmp_eq (C : Cx p s m meth c Z code maxL own ret) {pc pcT pcF : Nat} {Ls : Array Slot} {st : List Value} {o : Int} {x y : Int32} (hd : B1 code pc (.if_icmp .eq o) o pcT pcF) (kt : x = y → Go p l e R s m args below meth c n0 K N Q h ck cn (mkF m pcT Ls st)) (kf : ¬ (x = y) → Go p l e R s m args below meth c n0 K N Q h ck cn (mkF m pcF Ls st)) : Go p l e R s m args below meth c n0 K N Q h ck cn (mkF m pc Ls (.int y :: .int x :: st)) := by
  obtain ⟨hd, rfl, ho, hp⟩ := hd
  by_cases q : x = y
  · exact Go.step (fun T locs X _ t k => XS.icmpYes X.here C.1 rfl (pc0 := pc) rfl (hb C.2.1 hd) rfl ((teq q).1) ho hp k) (kt q)
  · exact Go.step (fun T locs X _ t k => XS.icmpNo X.here C.1 rfl (hb C.2.1 hd) rfl ((feq q).1) k) (kf q)
theorem g_if_eq (C : Cx p s m meth c Z code maxL own ret) {pc pcT pcF : Nat} {Ls : Array Slot} {st : List Value} {o : Int} {x : Int32} (hd : B1 code pc (.ifCond .eq o) o pcT pcF) (kt : x = 0 → Go p l e R s m args below meth c n0 K N Q h ck cn (mkF m pcT Ls st)) (kf : ¬ (x = 0) → Go p l e R s m args below meth c n0 K N Q h ck cn (mkF m pcF Ls st)) : Go p l e R s m args below meth c n0 K N Q h ck cn (mkF m pc Ls (.int x :: st)) := by
  obtain ⟨hd, rfl, ho, hp⟩ := hd
  by_cases q : x = 0
  · exact Go.step (fun T locs X _ t k => XS.ifYes X.here C.1 rfl (pc0 := pc) rfl (hb C.2.1 hd) rfl ((if0 _ _).trans (teq q).1) ho hp k) (kt q)
  · exact Go.step (fun T locs X _ t k => XS.ifNo X.here C.1 rfl (hb C.2.1 hd) rfl ((if0 _ _).trans (feq q).1) k) (kf q)
theorem g_ifl_eq (C : Cx p s m meth c Z code maxL own ret) {pc pcT pcF : Nat} {Ls : Array Slot} {st : List Value} {o : Int} {x y : Int64} (hd : B1 code pc (.ifCond .eq o) o pcT pcF) (kt : x = y → Go p l e R s m args below meth c n0 K N Q h ck cn (mkF m pcT Ls st)) (kf : ¬ (x = y) → Go p l e R s m args below meth c n0 K N Q h ck cn (mkF m pcF Ls st)) : Go p l e R s m args below meth c n0 K N Q h ck cn (mkF m pc Ls (.int (lcmpW x y) :: st)) := by
  obtain ⟨hd, rfl, ho, hp⟩ := hd
  by_cases q : x = y
  · exact Go.step (fun T locs X _ t k => XS.ifYes X.here C.1 rfl (pc0 := pc) rfl (hb C.2.1 hd) rfl ((if0 _ _).trans (teq ((lw_eq x y).mpr q)).1) ho hp k) (kt q)
  · exact Go.step (fun T locs X _ t k => XS.ifNo X.here C.1 rfl (hb C.2.1 hd) rfl ((if0 _ _).trans (feq (fun z => q ((lw_eq x y).mp z))).1) k) (kf q)
theorem g_icmp_ne (C : Cx p s m meth c Z code maxL own ret) {pc pcT pcF : Nat} {Ls : Array Slot} {st : List Value} {o : Int} {x y : Int32} (hd : B1 code pc (.if_icmp .ne o) o pcT pcF) (kt : x = y → Go p l e R s m args below meth c n0 K N Q h ck cn (mkF m pcF Ls st)) (kf : ¬ (x = y) → Go p l e R s m args below meth c n0 K N Q h ck cn (mkF m pcT Ls st)) : Go p l e R s m args below meth c n0 K N Q h ck cn (mkF m pc Ls (.int y :: .int x :: st)) := by
  obtain ⟨hd, rfl, ho, hp⟩ := hd
  by_cases q : x = y
  · exact Go.step (fun T locs X _ t k => XS.icmpNo X.here C.1 rfl (hb C.2.1 hd) rfl ((teq q).2) k) (kt q)
  · exact Go.step (fun T locs X _ t k => XS.icmpYes X.here C.1 rfl (pc0 := pc) rfl (hb C.2.1 hd) rfl ((feq q).2) ho hp k) (kf q)
theorem g_if_ne (C : Cx p s m meth c Z code maxL own ret) {pc pcT pcF : Nat} {Ls : Array Slot} {st : List Value} {o : Int} {x : Int32} (hd : B1 code pc (.ifCond .ne o) o pcT pcF) (kt : x = 0 → Go p l e R s m args below meth c n0 K N Q h ck cn (mkF m pcF Ls st)) (kf : ¬ (x = 0) → Go p l e R s m args below meth c n0 K N Q h ck cn (mkF m pcT Ls st)) : Go p l e R s m args below meth c n0 K N Q h ck cn (mkF m pc Ls (.int x :: st)) := by
  obtain ⟨hd, rfl, ho, hp⟩ := hd
  by_cases q : x = 0
  · exact Go.step (fun T locs X _ t k => XS.ifNo X.here C.1 rfl (hb C.2.1 hd) rfl ((if0 _ _).trans (teq q).2) k) (kt q)
  · exact Go.step (fun T locs X _ t k => XS.ifYes X.here C.1 rfl (pc0 := pc) rfl (hb C.2.1 hd) rfl ((if0 _ _).trans (feq q).2) ho hp k) (kf q)
theorem g_ifl_ne (C : Cx p s m meth c Z code maxL own ret) {pc pcT pcF : Nat} {Ls : Array Slot} {st : List Value} {o : Int} {x y : Int64} (hd : B1 code pc (.ifCond .ne o) o pcT pcF) (kt : x = y → Go p l e R s m args below meth c n0 K N Q h ck cn (mkF m pcF Ls st)) (kf : ¬ (x = y) → Go p l e R s m args below meth c n0 K N Q h ck cn (mkF m pcT Ls st)) : Go p l e R s m args below meth c n0 K N Q h ck cn (mkF m pc Ls (.int (lcmpW x y) :: st)) := by
  obtain ⟨hd, rfl, ho, hp⟩ := hd
  by_cases q : x = y
  · exact Go.step (fun T locs X _ t k => XS.ifNo X.here C.1 rfl (hb C.2.1 hd) rfl ((if0 _ _).trans (teq ((lw_eq x y).mpr q)).2) k) (kt q)
  · exact Go.step (fun T locs X _ t k => XS.ifYes X.here C.1 rfl (pc0 := pc) rfl (hb C.2.1 hd) rfl ((if0 _ _).trans (feq (fun z => q ((lw_eq x y).mp z))).2) ho hp k) (kf q)
theorem g_ifnullN (C : Cx p s m meth c Z code maxL own ret) {pc pcT pcF : Nat} {Ls : Array Slot} {st : List Value} {o : Int} {b : Addr} (hd : B1 code pc (.ifnull o) o pcT pcF) (k : Go p l e R s m args below meth c n0 K N Q h ck cn (mkF m pcF Ls st)) : Go p l e R s m args below meth c n0 K N Q h ck cn (mkF m pc Ls (.ref b :: st)) := by
  obtain ⟨hd, rfl, ho, hp⟩ := hd
  exact Go.step (fun T locs X _ t k => XS.ifnullNo X.here C.1 rfl (hb C.2.1 hd) rfl k) k
theorem g_ifnullY (C : Cx p s m meth c Z code maxL own ret) {pc pcT pcF : Nat} {Ls : Array Slot} {st : List Value} {o : Int} (hd : B1 code pc (.ifnull o) o pcT pcF) (k : Go p l e R s m args below meth c n0 K N Q h ck cn (mkF m pcT Ls st)) : Go p l e R s m args below meth c n0 K N Q h ck cn (mkF m pc Ls (.null :: st)) := by
  obtain ⟨hd, rfl, ho, hp⟩ := hd
  exact Go.step (fun T locs X _ t k => XS.ifnullYes X.here C.1 rfl (pc0 := pc) rfl (hb C.2.1 hd) rfl ho hp k) k
theorem g_ifnonnullY (C : Cx p s m meth c Z code maxL own ret) {pc pcT pcF : Nat} {Ls : Array Slot} {st : List Value} {o : Int} {b : Addr} (hd : B1 code pc (.ifnonnull o) o pcT pcF) (k : Go p l e R s m args below meth c n0 K N Q h ck cn (mkF m pcT Ls st)) : Go p l e R s m args below meth c n0 K N Q h ck cn (mkF m pc Ls (.ref b :: st)) := by
  obtain ⟨hd, rfl, ho, hp⟩ := hd
  exact Go.step (fun T locs X _ t k => XS.ifnonnullYes X.here C.1 rfl (pc0 := pc) rfl (hb C.2.1 hd) rfl ho hp k) k
theorem g_ifnonnullN (C : Cx p s m meth c Z code maxL own ret) {pc pcT pcF : Nat} {Ls : Array Slot} {st : List Value} {o : Int} (hd : B1 code pc (.ifnonnull o) o pcT pcF) (k : Go p l e R s m args below meth c n0 K N Q h ck cn (mkF m pcF Ls st)) : Go p l e R s m args below meth c n0 K N Q h ck cn (mkF m pc Ls (.null :: st)) := by
  obtain ⟨hd, rfl, ho, hp⟩ := hd
  exact Go.step (fun T locs X _ t k => XS.ifnonnullNo X.here C.1 rfl (hb C.2.1 hd) rfl k) k
theorem g_acmp_eq (C : Cx p s m meth c Z code maxL own ret) {pc pcT pcF : Nat} {Ls : Array Slot} {st : List Value} {o : Int} {x y : Value} (h1 : x.isRef = true) (h2 : y.isRef = true) (hd : B1 code pc (.if_acmp .eq o) o pcT pcF) (kt : x = y → Go p l e R s m args below meth c n0 K N Q h ck cn (mkF m pcT Ls st)) (kf : ¬ x = y → Go p l e R s m args below meth c n0 K N Q h ck cn (mkF m pcF Ls st)) : Go p l e R s m args below meth c n0 K N Q h ck cn (mkF m pc Ls (y :: x :: st)) := by
  obtain ⟨hd, rfl, ho, rfl⟩ := hd
  by_cases q : x = y
  · exact Go.step (fun T locs X _ t k => Jvm.RoadKit.acmp X C.1 rfl h1 h2 (pc0 := pc) (same := true) rfl (hb C.2.1 hd) rfl (by simp [q]) ho rfl k) (kt q)
  · exact Go.step (fun T locs X _ t k => Jvm.RoadKit.acmp X C.1 rfl h1 h2 (pc0 := pc) (same := false) rfl (hb C.2.1 hd) rfl (by simp [q]) ho rfl k) (kf q)
theorem g_acmp_ne (C : Cx p s m meth c Z code maxL own ret) {pc pcT pcF : Nat} {Ls : Array Slot} {st : List Value} {o : Int} {x y : Value} (h1 : x.isRef = true) (h2 : y.isRef = true) (hd : B1 code pc (.if_acmp .ne o) o pcT pcF) (kt : x = y → Go p l e R s m args below meth c n0 K N Q h ck cn (mkF m pcF Ls st)) (kf : ¬ x = y → Go p l e R s m args below meth c n0 K N Q h ck cn (mkF m pcT Ls st)) : Go p l e R s m args below meth c n0 K N Q h ck cn (mkF m pc Ls (y :: x :: st)) := by
  obtain ⟨hd, rfl, ho, rfl⟩ := hd
  by_cases q : x = y
  · exact Go.step (fun T locs X _ t k => Jvm.RoadKit.acmp X C.1 rfl h1 h2 (pc0 := pc) (same := true) rfl (hb C.2.1 hd) rfl (by simp [q]) ho rfl k) (kt q)
  · exact Go.step (fun T locs X _ t k => Jvm.RoadKit.acmp X C.1 rfl h1 h2 (pc0 := pc) (same := false) rfl (hb C.2.1 hd) rfl (by simp [q]) ho rfl k) (kf q)
theorem ret0 {v : Option Value} {g : JFrame} (hlk : meth.locks = false) (hret : meth.sig.returnType = none → v = none) (hck : ck ≤ K) (hcn : cn ≤ N) (hQ : Q v h)
    (st : ∀ (T : State) (locs : List Loc) (fs : List Frame), Stand p l e R s m args below meth c T locs ck cn → (∀ (f : JFrame) (acts : List Action), f.method = m → f.locked = none → f.entered = [] → (doReturn e (T.setTop f) acts v).1 = T.setFrames fs) → Steps p.tables e below (T.setTop g) (T.setFrames fs)) :
    Go p l e R s m args below meth c n0 K N Q h ck cn g := fun T locs X eT hN => by
  obtain ⟨fs, hr, hrun, hended, hW, hsame⟩ := X.leave (v := v) hret hlk
  exact ⟨_, _, st T locs fs X hr, hrun, hended, v, locs, rfl, ⟨by show Q v T.heap; rw [eT]; exact hQ, hN⟩, ⟨_, rfl⟩, hW, hsame.mono hck hcn⟩
theorem g_retV (C : Cx p s m meth c Z code maxL own ret) {pc : Nat} {Ls : Array Slot} {pc' : Nat} (hd : I1 code pc .return_ 1 pc') (hret : ret = none) (hck : ck ≤ K) (hcn : cn ≤ N) (hQ : Q none h) : Go p l e R s m args below meth c n0 K N Q h ck cn (mkF m pc Ls []) := by
  obtain ⟨hd, -⟩ := hd
  exact ret0 C.2.2.2.2.2.2 (fun _ => rfl) hck hcn hQ (fun T locs fs X hr => X.returnOut C.1 (C.2.2.2.2.2.1.trans hret) (hb C.2.1 hd) hr)
theorem g_retInt (C : Cx p s m meth c Z code maxL own ret) {pc : Nat} {Ls : Array Slot} {pc' : Nat} {st : List Value} {z : Int32} (hd : I1 code pc .ireturn 1 pc') (hret : ret = some .int) (hck : ck ≤ K) (hcn : cn ≤ N) (hQ : Q (some (.int z)) h) : Go p l e R s m args below meth c n0 K N Q h ck cn (mkF m pc Ls (.int z :: st)) := by
  obtain ⟨hd, -⟩ := hd
  have hr' := C.2.2.2.2.2.1.trans hret
  exact ret0 C.2.2.2.2.2.2 (fun q => by rw [hr'] at q; cases q) hck hcn hQ (fun T locs fs X hr => retOut X C.1 hr' rfl (Or.inl ⟨rfl, Or.inl rfl, z, rfl⟩) (hb C.2.1 hd) hr)
theorem g_retLong (C : Cx p s m meth c Z code maxL own ret) {pc : Nat} {Ls : Array Slot} {pc' : Nat} {st : List Value} {z : Int64} (hd : I1 code pc .lreturn 1 pc') (hret : ret = some .long) (hck : ck ≤ K) (hcn : cn ≤ N) (hQ : Q (some (.long z)) h) : Go p l e R s m args below meth c n0 K N Q h ck cn (mkF m pc Ls (.long z :: st)) := by
  obtain ⟨hd, -⟩ := hd
  have hr' := C.2.2.2.2.2.1.trans hret
  exact ret0 C.2.2.2.2.2.2 (fun q => by rw [hr'] at q; cases q) hck hcn hQ (fun T locs fs X hr => retOut X C.1 hr' rfl (Or.inr (Or.inl ⟨rfl, rfl, z, rfl⟩)) (hb C.2.1 hd) hr)
theorem nar_ref {t : FieldType} {v : Value} (hv : v.isRef = true) : narrow t v = v := by
  rcases ref_cases hv with rfl | ⟨a, rfl⟩ <;> cases t <;> rfl
theorem g_retRef (C : Cx p s m meth c Z code maxL own ret) {pc : Nat} {Ls : Array Slot} {pc' : Nat} {st : List Value} {v : Value} {t : FieldType} (hd : I1 code pc .areturn 1 pc') (hret : ret = some t) (ht : t.isReference = true) (hv : v.isRef = true) (hck : ck ≤ K) (hcn : cn ≤ N) (hQ : Q (some v) h) : Go p l e R s m args below meth c n0 K N Q h ck cn (mkF m pc Ls (v :: st)) := by
  obtain ⟨hd, -⟩ := hd
  have hr' := C.2.2.2.2.2.1.trans hret
  exact ret0 C.2.2.2.2.2.2 (fun q => by rw [hr'] at q; cases q) hck hcn hQ (fun T locs fs X hr => retOut X C.1 hr' (nar_ref hv) (Or.inr (Or.inr (Or.inr (Or.inr ⟨rfl, ht, hv⟩)))) (hb C.2.1 hd) hr)
theorem g_retNar (C : Cx p s m meth c Z code maxL own ret) {pc : Nat} {Ls : Array Slot} {pc' : Nat} {st : List Value} {z : Int32} {t : FieldType} (hd : I1 code pc .ireturn 1 pc') (hret : ret = some t) (ht : t = .boolean ∨ t = .byte ∨ t = .char ∨ t = .short) (hck : ck ≤ K) (hcn : cn ≤ N) (hQ : Q (some (.int (nar t z))) h) : Go p l e R s m args below meth c n0 K N Q h ck cn (mkF m pc Ls (.int z :: st)) := by
  obtain ⟨hd, -⟩ := hd
  have hr' := C.2.2.2.2.2.1.trans hret
  exact ret0 C.2.2.2.2.2.2 (fun q => by rw [hr'] at q; cases q) hck hcn hQ (fun T locs fs X hr => retN X C.1 hr' ht (hb C.2.1 hd) hr)
theorem g_getF (C : Cx p s m meth c Z code maxL own ret) {pc pc' : Nat} {Ls : Array Slot} {st : List Value} {R0 O n d host : String} {index : Nat} {a : Addr} {v : Value} (hd : I1 code pc (.getfield index) 3 pc') (w : (Cond.fieldLink own index R0 n d).before a0 Z = true ∨ (Cond.fieldLinkNest own index R0 n d host).before a0 Z = true) (via : Via Z R0 O n d) (F : Fld Z h a O n d v)
    (k : Go p l e R s m args below meth c n0 K N Q h ck cn (mkF m pc' Ls (v :: st))) : Go p l e R s m args below meth c n0 K N Q h ck cn (mkF m pc Ls (.ref a :: st)) := fun T locs X eT hN => by
  obtain ⟨hd, rfl⟩ := hd
  obtain ⟨T', X', e', st'⟩ := Jvm.RoadKit.getF X C.1 C.2.2.2.1 C.2.2.2.2.1 w via eT F (g := mkF m pc Ls (.ref a :: st)) rfl rfl (hb C.2.1 hd)
  exact Go.move hN X' e' hN st' k
theorem g_getS (C : Cx p s m meth c Z code maxL own ret) {pc pc' : Nat} {Ls : Array Slot} {st : List Value} {R0 O n d host : String} {index : Nat} {v : Value} (hd : I1 code pc (.getstatic index) 3 pc') (w : (Cond.fieldLink own index R0 n d).before a0 Z = true ∨ (Cond.fieldLinkNest own index R0 n d host).before a0 Z = true) (via : Via Z R0 O n d) (F : Sta Z h O n d v)
    (k : Go p l e R s m args below meth c n0 K N Q h ck cn (mkF m pc' Ls (v :: st))) : Go p l e R s m args below meth c n0 K N Q h ck cn (mkF m pc Ls st) := fun T locs X eT hN => by
  obtain ⟨hd, rfl⟩ := hd
  obtain ⟨T', X', e', st'⟩ := Jvm.RoadKit.getS2 X C.1 C.2.2.2.1 C.2.2.2.2.1 w via eT F (g := mkF m pc Ls st) rfl (hb C.2.1 hd)
  exact Go.move hN X' e' hN st' k
theorem g_putF (C : Cx p s m meth c Z code maxL own ret) {pc pc' : Nat} {Ls : Array Slot} {st : List Value} {R0 O n d host Cl : String} {index kk : Nat} {ty : FieldType} {a : Addr} {v old : Value} (hd : I1 code pc (.putfield index) 3 pc') (w : (Cond.fieldLink own index R0 n d).before a0 Z = true ∨ (Cond.fieldLinkNest own index R0 n d host).before a0 Z = true) (via : Via Z R0 O n d) (F : Fld Z h a O n d old) (E : Exa Z h a Cl)
    (L : (Cond.lays Cl O n d).before a0 Z = true ∨ ((Cond.laysFinal Cl O n d).before a0 Z = true ∧ own = O ∧ meth.name = "<init>")) (wi : (Cond.instantiable Cl kk).before a0 Z = true) (hty : parseFieldDescriptor d = some ty) (hn : narrow ty v = v) (hf : fits ty v = true) (ha : n0 ≤ a)
    (k : ∀ h', Wr h h' a (Jvm.RoadKit.slotOf Z O n d) v → Go p l e R s m args below meth c n0 K N Q h' ck cn (mkF m pc' Ls st)) : Go p l e R s m args below meth c n0 K N Q h ck cn (mkF m pc Ls (v :: .ref a :: st)) := fun T locs X eT hN => by
  obtain ⟨hd, rfl⟩ := hd
  obtain ⟨T', h', X', e', W, st'⟩ := Jvm.RoadKit.putF X C.1 C.2.2.2.1 C.2.2.2.2.1 w via eT F E L wi hty hn hf (g := mkF m pc Ls (v :: .ref a :: st)) rfl rfl (hb C.2.1 hd)
  exact Go.move hN X' e' (Fr.snoc X' hN ha) st' (k h' W)
theorem g_putFN (C : Cx p s m meth c Z code maxL own ret) {pc pc' : Nat} {Ls : Array Slot} {st : List Value} {R0 O n d Cl : String} {index kk : Nat} {ty : FieldType} {a : Addr} {v v' old : Value} (hd : I1 code pc (.putfield index) 3 pc') (w : (Cond.fieldLink own index R0 n d).before a0 Z = true) (via : Via Z R0 O n d) (F : Fld Z h a O n d old) (E : Exa Z h a Cl)
    (L : (Cond.lays Cl O n d).before a0 Z = true ∨ ((Cond.laysFinal Cl O n d).before a0 Z = true ∧ own = O ∧ meth.name = "<init>")) (wi : (Cond.instantiable Cl kk).before a0 Z = true) (hty : parseFieldDescriptor d = some ty) (hn : narrow ty v = v') (hf : fits ty v' = true) (ha : n0 ≤ a)
    (k : ∀ h', Wr h h' a (Jvm.RoadKit.slotOf Z O n d) v' → Go p l e R s m args below meth c n0 K N Q h' ck cn (mkF m pc' Ls st)) : Go p l e R s m args below meth c n0 K N Q h ck cn (mkF m pc Ls (v :: .ref a :: st)) := fun T locs X eT hN => by
  obtain ⟨hd, rfl⟩ := hd
  obtain ⟨T', h', X', e', W, st'⟩ := Jvm.RoadKit.putFN X C.1 C.2.2.2.1 C.2.2.2.2.1 w via eT F E L wi hty hn hf (g := mkF m pc Ls (v :: .ref a :: st)) rfl rfl (hb C.2.1 hd)
  exact Go.move hN X' e' (Fr.snoc X' hN ha) st' (k h' W)
theorem g_newO (C : Cx p s m meth c Z code maxL own ret) {pc pc' : Nat} {Ls : Array Slot} {st : List Value} {Cl : String} {index n : Nat} (hd : I1 code pc (.new index) 3 pc') (w : (Cond.classLink own index Cl).before a0 Z = true) (wi : (Cond.instantiable Cl n).before a0 Z = true) (wz : (Cond.initialized Cl).before a0 Z = true) (hc : ck + 1 ≤ R.cells) (hl : cn + n ≤ R.slots) {ck' cn' : Nat} (hck : ck + 1 = ck') (hcn : cn + n = cn')
    (k : ∀ (h' : Heap) (a : Addr), a = h.size → Ext h h' → Exa Z h' a Cl → (∀ {O nm d : String} {ty : FieldType}, Laid Z a0 Cl O nm d → parseFieldDescriptor d = some ty → Fld Z h' a O nm d (defaultValue ty)) → Go p l e R s m args below meth c n0 K N Q h' ck' cn' (mkF m pc' Ls (.ref a :: st))) : Go p l e R s m args below meth c n0 K N Q h ck cn (mkF m pc Ls st) := fun T locs X eT hN => by
  obtain ⟨hd, rfl⟩ := hd
  subst hck hcn
  obtain ⟨T', h', X', e', E, A, D, -, st'⟩ := Jvm.RoadKit.newO X C.1 C.2.2.2.1 C.2.2.2.2.1 w wi wz eT (g := mkF m pc Ls st) rfl (hb C.2.1 hd) hc hl
  exact Go.move hN X' e' hN st' (k h' _ rfl E A D)
theorem g_initO (C : Cx p s m meth c Z code maxL own ret) {pc pc' : Nat} {Ls : Array Slot} {st : List Value} {a : Addr} {idx : Nat} (hd : I1 code pc (.invokespecial idx) 3 pc') (w1 : (Cond.methodLink own idx Lib.objectInit).before a0 Z = true) (w2 : (Cond.instanceMethod Lib.objectInit).before a0 Z = true) (w3 : (Cond.code Lib.objectInit ⟨#[0xb1]⟩ 1 none).before a0 Z = true) (hsz : Ls.size = maxL)
    (hf : 1 ≤ R.frames) (W : Nat) (hW : 2 * 0 + (st.map fun v => v.category).sum ≤ W) (hl : W + 12 ≤ R.locals) (k : Go p l e R s m args below meth c n0 K N Q h ck cn (mkF m pc' Ls st)) : Go p l e R s m args below meth c n0 K N Q h ck cn (mkF m pc Ls (.ref a :: st)) := fun T locs X eT hN => by
  obtain ⟨hd, rfl⟩ := hd
  obtain ⟨T', X', e', st'⟩ := Jvm.RoadKit.initO X C.1 C.2.2.2.1 C.2.2.2.2.1 w1 w2 w3 eT (g := mkF m pc Ls (.ref a :: st)) rfl (hsz.trans C.2.2.1.symm) rfl (hb C.2.1 hd) hf (W := W) hW hl
  exact Go.move hN X' e' hN st' k
theorem g_castY (C : Cx p s m meth c Z code maxL own ret) {pc pc' : Nat} {Ls : Array Slot} {st : List Value} {Kl : String} {index : Nat} {a : Addr} (hd : I1 code pc (.checkcast index) 3 pc') (w : (Cond.classLink own index Kl).before a0 Z = true) (F : Ins Z h a Kl true) (k : Go p l e R s m args below meth c n0 K N Q h ck cn (mkF m pc' Ls (.ref a :: st))) : Go p l e R s m args below meth c n0 K N Q h ck cn (mkF m pc Ls (.ref a :: st)) := fun T locs X eT hN => by
  obtain ⟨hd, rfl⟩ := hd
  obtain ⟨T', X', e', st'⟩ := Jvm.RoadKit.castY X C.1 C.2.2.2.1 C.2.2.2.2.1 w eT F (g := mkF m pc Ls (.ref a :: st)) rfl rfl (hb C.2.1 hd)
  exact Go.move hN X' e' hN st' k
theorem g_castNull (C : Cx p s m meth c Z code maxL own ret) {pc pc' : Nat} {Ls : Array Slot} {st : List Value} {index : Nat} (hd : I1 code pc (.checkcast index) 3 pc') (k : Go p l e R s m args below meth c n0 K N Q h ck cn (mkF m pc' Ls (.null :: st))) : Go p l e R s m args below meth c n0 K N Q h ck cn (mkF m pc Ls (.null :: st)) := by
  obtain ⟨hd, rfl⟩ := hd
  exact Go.step (fun T locs X _ t k => X.checkcastNull C.1 (g := mkF m pc Ls (.null :: st)) rfl rfl (hb C.2.1 hd) _ k) k
theorem g_instY (C : Cx p s m meth c Z code maxL own ret) {pc pc' : Nat} {Ls : Array Slot} {st : List Value} {Kl : String} {index : Nat} {a : Addr} (hd : I1 code pc (.instanceof index) 3 pc') (w : (Cond.classLink own index Kl).before a0 Z = true) (F : Ins Z h a Kl true) (k : Go p l e R s m args below meth c n0 K N Q h ck cn (mkF m pc' Ls (.int 1 :: st))) : Go p l e R s m args below meth c n0 K N Q h ck cn (mkF m pc Ls (.ref a :: st)) := fun T locs X eT hN => by
  obtain ⟨hd, rfl⟩ := hd
  obtain ⟨T', X', e', st'⟩ := Jvm.RoadKit.instY X C.1 C.2.2.2.1 C.2.2.2.2.1 w eT F (g := mkF m pc Ls (.ref a :: st)) rfl rfl (hb C.2.1 hd)
  exact Go.move hN X' e' hN st' k
theorem g_instNull (C : Cx p s m meth c Z code maxL own ret) {pc pc' : Nat} {Ls : Array Slot} {st : List Value} {index : Nat} (hd : I1 code pc (.instanceof index) 3 pc') (k : Go p l e R s m args below meth c n0 K N Q h ck cn (mkF m pc' Ls (.int 0 :: st))) : Go p l e R s m args below meth c n0 K N Q h ck cn (mkF m pc Ls (.null :: st)) := by
  obtain ⟨hd, rfl⟩ := hd
  exact Go.step (fun T locs X _ t k => X.instanceofNull C.1 (g := mkF m pc Ls (.null :: st)) rfl rfl (hb C.2.1 hd) _ k) k
/-- an array of n places: what each holds -/
def AV (Z : State) (h : Heap) (a : Addr) (ty : FieldType) (n : Nat) (f : Nat → Value) : Prop := ∃ c : Cell, Arr Z h a c ty ∧ c.slots.size = n ∧ n < 2 ^ 31 ∧ ∀ i, i < n → c.slots[i]? = some (f i)
theorem AV.lt {a : Addr} {ty : FieldType} {n : Nat} {f : Nat → Value} (F : AV Z h a ty n f) : a < h.size := by obtain ⟨c, A, -⟩ := F; exact A.lt
theorem AV.ext {h' : Heap} {a : Addr} {ty : FieldType} {n : Nat} {f : Nat → Value} (F : AV Z h a ty n f) (E : Ext h h') : AV Z h' a ty n f := by obtain ⟨c, A, r⟩ := F; exact ⟨c, A.ext E, r⟩
theorem AV.other {h' : Heap} {a b : Addr} {sl : Nat} {v : Value} {ty : FieldType} {n : Nat} {f : Nat → Value} (F : AV Z h b ty n f) (W : Wr h h' a sl v) (q : b ≠ a) : AV Z h' b ty n f := by obtain ⟨c, A, r⟩ := F; exact ⟨c, A.other W q, r⟩
theorem AV.keep {h' : Heap} {ws : List Addr} {a : Addr} {ty : FieldType} {n : Nat} {f : Nat → Value} (F : AV Z h a ty n f) (K : Keep h h' ws) (q : a ∉ ws) : AV Z h' a ty n f := by obtain ⟨c, A, r⟩ := F; exact ⟨c, ⟨K.2.1 a c A.1 q, A.2⟩, r⟩
theorem AV.congr {a : Addr} {ty : FieldType} {n : Nat} {f g : Nat → Value} (F : AV Z h a ty n f) (q : ∀ i, i < n → f i = g i) : AV Z h a ty n g := by obtain ⟨c, A, r1, r2, r3⟩ := F; exact ⟨c, A, r1, r2, fun i hi => by rw [← q i hi]; exact r3 i hi⟩
theorem AV.ofNew {a : Addr} {ty : FieldType} {cA : ClassId} {z : Int32} (A : Arr Z h a (newA cA ty z) ty) (q : ¬ z < 0) : AV Z h a ty z.toNatClampNeg (fun _ => defaultValue ty) :=
  ⟨_, A, sz_new _ _ _, (back32 q).2, fun i hi => by simp [newA, hi]⟩
theorem AV.set {h' : Heap} {a : Addr} {ty : FieldType} {n : Nat} {f : Nat → Value} {j : Nat} {v : Value} (F : AV Z h a ty n f) (W : Wr h h' a j v) : AV Z h' a ty n (fun i => if i = j then v else f i) := by
  obtain ⟨c, A, r1, r2, r3⟩ := F
  obtain ⟨cell, w1, w2, w3, w4⟩ := W
  cases w1.symm.trans A.1
  refine ⟨c.setSlot j v, A.same ⟨c, w1, w2, w3, w4⟩, by rw [sz_set, r1], r2, fun i hi => ?_⟩
  by_cases q : i = j
  · subst q; simp [Cell.setSlot, w3]
  · simp only [q, if_false]; rw [← r3 i hi]; exact Array.getElem?_setIfInBounds_ne (Ne.symm q)
/-- the place lies inside -/
def Inb (j : Int32) (n : Nat) : Prop := ¬ j < 0 ∧ j.toNatClampNeg < n
theorem Inb.not {j : Int32} {n : Nat} (q : Inb j n) : ¬ (j < 0 ∨ n ≤ j.toNatClampNeg) := fun r => r.elim q.1 (fun z => Nat.not_lt.mpr z q.2)
theorem inb_int {j : Int32} {n : Nat} (h1 : 0 ≤ j.toInt) (h2 : j.toInt < n) : Inb j n := ⟨by simp only [Int32.lt_iff_toInt_lt, Int32.reduceToInt]; omega, by simp only [Int32.toNatClampNeg]; omega⟩
theorem g_newP (C : Cx p s m meth c Z code maxL own ret) {pc pc' : Nat} {Ls : Array Slot} {st : List Value} {aty : ArrayType} {n : Int32} (hd : I1 code pc (.newarray aty) 2 pc') (w : (Cond.arrayClass (newarray.typeOf aty)).before a0 Z = true) (hn : ¬ n < 0) (cap : Nat) (hcap : n.toNatClampNeg ≤ cap) (hb8 : cap * 8 ≤ 536870912) (hc : ck + 1 ≤ R.cells) (hl : cn + cap ≤ R.slots) {ck' cn' : Nat} (hck : ck + 1 = ck') (hcn : cn + cap = cn')
    (k : ∀ (h' : Heap) (a : Addr), a = h.size → Ext h h' → AV Z h' a (newarray.typeOf aty) n.toNatClampNeg (fun _ => defaultValue (newarray.typeOf aty)) → Go p l e R s m args below meth c n0 K N Q h' ck' cn' (mkF m pc' Ls (.ref a :: st))) : Go p l e R s m args below meth c n0 K N Q h ck cn (mkF m pc Ls (.int n :: st)) := fun T locs X eT hN => by
  obtain ⟨hd, rfl⟩ := hd
  subst hck hcn
  obtain ⟨T', h', cA, X', e', E, A, st'⟩ := Jvm.RoadKit.newP X C.1 C.2.2.2.1 w eT (g := mkF m pc Ls (.int n :: st)) rfl (hb C.2.1 hd) rfl hn hcap hb8 hc hl
  exact Go.move hN X' e' hN st' (k h' _ rfl E (AV.ofNew A hn))
theorem g_alen (C : Cx p s m meth c Z code maxL own ret) {pc pc' : Nat} {Ls : Array Slot} {st : List Value} {a : Addr} {ty : FieldType} {n : Nat} {f : Nat → Value} (z : Int32) (hd : I1 code pc .arraylength 1 pc') (F : AV Z h a ty n f) (hz : n.toInt32 = z) (k : Go p l e R s m args below meth c n0 K N Q h ck cn (mkF m pc' Ls (.int z :: st))) : Go p l e R s m args below meth c n0 K N Q h ck cn (mkF m pc Ls (.ref a :: st)) := by
  obtain ⟨hd, rfl⟩ := hd
  obtain ⟨cl, A, r1, r2, r3⟩ := F
  subst hz
  exact Go.step (fun T locs X eT t k => X.arraylength C.1 (by rw [eT]; exact A.1) (State.isArrayOf_alike C.2.2.2.1.alike A.2.1) (g := mkF m pc Ls (.ref a :: st)) rfl rfl (hb C.2.1 hd) _ (by rw [r1]; exact k)) k
theorem g_iald (C : Cx p s m meth c Z code maxL own ret) {pc pc' : Nat} {Ls : Array Slot} {st : List Value} {a : Addr} {j : Int32} {n : Nat} {f : Nat → Value} (v : Value) (hd : I1 code pc .iaload 1 pc') (F : AV Z h a .int n f) (hj : Inb j n) (hv : f j.toNatClampNeg = v) (k : Go p l e R s m args below meth c n0 K N Q h ck cn (mkF m pc' Ls (v :: st))) : Go p l e R s m args below meth c n0 K N Q h ck cn (mkF m pc Ls (.int j :: .ref a :: st)) := by
  obtain ⟨hd, rfl⟩ := hd
  obtain ⟨cl, A, r1, r2, r3⟩ := F
  subst hv
  exact Go.step (fun T locs X eT t k => X.iaload C.1 (by rw [eT]; exact A.1) (State.isArrayOf_alike C.2.2.2.1.alike A.2.1) A.2.2 (by rw [r1]; exact hj.not) (r3 _ hj.2) (g := mkF m pc Ls (.int j :: .ref a :: st)) rfl rfl (hb C.2.1 hd) _ k) k
theorem g_lald (C : Cx p s m meth c Z code maxL own ret) {pc pc' : Nat} {Ls : Array Slot} {st : List Value} {a : Addr} {j : Int32} {n : Nat} {f : Nat → Value} (v : Value) (hd : I1 code pc .laload 1 pc') (F : AV Z h a .long n f) (hj : Inb j n) (hv : f j.toNatClampNeg = v) (k : Go p l e R s m args below meth c n0 K N Q h ck cn (mkF m pc' Ls (v :: st))) : Go p l e R s m args below meth c n0 K N Q h ck cn (mkF m pc Ls (.int j :: .ref a :: st)) := by
  obtain ⟨hd, rfl⟩ := hd
  obtain ⟨cl, A, r1, r2, r3⟩ := F
  subst hv
  exact Go.step (fun T locs X eT t k => X.laload C.1 (by rw [eT]; exact A.1) (State.isArrayOf_alike C.2.2.2.1.alike A.2.1) A.2.2 (by rw [r1]; exact hj.not) (r3 _ hj.2) (g := mkF m pc Ls (.int j :: .ref a :: st)) rfl rfl (hb C.2.1 hd) _ k) k
theorem g_cald (C : Cx p s m meth c Z code maxL own ret) {pc pc' : Nat} {Ls : Array Slot} {st : List Value} {a : Addr} {j : Int32} {n : Nat} {f : Nat → Value} (v : Value) (hd : I1 code pc .caload 1 pc') (F : AV Z h a .char n f) (hj : Inb j n) (hv : f j.toNatClampNeg = v) (k : Go p l e R s m args below meth c n0 K N Q h ck cn (mkF m pc' Ls (v :: st))) : Go p l e R s m args below meth c n0 K N Q h ck cn (mkF m pc Ls (.int j :: .ref a :: st)) := by
  obtain ⟨hd, rfl⟩ := hd
  obtain ⟨cl, A, r1, r2, r3⟩ := F
  subst hv
  exact Go.step (fun T locs X eT t k => X.caload C.1 (by rw [eT]; exact A.1) (State.isArrayOf_alike C.2.2.2.1.alike A.2.1) A.2.2 (by rw [r1]; exact hj.not) (r3 _ hj.2) (g := mkF m pc Ls (.int j :: .ref a :: st)) rfl rfl (hb C.2.1 hd) _ k) k
theorem g_sald (C : Cx p s m meth c Z code maxL own ret) {pc pc' : Nat} {Ls : Array Slot} {st : List Value} {a : Addr} {j : Int32} {n : Nat} {f : Nat → Value} (v : Value) (hd : I1 code pc .saload 1 pc') (F : AV Z h a .short n f) (hj : Inb j n) (hv : f j.toNatClampNeg = v) (k : Go p l e R s m args below meth c n0 K N Q h ck cn (mkF m pc' Ls (v :: st))) : Go p l e R s m args below meth c n0 K N Q h ck cn (mkF m pc Ls (.int j :: .ref a :: st)) := by
  obtain ⟨hd, rfl⟩ := hd
  obtain ⟨cl, A, r1, r2, r3⟩ := F
  subst hv
  exact Go.step (fun T locs X eT t k => X.saload C.1 (by rw [eT]; exact A.1) (State.isArrayOf_alike C.2.2.2.1.alike A.2.1) A.2.2 (by rw [r1]; exact hj.not) (r3 _ hj.2) (g := mkF m pc Ls (.int j :: .ref a :: st)) rfl rfl (hb C.2.1 hd) _ k) k
theorem g_bald (C : Cx p s m meth c Z code maxL own ret) {pc pc' : Nat} {Ls : Array Slot} {st : List Value} {a : Addr} {j : Int32} {n : Nat} {f : Nat → Value} (v : Value) (hd : I1 code pc .baload 1 pc') (F : AV Z h a .byte n f) (hj : Inb j n) (hv : f j.toNatClampNeg = v) (k : Go p l e R s m args below meth c n0 K N Q h ck cn (mkF m pc' Ls (v :: st))) : Go p l e R s m args below meth c n0 K N Q h ck cn (mkF m pc Ls (.int j :: .ref a :: st)) := by
  obtain ⟨hd, rfl⟩ := hd
  obtain ⟨cl, A, r1, r2, r3⟩ := F
  subst hv
  exact Go.step (fun T locs X eT t k => X.baloadBytes C.1 (by rw [eT]; exact A.1) (State.isArrayOf_alike C.2.2.2.1.alike A.2.1) A.2.2 (by rw [r1]; exact hj.not) (r3 _ hj.2) (g := mkF m pc Ls (.int j :: .ref a :: st)) rfl rfl (hb C.2.1 hd) _ k) k
theorem g_zald (C : Cx p s m meth c Z code maxL own ret) {pc pc' : Nat} {Ls : Array Slot} {st : List Value} {a : Addr} {j : Int32} {n : Nat} {f : Nat → Value} (v : Value) (hd : I1 code pc .baload 1 pc') (F : AV Z h a .boolean n f) (hj : Inb j n) (hv : f j.toNatClampNeg = v) (k : Go p l e R s m args below meth c n0 K N Q h ck cn (mkF m pc' Ls (v :: st))) : Go p l e R s m args below meth c n0 K N Q h ck cn (mkF m pc Ls (.int j :: .ref a :: st)) := by
  obtain ⟨hd, rfl⟩ := hd
  obtain ⟨cl, A, r1, r2, r3⟩ := F
  subst hv
  exact Go.step (fun T locs X eT t k => X.baloadBooleans C.1 (by rw [eT]; exact A.1) (State.isArrayOf_alike C.2.2.2.1.alike A.2.1) A.2.2 (by rw [r1]; exact hj.not) (r3 _ hj.2) (g := mkF m pc Ls (.int j :: .ref a :: st)) rfl rfl (hb C.2.1 hd) _ k) k
theorem g_aald (C : Cx p s m meth c Z code maxL own ret) {pc pc' : Nat} {Ls : Array Slot} {st : List Value} {a : Addr} {j : Int32} {ty : FieldType} {n : Nat} {f : Nat → Value} (v : Value) (hd : I1 code pc .aaload 1 pc') (F : AV Z h a ty n f) (hj : Inb j n) (hv : f j.toNatClampNeg = v) (ht : ty.isReference = true) (k : Go p l e R s m args below meth c n0 K N Q h ck cn (mkF m pc' Ls (v :: st))) : Go p l e R s m args below meth c n0 K N Q h ck cn (mkF m pc Ls (.int j :: .ref a :: st)) := by
  obtain ⟨hd, rfl⟩ := hd
  obtain ⟨cl, A, r1, r2, r3⟩ := F
  subst hv
  exact Go.step (fun T locs X eT t k => X.aaload C.1 (by rw [eT]; exact A.1) (State.isArrayOf_alike C.2.2.2.1.alike A.2.1) ht A.2.2 (by rw [r1]; exact hj.not) (r3 _ hj.2) (g := mkF m pc Ls (.int j :: .ref a :: st)) rfl rfl (hb C.2.1 hd) _ k) k
theorem g_iast (C : Cx p s m meth c Z code maxL own ret) {pc pc' : Nat} {Ls : Array Slot} {st : List Value} {a : Addr} {j : Int32} {x : Int32} {n : Nat} {f : Nat → Value} (hd : I1 code pc .iastore 1 pc') (F : AV Z h a .int n f) (hj : Inb j n) (ha : n0 ≤ a)
    (k : ∀ h', Wr h h' a j.toNatClampNeg (.int x) → AV Z h' a .int n (fun i => if i = j.toNatClampNeg then .int x else f i) → Go p l e R s m args below meth c n0 K N Q h' ck cn (mkF m pc' Ls st)) : Go p l e R s m args below meth c n0 K N Q h ck cn (mkF m pc Ls (.int x :: .int j :: .ref a :: st)) := fun T locs X eT hN => by
  obtain ⟨hd, rfl⟩ := hd
  have F' := F
  obtain ⟨cl, A, r1, r2, r3⟩ := F
  obtain ⟨T', h', X', e', W, st'⟩ := Jvm.RoadKit.stI X C.1 C.2.2.2.1 eT A (by rw [r1]; exact hj.not) (g := mkF m pc Ls (.int x :: .int j :: .ref a :: st)) rfl rfl (hb C.2.1 hd)
  exact Go.move hN X' e' (Fr.snoc X' hN ha) st' (k h' W (F'.set W))
theorem g_last (C : Cx p s m meth c Z code maxL own ret) {pc pc' : Nat} {Ls : Array Slot} {st : List Value} {a : Addr} {j : Int32} {x : Int64} {n : Nat} {f : Nat → Value} (hd : I1 code pc .lastore 1 pc') (F : AV Z h a .long n f) (hj : Inb j n) (ha : n0 ≤ a)
    (k : ∀ h', Wr h h' a j.toNatClampNeg (.long x) → AV Z h' a .long n (fun i => if i = j.toNatClampNeg then .long x else f i) → Go p l e R s m args below meth c n0 K N Q h' ck cn (mkF m pc' Ls st)) : Go p l e R s m args below meth c n0 K N Q h ck cn (mkF m pc Ls (.long x :: .int j :: .ref a :: st)) := fun T locs X eT hN => by
  obtain ⟨hd, rfl⟩ := hd
  have F' := F
  obtain ⟨cl, A, r1, r2, r3⟩ := F
  obtain ⟨T', h', X', e', W, st'⟩ := Jvm.RoadKit.stJ X C.1 C.2.2.2.1 eT A (by rw [r1]; exact hj.not) (g := mkF m pc Ls (.long x :: .int j :: .ref a :: st)) rfl rfl (hb C.2.1 hd)
  exact Go.move hN X' e' (Fr.snoc X' hN ha) st' (k h' W (F'.set W))
theorem g_cast (C : Cx p s m meth c Z code maxL own ret) {pc pc' : Nat} {Ls : Array Slot} {st : List Value} {a : Addr} {j : Int32} {x : Int32} {n : Nat} {f : Nat → Value} (hd : I1 code pc .castore 1 pc') (F : AV Z h a .char n f) (hj : Inb j n) (ha : n0 ≤ a)
    (k : ∀ h', Wr h h' a j.toNatClampNeg (.int (nar .char x)) → AV Z h' a .char n (fun i => if i = j.toNatClampNeg then .int (nar .char x) else f i) → Go p l e R s m args below meth c n0 K N Q h' ck cn (mkF m pc' Ls st)) : Go p l e R s m args below meth c n0 K N Q h ck cn (mkF m pc Ls (.int x :: .int j :: .ref a :: st)) := fun T locs X eT hN => by
  obtain ⟨hd, rfl⟩ := hd
  have F' := F
  obtain ⟨cl, A, r1, r2, r3⟩ := F
  obtain ⟨T', h', X', e', W, st'⟩ := Jvm.RoadKit.stC X C.1 C.2.2.2.1 eT A (by rw [r1]; exact hj.not) (g := mkF m pc Ls (.int x :: .int j :: .ref a :: st)) rfl rfl (hb C.2.1 hd)
  exact Go.move hN X' e' (Fr.snoc X' hN ha) st' (k h' W (F'.set W))
theorem g_sast (C : Cx p s m meth c Z code maxL own ret) {pc pc' : Nat} {Ls : Array Slot} {st : List Value} {a : Addr} {j : Int32} {x : Int32} {n : Nat} {f : Nat → Value} (hd : I1 code pc .sastore 1 pc') (F : AV Z h a .short n f) (hj : Inb j n) (ha : n0 ≤ a)
    (k : ∀ h', Wr h h' a j.toNatClampNeg (.int (nar .short x)) → AV Z h' a .short n (fun i => if i = j.toNatClampNeg then .int (nar .short x) else f i) → Go p l e R s m args below meth c n0 K N Q h' ck cn (mkF m pc' Ls st)) : Go p l e R s m args below meth c n0 K N Q h ck cn (mkF m pc Ls (.int x :: .int j :: .ref a :: st)) := fun T locs X eT hN => by
  obtain ⟨hd, rfl⟩ := hd
  have F' := F
  obtain ⟨cl, A, r1, r2, r3⟩ := F
  obtain ⟨T', h', X', e', W, st'⟩ := Jvm.RoadKit.stS X C.1 C.2.2.2.1 eT A (by rw [r1]; exact hj.not) (g := mkF m pc Ls (.int x :: .int j :: .ref a :: st)) rfl rfl (hb C.2.1 hd)
  exact Go.move hN X' e' (Fr.snoc X' hN ha) st' (k h' W (F'.set W))
theorem g_bast (C : Cx p s m meth c Z code maxL own ret) {pc pc' : Nat} {Ls : Array Slot} {st : List Value} {a : Addr} {j : Int32} {x : Int32} {n : Nat} {f : Nat → Value} (hd : I1 code pc .bastore 1 pc') (F : AV Z h a .byte n f) (hj : Inb j n) (ha : n0 ≤ a)
    (k : ∀ h', Wr h h' a j.toNatClampNeg (.int (nar .byte x)) → AV Z h' a .byte n (fun i => if i = j.toNatClampNeg then .int (nar .byte x) else f i) → Go p l e R s m args below meth c n0 K N Q h' ck cn (mkF m pc' Ls st)) : Go p l e R s m args below meth c n0 K N Q h ck cn (mkF m pc Ls (.int x :: .int j :: .ref a :: st)) := fun T locs X eT hN => by
  obtain ⟨hd, rfl⟩ := hd
  have F' := F
  obtain ⟨cl, A, r1, r2, r3⟩ := F
  obtain ⟨T', h', X', e', W, st'⟩ := Jvm.RoadKit.stB X C.1 C.2.2.2.1 eT A (by rw [r1]; exact hj.not) (g := mkF m pc Ls (.int x :: .int j :: .ref a :: st)) rfl rfl (hb C.2.1 hd)
  exact Go.move hN X' e' (Fr.snoc X' hN ha) st' (k h' W (F'.set W))
theorem g_zast (C : Cx p s m meth c Z code maxL own ret) {pc pc' : Nat} {Ls : Array Slot} {st : List Value} {a : Addr} {j : Int32} {x : Int32} {n : Nat} {f : Nat → Value} (hd : I1 code pc .bastore 1 pc') (F : AV Z h a .boolean n f) (hj : Inb j n) (ha : n0 ≤ a)
    (k : ∀ h', Wr h h' a j.toNatClampNeg (.int (nar .boolean x)) → AV Z h' a .boolean n (fun i => if i = j.toNatClampNeg then .int (nar .boolean x) else f i) → Go p l e R s m args below meth c n0 K N Q h' ck cn (mkF m pc' Ls st)) : Go p l e R s m args below meth c n0 K N Q h ck cn (mkF m pc Ls (.int x :: .int j :: .ref a :: st)) := fun T locs X eT hN => by
  obtain ⟨hd, rfl⟩ := hd
  have F' := F
  obtain ⟨cl, A, r1, r2, r3⟩ := F
  obtain ⟨T', h', X', e', W, st'⟩ := Jvm.RoadKit.stZ X C.1 C.2.2.2.1 eT A (by rw [r1]; exact hj.not) (g := mkF m pc Ls (.int x :: .int j :: .ref a :: st)) rfl rfl (hb C.2.1 hd)
  exact Go.move hN X' e' (Fr.snoc X' hN ha) st' (k h' W (F'.set W))
theorem g_callS (C : Cx p s m meth c Z code maxL own ret) {pc pc' : Nat} {Ls : Array Slot} {y : MethodName} {ycode : ByteArray} {ymax : Nat} {yret : Option FieldType} {rm : Room} {as' : Array Value} {Q' : Option Value → Heap → Prop} {index : Nat} (hC : Ctr l Z y ycode ymax yret rm as' h n0 Q') (hd : I1 code pc (.invokestatic index) 3 pc') (w1 : (Cond.methodLink own index y).before a0 Z = true) (w2 : (Cond.static y).before a0 Z = true) (w3 : (Cond.initialized y.cls).before a0 Z = true) (w4 : (Cond.code y ycode ymax yret).before a0 Z = true) (hy : y.cls ≠ "java/lang/invoke/MethodHandle" ∧ y.cls ≠ "java/lang/invoke/VarHandle")
    {argsL st rest : List Value} (hst : st = argsL.reverse ++ rest) (has : argsL.toArray = as') {ps : List FieldType} {r : Option FieldType} (hpd : parseMethodDescriptor y.desc = some ⟨ps, r⟩) (hlen : argsL.length = ps.length) (hsz : Ls.size = maxL) (W : Nat) (hW : 2 * 0 + (rest.map fun v => v.category).sum ≤ W)
    (hf : rm.frames + 1 ≤ R.frames) (hl : W + (ymax + 11) + rm.locals ≤ R.locals) (hc : ck + rm.cells ≤ R.cells) (hs : cn + rm.slots ≤ R.slots) {ck' cn' : Nat} (hck : ck + rm.cells = ck') (hcn : cn + rm.slots = cn')
    (k : ∀ v h', Q' v h' → Go p l e R s m args below meth c n0 K N Q h' ck' cn' (mkF m pc' Ls (v.toList ++ rest))) : Go p l e R s m args below meth c n0 K N Q h ck cn (mkF m pc Ls st) := fun T locs X eT hN => by
  obtain ⟨hd, rfl⟩ := hd
  subst hck hcn hst
  obtain ⟨v, _, ⟨T', L', k', n'⟩, -, X', ⟨Lc, hQ, l1, l2, l3⟩, st'⟩ := Jvm.LawKit.callS X C.1 C.2.2.2.2.1 (mvT C.2.2.2.1 w1) (mvT C.2.2.2.1 w2) (mvT C.2.2.2.1 w3) (mvT C.2.2.2.1 w4) hy (backOf (W := W) (Q := fun v h L => Q' v h ∧ Fr n0 L) (hC []) C.2.2.2.1 w4 w3 hf hl) (g := mkF m pc Ls (argsL.reverse ++ rest)) rfl (hsz.trans C.2.2.1.symm) (argsL := argsL) (rest := rest) (lenOf hpd hlen) rfl hW (hb C.2.1 hd) (fun _ _ => ⟨has, eT, hc, hs⟩)
  dsimp only [Pt.U, Pt.locs, Pt.cells, Pt.slots] at X' l1 l2 l3 st' hQ
  subst l1 l2 l3
  exact Go.move hN X' rfl (Fr.app hN hQ.2) st' (k v _ hQ.1)
theorem g_callI (C : Cx p s m meth c Z code maxL own ret) {pc pc' : Nat} {Ls : Array Slot} {y : MethodName} {ycode : ByteArray} {ymax : Nat} {yret : Option FieldType} {rm : Room} {as' : Array Value} {Q' : Option Value → Heap → Prop} {index : Nat} (hC : Ctr l Z y ycode ymax yret rm as' h n0 Q') {a : Addr} (hd : I1 code pc (.invokespecial index) 3 pc') (hy1 : y.name = "<init>") (w1 : (Cond.methodLink own index y).before a0 Z = true) (w2 : (Cond.instanceMethod y).before a0 Z = true) (w3 : (Cond.initialized y.cls).before a0 Z = true) (w4 : (Cond.code y ycode ymax none).before a0 Z = true) (hyr : yret = none) (hy : y.cls ≠ "java/lang/invoke/MethodHandle" ∧ y.cls ≠ "java/lang/invoke/VarHandle")
    {argsL st rest : List Value} (hst : st = argsL.reverse ++ .ref a :: rest) (has : (.ref a :: argsL).toArray = as') {ps : List FieldType} {r : Option FieldType} (hpd : parseMethodDescriptor y.desc = some ⟨ps, r⟩) (hlen : argsL.length = ps.length) (hsz : Ls.size = maxL) (W : Nat) (hW : 2 * 0 + (rest.map fun v => v.category).sum ≤ W)
    (hf : rm.frames + 1 ≤ R.frames) (hl : W + (ymax + 11) + rm.locals ≤ R.locals) (hc : ck + rm.cells ≤ R.cells) (hs : cn + rm.slots ≤ R.slots) {ck' cn' : Nat} (hck : ck + rm.cells = ck') (hcn : cn + rm.slots = cn')
    (k : ∀ v h', Q' v h' → Go p l e R s m args below meth c n0 K N Q h' ck' cn' (mkF m pc' Ls (v.toList ++ rest))) : Go p l e R s m args below meth c n0 K N Q h ck cn (mkF m pc Ls st) := fun T locs X eT hN => by
  obtain ⟨hd, rfl⟩ := hd
  subst hck hcn hst
  subst hyr
  obtain ⟨v, _, ⟨T', L', k', n'⟩, -, X', ⟨Lc, hQ, l1, l2, l3⟩, st'⟩ := X.specialBack C.1 hy1 C.2.2.2.2.1 (mvT C.2.2.2.1 w1) (mvT C.2.2.2.1 w2) (mvT C.2.2.2.1 w4) hy (backOf (W := W) (Q := fun v h L => Q' v h ∧ Fr n0 L) (hC []) C.2.2.2.1 w4 w3 hf hl) (g := mkF m pc Ls (argsL.reverse ++ .ref a :: rest)) rfl (hsz.trans C.2.2.1.symm) (Steps.refl _) (a := a) (argsL := argsL) (rest := rest) (lenOf hpd hlen) rfl hW (hb C.2.1 hd) (fun _ _ => ⟨has, eT, hc, hs⟩)
  dsimp only [Pt.U, Pt.locs, Pt.cells, Pt.slots] at X' l1 l2 l3 st' hQ
  subst l1 l2 l3
  exact Go.move hN X' rfl (Fr.app hN hQ.2) (fun _ z => st'.trans z) (k v _ hQ.1)
theorem g_callV (C : Cx p s m meth c Z code maxL own ret) {pc pc' : Nat} {Ls : Array Slot} {y : MethodName} {ycode : ByteArray} {ymax : Nat} {yret : Option FieldType} {rm : Room} {as' : Array Value} {Q' : Option Value → Heap → Prop} {index : Nat} (hC : Ctr l Z y ycode ymax yret rm as' h n0 Q') {a : Addr} {x : MethodName} {Cl : String} (hd : I1 code pc (.invokevirtual index) 3 pc') (w1 : (Cond.methodLink own index x).before a0 Z = true) (w2 : (Cond.declares x).before a0 Z = true) (hnf : ∀ s : State, Z.Warmed39 s.vm → NotFace s x) (w5 : (Cond.selects Cl x y).before a0 Z = true) (w6 : (Cond.instanceMethod y).before a0 Z = true) (w3 : (Cond.initialized y.cls).before a0 Z = true) (w4 : (Cond.code y ycode ymax yret).before a0 Z = true) (hy : x.cls ≠ "java/lang/invoke/MethodHandle" ∧ x.cls ≠ "java/lang/invoke/VarHandle") (E : Exa Z h a Cl)
    {argsL st rest : List Value} (hst : st = argsL.reverse ++ .ref a :: rest) (has : (.ref a :: argsL).toArray = as') {ps : List FieldType} {r : Option FieldType} (hpd : parseMethodDescriptor x.desc = some ⟨ps, r⟩) (hlen : argsL.length = ps.length) (hsz : Ls.size = maxL) (W : Nat) (hW : 2 * 0 + (rest.map fun v => v.category).sum ≤ W)
    (hf : rm.frames + 1 ≤ R.frames) (hl : W + (ymax + 11) + rm.locals ≤ R.locals) (hc : ck + rm.cells ≤ R.cells) (hs : cn + rm.slots ≤ R.slots) {ck' cn' : Nat} (hck : ck + rm.cells = ck') (hcn : cn + rm.slots = cn')
    (k : ∀ v h', Q' v h' → Go p l e R s m args below meth c n0 K N Q h' ck' cn' (mkF m pc' Ls (v.toList ++ rest))) : Go p l e R s m args below meth c n0 K N Q h ck cn (mkF m pc Ls st) := fun T locs X eT hN => by
  obtain ⟨hd, rfl⟩ := hd
  subst hck hcn hst
  obtain ⟨cq, kq, q1, q2, q3⟩ := isOf C.2.2.2.1 eT E
  obtain ⟨v, _, ⟨T', L', k', n'⟩, -, X', ⟨Lc, hQ, l1, l2, l3⟩, st'⟩ := X.virtualBack C.1 (y := x) (z := y) C.2.2.2.2.1 (mvT C.2.2.2.1 w1) (mvT C.2.2.2.1 w2) (hnf s C.2.2.2.1) (mvT C.2.2.2.1 w5) (mvT C.2.2.2.1 w6) hy (backOf (W := W) (Q := fun v h L => Q' v h ∧ Fr n0 L) (hC []) C.2.2.2.1 w4 w3 hf hl) q1 q3 (g := mkF m pc Ls (argsL.reverse ++ .ref a :: rest)) rfl (hsz.trans C.2.2.1.symm) (Steps.refl _) (argsL := argsL) (rest := rest) (lenOf hpd hlen) rfl hW (hb C.2.1 hd) (fun _ _ => ⟨has, eT, hc, hs⟩)
  dsimp only [Pt.U, Pt.locs, Pt.cells, Pt.slots] at X' l1 l2 l3 st' hQ
  subst l1 l2 l3
  exact Go.move hN X' rfl (Fr.app hN hQ.2) (fun _ z => st'.trans z) (k v _ hQ.1)
theorem g_callP (C : Cx p s m meth c Z code maxL own ret) {pc pc' : Nat} {Ls : Array Slot} {y : MethodName} {ycode : ByteArray} {ymax : Nat} {yret : Option FieldType} {rm : Room} {as' : Array Value} {Q' : Option Value → Heap → Prop} {index : Nat} (hC : Ctr l Z y ycode ymax yret rm as' h n0 Q') {a : Addr} {Cl : String} (hd : I1 code pc (.invokevirtual index) 3 pc') (w1 : (Cond.methodLink own index y).before a0 Z = true) (w2 : (Cond.instanceMethod y).before a0 Z = true) (w5 : (Cond.selects y.cls y y).before a0 Z = true) (w6 : (Cond.privateMethod y).before a0 Z = true) (w3 : (Cond.initialized y.cls).before a0 Z = true) (w4 : (Cond.code y ycode ymax yret).before a0 Z = true) (hy : y.cls ≠ "java/lang/invoke/MethodHandle" ∧ y.cls ≠ "java/lang/invoke/VarHandle") (E : Exa Z h a Cl)
    {argsL st rest : List Value} (hst : st = argsL.reverse ++ .ref a :: rest) (has : (.ref a :: argsL).toArray = as') {ps : List FieldType} {r : Option FieldType} (hpd : parseMethodDescriptor y.desc = some ⟨ps, r⟩) (hlen : argsL.length = ps.length) (hsz : Ls.size = maxL) (W : Nat) (hW : 2 * 0 + (rest.map fun v => v.category).sum ≤ W)
    (hf : rm.frames + 1 ≤ R.frames) (hl : W + (ymax + 11) + rm.locals ≤ R.locals) (hc : ck + rm.cells ≤ R.cells) (hs : cn + rm.slots ≤ R.slots) {ck' cn' : Nat} (hck : ck + rm.cells = ck') (hcn : cn + rm.slots = cn')
    (k : ∀ v h', Q' v h' → Go p l e R s m args below meth c n0 K N Q h' ck' cn' (mkF m pc' Ls (v.toList ++ rest))) : Go p l e R s m args below meth c n0 K N Q h ck cn (mkF m pc Ls st) := fun T locs X eT hN => by
  obtain ⟨hd, rfl⟩ := hd
  subst hck hcn hst
  obtain ⟨cq, q1, q2⟩ := E.cell
  obtain ⟨v, _, ⟨T', L', k', n'⟩, -, X', ⟨Lc, hQ, l1, l2, l3⟩, st'⟩ := X.privateBack C.1 (y := y) C.2.2.2.2.1 (mvT C.2.2.2.1 w1) (mvT C.2.2.2.1 w2) (mvT C.2.2.2.1 w5) (Cond.privateMethod_at (mvP C.2.2.2.1 w6 (args := #[]))) (mvT C.2.2.2.1 w4) hy (backOf (W := W) (Q := fun v h L => Q' v h ∧ Fr n0 L) (hC []) C.2.2.2.1 w4 w3 hf hl) (g := mkF m pc Ls (argsL.reverse ++ .ref a :: rest)) rfl (hsz.trans C.2.2.1.symm) (Steps.refl _) (a := a) (by rw [eT]; exact q1) q2 (argsL := argsL) (rest := rest) (lenOf hpd hlen) rfl hW (hb C.2.1 hd) (fun _ _ => ⟨has, eT, hc, hs⟩)
  dsimp only [Pt.U, Pt.locs, Pt.cells, Pt.slots] at X' l1 l2 l3 st' hQ
  subst l1 l2 l3
  exact Go.move hN X' rfl (Fr.app hN hQ.2) (fun _ z => st'.trans z) (k v _ hQ.1)
end
end Jvm.OwnGo
namespace Jvm.OwnGo
open Jvm.RoadKit
theorem nar_b (x : Int32) : nar .boolean x = x &&& 1 := rfl
theorem nbT {P : Prop} [Decidable P] : nar .boolean (if P then (1 : Int32) else (0 : Int32)) = 1 ↔ P := by
  by_cases h : P
  · simp only [if_pos h]; exact ⟨fun _ => h, fun _ => rfl⟩
  · simp only [if_neg h]; exact ⟨fun q => absurd q (by decide), fun q => absurd q h⟩
theorem own_nat {i : Nat} (h : i < 2147483648) : i.toInt32.toInt = i := len_toInt h
theorem own_cl {i : Nat} (h : i < 2147483648) : i.toInt32.toNatClampNeg = i := by simp only [Int32.toNatClampNeg, own_nat h]; omega
theorem own_lt {i n : Nat} (hi : i < 2147483648) (hn : n < 2147483648) : i.toInt32 < n.toInt32 ↔ i < n := by
  rw [Int32.lt_iff_toInt_lt, own_nat hi, own_nat hn]; omega
theorem own_inN {i n : Nat} (hi : i < 2147483648) (h : i < n) : Inb i.toInt32 n := inb_int (by rw [own_nat hi]; omega) (by rw [own_nat hi]; omega)
theorem own_rd {α : Type} (F : Nat → α) {i : Nat} (h : i < 2147483648) : F i.toInt32.toNatClampNeg = F i := by rw [own_cl h]
theorem own_succ {i : Nat} (h : i < 2147483647) : i.toInt32 + (1 : Int32) = (i + 1).toInt32 := by
  rw [← Int32.toInt_inj]
  have h1 := c_iadd i.toInt32 1
  have h2 := rng32 (i.toInt32 + 1)
  have h3 : (1 : Int32).toInt = 1 := rfl
  rw [own_nat (by omega), h3] at h1
  rw [own_nat (by omega)]
  omega
theorem AV.small {Z : State} {h : Heap} {a : Addr} {ty : ClassFile.FieldType} {n : Nat} {f : Nat → Value} (V : AV Z h a ty n f) : n < 2147483648 := by
  obtain ⟨c, -, -, r, -⟩ := V; exact r
theorem own_inb {Z : State} {h : Heap} {a : Addr} {ty : ClassFile.FieldType} {n : Nat} {f : Nat → Value} (V : AV Z h a ty n f) {j : Int32} (h0 : ¬ (j < (0 : Int32))) (h1 : j < n.toInt32) : Inb j n := by
  have hn := V.small
  have e0 : (0 : Int32).toInt = 0 := rfl
  rw [Int32.lt_iff_toInt_lt] at h0 h1
  rw [own_nat hn] at h1
  exact inb_int (by omega) (by omega)
end Jvm.OwnGo
namespace Jvm.Pilot.@@N@@
open Jvm Jvm.ClassFile Sem Op Lib Jvm.Free Jvm.Stand Jvm.LawKit Jvm.RoadKit Bundle Jvm.Pilot.@@N@@.Jvm.D
open Jvm.OwnGo
theorem pn0 : plainFor (⟨"com/example/firm_input/firminput/TextPosition", "<init>", "(I)V"⟩ : MethodName) = true := by decide +kernel
theorem iI_0 : I1 prog_16_method_1_code 0 (.aload_n 0) 1 1 := ⟨(by decide +kernel), rfl⟩
theorem iI_1 : I1 prog_16_method_1_code 1 (.invokespecial 1) 3 4 := ⟨(by decide +kernel), rfl⟩
theorem iI_4 : I1 prog_16_method_1_code 4 (.aload_n 0) 1 5 := ⟨(by decide +kernel), rfl⟩
theorem iI_5 : I1 prog_16_method_1_code 5 (.iconst 1) 1 6 := ⟨(by decide +kernel), rfl⟩
theorem iI_6 : I1 prog_16_method_1_code 6 (.putfield 7) 3 9 := ⟨(by decide +kernel), rfl⟩
theorem iI_9 : I1 prog_16_method_1_code 9 (.aload_n 0) 1 10 := ⟨(by decide +kernel), rfl⟩
theorem iI_10 : I1 prog_16_method_1_code 10 (.lconst 1) 1 11 := ⟨(by decide +kernel), rfl⟩
theorem iI_11 : I1 prog_16_method_1_code 11 (.putfield 13) 3 14 := ⟨(by decide +kernel), rfl⟩
theorem iI_14 : I1 prog_16_method_1_code 14 (.aload_n 0) 1 15 := ⟨(by decide +kernel), rfl⟩
theorem iI_15 : I1 prog_16_method_1_code 15 (.iload_n 1) 1 16 := ⟨(by decide +kernel), rfl⟩
theorem iI_16 : I1 prog_16_method_1_code 16 (.putfield 17) 3 19 := ⟨(by decide +kernel), rfl⟩
theorem iI_19 : I1 prog_16_method_1_code 19 (.return_) 1 20 := ⟨(by decide +kernel), rfl⟩
theorem efI (m : MethodId) (a0 : Addr) (p1 : Int32) : entryFrame m #[(.ref a0), (.int p1)] 2 = mkF m 0 #[.val (.ref a0), .val (.int p1)] [] := by first | (simp [entryFrame, mkF, argsToLocals, Value.category]; done) | rfl
def QI (Z : State) (a0 : Addr) (p1 : Int32) (w_line_a0 : Int32) (w_column_a0 : Int64) (w_byteOrderMark_a0 : Int32) (w_afterReturn_a0 : Int32) (w_offset_a0 : Int64) (h0 : Heap) (n0 : Nat) (v : Option Value) (h : Heap) : Prop := v = none ∧ Keep h0 h [a0] ∧ Exa Z h a0 "com/example/firm_input/firminput/TextPosition" ∧ Fld Z h a0 "com/example/firm_input/firminput/TextPosition" "line" "I" (.int (1 : Int32)) ∧ Fld Z h a0 "com/example/firm_input/firminput/TextPosition" "column" "J" (.long (1 : Int64)) ∧ Fld Z h a0 "com/example/firm_input/firminput/TextPosition" "byteOrderMark" "I" (.int p1) ∧ Fld Z h a0 "com/example/firm_input/firminput/TextPosition" "afterReturn" "Z" (.int w_afterReturn_a0) ∧ Fld Z h a0 "com/example/firm_input/firminput/TextPosition" "offset" "J" (.long w_offset_a0)
set_option maxRecDepth 65536 in
set_option maxHeartbeats 40000000 in
theorem rmI (l : Launch) (Z : State) (aZ : Array Value) (hw : ∀ d ∈ tables_1, d.before aZ Z = true) (a0 : Addr) (p1 : Int32) (w_line_a0 : Int32) (w_column_a0 : Int64) (w_byteOrderMark_a0 : Int32) (w_afterReturn_a0 : Int32) (w_offset_a0 : Int64) (h0 : Heap) (n0 : Nat) (Z0 : n0 ≤ h0.size) (E_a0 : Exa Z h0 a0 "com/example/firm_input/firminput/TextPosition") (F_line_a0 : Fld Z h0 a0 "com/example/firm_input/firminput/TextPosition" "line" "I" (.int w_line_a0)) (g_a0 : n0 ≤ a0) (F_column_a0 : Fld Z h0 a0 "com/example/firm_input/firminput/TextPosition" "column" "J" (.long w_column_a0)) (F_byteOrderMark_a0 : Fld Z h0 a0 "com/example/firm_input/firminput/TextPosition" "byteOrderMark" "I" (.int w_byteOrderMark_a0)) (F_afterReturn_a0 : Fld Z h0 a0 "com/example/firm_input/firminput/TextPosition" "afterReturn" "Z" (.int w_afterReturn_a0)) (F_offset_a0 : Fld Z h0 a0 "com/example/firm_input/firminput/TextPosition" "offset" "J" (.long w_offset_a0)) :
    Ctr l Z (⟨"com/example/firm_input/firminput/TextPosition", "<init>", "(I)V"⟩ : MethodName) prog_16_method_1_code 2 none ({ frames := 1, cells := 0, slots := 0, locals := 12 } : Room) #[(.ref a0), (.int p1)] h0 n0 (QI Z a0 p1 w_line_a0 w_column_a0 w_byteOrderMark_a0 w_afterReturn_a0 w_offset_a0 h0 n0) := by
  refine Ctr.of_go pn0 (fun m => efI m a0 p1) ?_
  intro p e s m below meth c hnm C
  refine g_aloadN C iI_0 rfl rfl ?_
  refine g_initO C iI_1 (hw _ (List.mem_of_getElem? (i := 6) rfl)) (hw _ (List.mem_of_getElem? (i := 7) rfl)) (hw _ (List.mem_of_getElem? (i := 8) rfl)) rfl (by decide) 0 (Nat.le_of_eq rfl) (by decide) ?_
  refine g_aloadN C iI_4 rfl rfl ?_
  refine g_iconst C (1 : Int32) iI_5 rfl ?_
  refine g_putF C iI_6 (host := "") (Or.inl (hw _ (List.mem_of_getElem? (i := 9) rfl))) Via.refl F_line_a0 E_a0 (Or.inl (hw _ (List.mem_of_getElem? (i := 10) rfl))) (hw _ (List.mem_of_getElem? (i := 1) rfl)) (ty := .int) (by decide) rfl rfl g_a0 (fun h2 W2 => ?_)
  have E_a0_c2 := Exa.wr W2 E_a0
  have F_c2 := Fld.other W2 F_column_a0 (Or.inr (slot_ne (a0 := aZ) (Or.inl (hw _ (List.mem_of_getElem? (i := 12) rfl))) (Or.inl (hw _ (List.mem_of_getElem? (i := 10) rfl))) (by decide) (t := .long) (t' := .int) (by decide) (by decide)))
  have F_byteOrderMark_a0_c2 := Fld.other W2 F_byteOrderMark_a0 (Or.inr (slot_ne (a0 := aZ) (Or.inr (hw _ (List.mem_of_getElem? (i := 14) rfl))) (Or.inl (hw _ (List.mem_of_getElem? (i := 10) rfl))) (by decide) (t := .int) (t' := .int) (by decide) (by decide)))
  have F_afterReturn_a0_c2 := Fld.other W2 F_afterReturn_a0 (Or.inr (slot_ne (a0 := aZ) (Or.inl (hw _ (List.mem_of_getElem? (i := 21) rfl))) (Or.inl (hw _ (List.mem_of_getElem? (i := 10) rfl))) (by decide) (t := .boolean) (t' := .int) (by decide) (by decide)))
  have F_offset_a0_c2 := Fld.other W2 F_offset_a0 (Or.inr (slot_ne (a0 := aZ) (Or.inl (hw _ (List.mem_of_getElem? (i := 23) rfl))) (Or.inl (hw _ (List.mem_of_getElem? (i := 10) rfl))) (by decide) (t := .long) (t' := .int) (by decide) (by decide)))
  have Fw2 := Fld.same W2 F_line_a0
  have K2 := Keep.wr (Keep.refl h0 [a0]) W2 (Or.inl (List.mem_of_getElem? (i := 0) rfl))
  have Z2 : n0 ≤ h2.size := Nat.le_trans Z0 (Keep.of_wr W2).1
  refine g_aloadN C iI_9 rfl rfl ?_
  refine g_lconst C (1 : Int64) iI_10 rfl ?_
  refine g_putF C iI_11 (host := "") (Or.inl (hw _ (List.mem_of_getElem? (i := 11) rfl))) Via.refl F_c2 E_a0_c2 (Or.inl (hw _ (List.mem_of_getElem? (i := 12) rfl))) (hw _ (List.mem_of_getElem? (i := 1) rfl)) (ty := .long) (by decide) rfl rfl g_a0 (fun h3 W3 => ?_)
  have E_a0_c3 := Exa.wr W3 E_a0_c2
  have F_byteOrderMark_a0_c3 := Fld.other W3 F_byteOrderMark_a0_c2 (Or.inr (slot_ne (a0 := aZ) (Or.inr (hw _ (List.mem_of_getElem? (i := 14) rfl))) (Or.inl (hw _ (List.mem_of_getElem? (i := 12) rfl))) (by decide) (t := .int) (t' := .long) (by decide) (by decide)))
  have F_afterReturn_a0_c3 := Fld.other W3 F_afterReturn_a0_c2 (Or.inr (slot_ne (a0 := aZ) (Or.inl (hw _ (List.mem_of_getElem? (i := 21) rfl))) (Or.inl (hw _ (List.mem_of_getElem? (i := 12) rfl))) (by decide) (t := .boolean) (t' := .long) (by decide) (by decide)))
  have F_offset_a0_c3 := Fld.other W3 F_offset_a0_c2 (Or.inr (slot_ne (a0 := aZ) (Or.inl (hw _ (List.mem_of_getElem? (i := 23) rfl))) (Or.inl (hw _ (List.mem_of_getElem? (i := 12) rfl))) (by decide) (t := .long) (t' := .long) (by decide) (by decide)))
  have Fw2_c3 := Fld.other W3 Fw2 (Or.inr (slot_ne (a0 := aZ) (Or.inl (hw _ (List.mem_of_getElem? (i := 10) rfl))) (Or.inl (hw _ (List.mem_of_getElem? (i := 12) rfl))) (by decide) (t := .int) (t' := .long) (by decide) (by decide)))
  have Fw3 := Fld.same W3 F_c2
  have K3 := Keep.wr K2 W3 (Or.inl (List.mem_of_getElem? (i := 0) rfl))
  have Z3 : n0 ≤ h3.size := Nat.le_trans Z2 (Keep.of_wr W3).1
  refine g_aloadN C iI_14 rfl rfl ?_
  refine g_iloadN C iI_15 rfl ?_
  refine g_putF C iI_16 (host := "") (Or.inl (hw _ (List.mem_of_getElem? (i := 13) rfl))) Via.refl F_byteOrderMark_a0_c3 E_a0_c3 (Or.inr ⟨(hw _ (List.mem_of_getElem? (i := 14) rfl)), rfl, hnm⟩) (hw _ (List.mem_of_getElem? (i := 1) rfl)) (ty := .int) (by decide) rfl rfl g_a0 (fun h4 W4 => ?_)
  have E_a0_c4 := Exa.wr W4 E_a0_c3
  have F_afterReturn_a0_c4 := Fld.other W4 F_afterReturn_a0_c3 (Or.inr (slot_ne (a0 := aZ) (Or.inl (hw _ (List.mem_of_getElem? (i := 21) rfl))) (Or.inr (hw _ (List.mem_of_getElem? (i := 14) rfl))) (by decide) (t := .boolean) (t' := .int) (by decide) (by decide)))
  have F_offset_a0_c4 := Fld.other W4 F_offset_a0_c3 (Or.inr (slot_ne (a0 := aZ) (Or.inl (hw _ (List.mem_of_getElem? (i := 23) rfl))) (Or.inr (hw _ (List.mem_of_getElem? (i := 14) rfl))) (by decide) (t := .long) (t' := .int) (by decide) (by decide)))
  have Fw2_c4 := Fld.other W4 Fw2_c3 (Or.inr (slot_ne (a0 := aZ) (Or.inl (hw _ (List.mem_of_getElem? (i := 10) rfl))) (Or.inr (hw _ (List.mem_of_getElem? (i := 14) rfl))) (by decide) (t := .int) (t' := .int) (by decide) (by decide)))
  have Fw3_c4 := Fld.other W4 Fw3 (Or.inr (slot_ne (a0 := aZ) (Or.inl (hw _ (List.mem_of_getElem? (i := 12) rfl))) (Or.inr (hw _ (List.mem_of_getElem? (i := 14) rfl))) (by decide) (t := .long) (t' := .int) (by decide) (by decide)))
  have Fw4 := Fld.same W4 F_byteOrderMark_a0_c3
  have K4 := Keep.wr K3 W4 (Or.inl (List.mem_of_getElem? (i := 0) rfl))
  have Z4 : n0 ≤ h4.size := Nat.le_trans Z3 (Keep.of_wr W4).1
  exact g_retV C iI_19 rfl (by decide) (by decide) ⟨rfl, K4, E_a0_c4, Fw2_c4, Fw3_c4, Fw4, F_afterReturn_a0_c4, F_offset_a0_c4⟩
theorem pn1 : plainFor (⟨"com/example/firm_input/firminput/TextPosition", "advance", "(B)V"⟩ : MethodName) = true := by decide +kernel
theorem iA_0 : I1 prog_16_method_4_code 0 (.aload_n 0) 1 1 := ⟨(by decide +kernel), rfl⟩
theorem iA_1 : I1 prog_16_method_4_code 1 (.getfield 26) 3 4 := ⟨(by decide +kernel), rfl⟩
theorem iA_4 : B1 prog_16_method_4_code 4 (.ifCond .eq 24) 24 28 7 := ⟨(by decide +kernel), rfl, by decide, by decide⟩
theorem iA_7 : I1 prog_16_method_4_code 7 (.iload_n 1) 1 8 := ⟨(by decide +kernel), rfl⟩
theorem iA_8 : I1 prog_16_method_4_code 8 (.bipush 10) 2 10 := ⟨(by decide +kernel), rfl⟩
theorem iA_10 : B1 prog_16_method_4_code 10 (.if_icmp .eq 18) 18 28 13 := ⟨(by decide +kernel), rfl, by decide, by decide⟩
theorem iA_13 : I1 prog_16_method_4_code 13 (.aload_n 0) 1 14 := ⟨(by decide +kernel), rfl⟩
theorem iA_14 : I1 prog_16_method_4_code 14 (.dup) 1 15 := ⟨(by decide +kernel), rfl⟩
theorem iA_15 : I1 prog_16_method_4_code 15 (.getfield 7) 3 18 := ⟨(by decide +kernel), rfl⟩
theorem iA_18 : I1 prog_16_method_4_code 18 (.iconst 1) 1 19 := ⟨(by decide +kernel), rfl⟩
theorem iA_19 : I1 prog_16_method_4_code 19 (.iadd) 1 20 := ⟨(by decide +kernel), rfl⟩
theorem iA_20 : I1 prog_16_method_4_code 20 (.putfield 7) 3 23 := ⟨(by decide +kernel), rfl⟩
theorem iA_23 : I1 prog_16_method_4_code 23 (.aload_n 0) 1 24 := ⟨(by decide +kernel), rfl⟩
theorem iA_24 : I1 prog_16_method_4_code 24 (.lconst 1) 1 25 := ⟨(by decide +kernel), rfl⟩
theorem iA_25 : I1 prog_16_method_4_code 25 (.putfield 13) 3 28 := ⟨(by decide +kernel), rfl⟩
theorem iA_28 : I1 prog_16_method_4_code 28 (.aload_n 0) 1 29 := ⟨(by decide +kernel), rfl⟩
theorem iA_29 : I1 prog_16_method_4_code 29 (.iload_n 1) 1 30 := ⟨(by decide +kernel), rfl⟩
theorem iA_30 : I1 prog_16_method_4_code 30 (.bipush 13) 2 32 := ⟨(by decide +kernel), rfl⟩
theorem iA_32 : B1 prog_16_method_4_code 32 (.if_icmp .ne 7) 7 39 35 := ⟨(by decide +kernel), rfl, by decide, by decide⟩
theorem iA_35 : I1 prog_16_method_4_code 35 (.iconst 1) 1 36 := ⟨(by decide +kernel), rfl⟩
theorem iA_36 : B1 prog_16_method_4_code 36 (.goto 4) 4 40 39 := ⟨(by decide +kernel), rfl, by decide, by decide⟩
theorem iA_39 : I1 prog_16_method_4_code 39 (.iconst 0) 1 40 := ⟨(by decide +kernel), rfl⟩
theorem iA_40 : I1 prog_16_method_4_code 40 (.putfield 26) 3 43 := ⟨(by decide +kernel), rfl⟩
theorem iA_43 : I1 prog_16_method_4_code 43 (.iload_n 1) 1 44 := ⟨(by decide +kernel), rfl⟩
theorem iA_44 : I1 prog_16_method_4_code 44 (.bipush 10) 2 46 := ⟨(by decide +kernel), rfl⟩
theorem iA_46 : B1 prog_16_method_4_code 46 (.if_icmp .ne 21) 21 67 49 := ⟨(by decide +kernel), rfl, by decide, by decide⟩
theorem iA_49 : I1 prog_16_method_4_code 49 (.aload_n 0) 1 50 := ⟨(by decide +kernel), rfl⟩
theorem iA_50 : I1 prog_16_method_4_code 50 (.dup) 1 51 := ⟨(by decide +kernel), rfl⟩
theorem iA_51 : I1 prog_16_method_4_code 51 (.getfield 7) 3 54 := ⟨(by decide +kernel), rfl⟩
theorem iA_54 : I1 prog_16_method_4_code 54 (.iconst 1) 1 55 := ⟨(by decide +kernel), rfl⟩
theorem iA_55 : I1 prog_16_method_4_code 55 (.iadd) 1 56 := ⟨(by decide +kernel), rfl⟩
theorem iA_56 : I1 prog_16_method_4_code 56 (.putfield 7) 3 59 := ⟨(by decide +kernel), rfl⟩
theorem iA_59 : I1 prog_16_method_4_code 59 (.aload_n 0) 1 60 := ⟨(by decide +kernel), rfl⟩
theorem iA_60 : I1 prog_16_method_4_code 60 (.lconst 1) 1 61 := ⟨(by decide +kernel), rfl⟩
theorem iA_61 : I1 prog_16_method_4_code 61 (.putfield 13) 3 64 := ⟨(by decide +kernel), rfl⟩
theorem iA_64 : B1 prog_16_method_4_code 64 (.goto 37) 37 101 67 := ⟨(by decide +kernel), rfl, by decide, by decide⟩
theorem iA_67 : I1 prog_16_method_4_code 67 (.aload_n 0) 1 68 := ⟨(by decide +kernel), rfl⟩
theorem iA_68 : I1 prog_16_method_4_code 68 (.getfield 23) 3 71 := ⟨(by decide +kernel), rfl⟩
theorem iA_71 : I1 prog_16_method_4_code 71 (.aload_n 0) 1 72 := ⟨(by decide +kernel), rfl⟩
theorem iA_72 : I1 prog_16_method_4_code 72 (.getfield 17) 3 75 := ⟨(by decide +kernel), rfl⟩
theorem iA_75 : I1 prog_16_method_4_code 75 (.i2l) 1 76 := ⟨(by decide +kernel), rfl⟩
theorem iA_76 : I1 prog_16_method_4_code 76 (.lcmp) 1 77 := ⟨(by decide +kernel), rfl⟩
theorem iA_77 : B1 prog_16_method_4_code 77 (.ifCond .lt 24) 24 101 80 := ⟨(by decide +kernel), rfl, by decide, by decide⟩
theorem iA_80 : I1 prog_16_method_4_code 80 (.iload_n 1) 1 81 := ⟨(by decide +kernel), rfl⟩
theorem iA_81 : I1 prog_16_method_4_code 81 (.sipush 192) 3 84 := ⟨(by decide +kernel), rfl⟩
theorem iA_84 : I1 prog_16_method_4_code 84 (.iand) 1 85 := ⟨(by decide +kernel), rfl⟩
theorem iA_85 : I1 prog_16_method_4_code 85 (.sipush 128) 3 88 := ⟨(by decide +kernel), rfl⟩
theorem iA_88 : B1 prog_16_method_4_code 88 (.if_icmp .eq 13) 13 101 91 := ⟨(by decide +kernel), rfl, by decide, by decide⟩
theorem iA_91 : I1 prog_16_method_4_code 91 (.aload_n 0) 1 92 := ⟨(by decide +kernel), rfl⟩
theorem iA_92 : I1 prog_16_method_4_code 92 (.dup) 1 93 := ⟨(by decide +kernel), rfl⟩
theorem iA_93 : I1 prog_16_method_4_code 93 (.getfield 13) 3 96 := ⟨(by decide +kernel), rfl⟩
theorem iA_96 : I1 prog_16_method_4_code 96 (.lconst 1) 1 97 := ⟨(by decide +kernel), rfl⟩
theorem iA_97 : I1 prog_16_method_4_code 97 (.ladd) 1 98 := ⟨(by decide +kernel), rfl⟩
theorem iA_98 : I1 prog_16_method_4_code 98 (.putfield 13) 3 101 := ⟨(by decide +kernel), rfl⟩
theorem iA_101 : I1 prog_16_method_4_code 101 (.aload_n 0) 1 102 := ⟨(by decide +kernel), rfl⟩
theorem iA_102 : I1 prog_16_method_4_code 102 (.dup) 1 103 := ⟨(by decide +kernel), rfl⟩
theorem iA_103 : I1 prog_16_method_4_code 103 (.getfield 23) 3 106 := ⟨(by decide +kernel), rfl⟩
theorem iA_106 : I1 prog_16_method_4_code 106 (.lconst 1) 1 107 := ⟨(by decide +kernel), rfl⟩
theorem iA_107 : I1 prog_16_method_4_code 107 (.ladd) 1 108 := ⟨(by decide +kernel), rfl⟩
theorem iA_108 : I1 prog_16_method_4_code 108 (.putfield 23) 3 111 := ⟨(by decide +kernel), rfl⟩
theorem iA_111 : I1 prog_16_method_4_code 111 (.return_) 1 112 := ⟨(by decide +kernel), rfl⟩
def vA_0 (p1 : Int32) (w_afterReturn_a0 : Int32) (w_line_a0 : Int32) (w_column_a0 : Int64) (w_offset_a0 : Int64) (w_byteOrderMark_a0 : Int32) : Int32 := (if p1 = (13 : Int32) then (1 : Int32) else (0 : Int32))
def vA_1 (p1 : Int32) (w_afterReturn_a0 : Int32) (w_line_a0 : Int32) (w_column_a0 : Int64) (w_offset_a0 : Int64) (w_byteOrderMark_a0 : Int32) : Int32 := (vA_0 p1 w_afterReturn_a0 w_line_a0 w_column_a0 w_offset_a0 w_byteOrderMark_a0)
def fld_A_line (p1 : Int32) (w_afterReturn_a0 : Int32) (w_line_a0 : Int32) (w_column_a0 : Int64) (w_offset_a0 : Int64) (w_byteOrderMark_a0 : Int32) : Int32 := (if w_afterReturn_a0 = (0 : Int32) then (if p1 = (10 : Int32) then (w_line_a0 + (1 : Int32)) else w_line_a0) else (w_line_a0 + (1 : Int32)))
def fld_A_column (p1 : Int32) (w_afterReturn_a0 : Int32) (w_line_a0 : Int32) (w_column_a0 : Int64) (w_offset_a0 : Int64) (w_byteOrderMark_a0 : Int32) : Int64 := (if w_afterReturn_a0 = (0 : Int32) then (if p1 = (10 : Int32) then (1 : Int64) else (if w_offset_a0 < (w_byteOrderMark_a0.toInt64) then w_column_a0 else (if (p1 &&& (192 : Int32)) = (128 : Int32) then w_column_a0 else (w_column_a0 + (1 : Int64))))) else (if p1 = (10 : Int32) then (1 : Int64) else (if w_offset_a0 < (w_byteOrderMark_a0.toInt64) then (1 : Int64) else (if (p1 &&& (192 : Int32)) = (128 : Int32) then (1 : Int64) else (2 : Int64)))))
def fld_A_afterReturn (p1 : Int32) (w_afterReturn_a0 : Int32) (w_line_a0 : Int32) (w_column_a0 : Int64) (w_offset_a0 : Int64) (w_byteOrderMark_a0 : Int32) : Int32 := (nar .boolean (vA_1 p1 w_afterReturn_a0 w_line_a0 w_column_a0 w_offset_a0 w_byteOrderMark_a0))
theorem efA (m : MethodId) (a0 : Addr) (p1 : Int32) : entryFrame m #[(.ref a0), (.int p1)] 2 = mkF m 0 #[.val (.ref a0), .val (.int p1)] [] := by first | (simp [entryFrame, mkF, argsToLocals, Value.category]; done) | rfl
def QA (Z : State) (a0 : Addr) (p1 : Int32) (w_afterReturn_a0 : Int32) (w_line_a0 : Int32) (w_column_a0 : Int64) (w_offset_a0 : Int64) (w_byteOrderMark_a0 : Int32) (h0 : Heap) (n0 : Nat) (v : Option Value) (h : Heap) : Prop := v = none ∧ Keep h0 h [a0] ∧ Exa Z h a0 "com/example/firm_input/firminput/TextPosition" ∧ Fld Z h a0 "com/example/firm_input/firminput/TextPosition" "line" "I" (.int (fld_A_line p1 w_afterReturn_a0 w_line_a0 w_column_a0 w_offset_a0 w_byteOrderMark_a0)) ∧ Fld Z h a0 "com/example/firm_input/firminput/TextPosition" "column" "J" (.long (fld_A_column p1 w_afterReturn_a0 w_line_a0 w_column_a0 w_offset_a0 w_byteOrderMark_a0)) ∧ Fld Z h a0 "com/example/firm_input/firminput/TextPosition" "byteOrderMark" "I" (.int w_byteOrderMark_a0) ∧ Fld Z h a0 "com/example/firm_input/firminput/TextPosition" "afterReturn" "Z" (.int (fld_A_afterReturn p1 w_afterReturn_a0 w_line_a0 w_column_a0 w_offset_a0 w_byteOrderMark_a0)) ∧ Fld Z h a0 "com/example/firm_input/firminput/TextPosition" "offset" "J" (.long (w_offset_a0 + (1 : Int64)))
set_option maxRecDepth 65536 in
set_option maxHeartbeats 40000000 in
theorem rmA (l : Launch) (Z : State) (aZ : Array Value) (hw : ∀ d ∈ tables_1, d.before aZ Z = true) (a0 : Addr) (p1 : Int32) (w_afterReturn_a0 : Int32) (w_line_a0 : Int32) (w_column_a0 : Int64) (w_offset_a0 : Int64) (w_byteOrderMark_a0 : Int32) (h0 : Heap) (n0 : Nat) (Z0 : n0 ≤ h0.size) (F_afterReturn_a0 : Fld Z h0 a0 "com/example/firm_input/firminput/TextPosition" "afterReturn" "Z" (.int w_afterReturn_a0)) (F_line_a0 : Fld Z h0 a0 "com/example/firm_input/firminput/TextPosition" "line" "I" (.int w_line_a0)) (E_a0 : Exa Z h0 a0 "com/example/firm_input/firminput/TextPosition") (g_a0 : n0 ≤ a0) (F_column_a0 : Fld Z h0 a0 "com/example/firm_input/firminput/TextPosition" "column" "J" (.long w_column_a0)) (F_offset_a0 : Fld Z h0 a0 "com/example/firm_input/firminput/TextPosition" "offset" "J" (.long w_offset_a0)) (F_byteOrderMark_a0 : Fld Z h0 a0 "com/example/firm_input/firminput/TextPosition" "byteOrderMark" "I" (.int w_byteOrderMark_a0)) :
    Ctr l Z (⟨"com/example/firm_input/firminput/TextPosition", "advance", "(B)V"⟩ : MethodName) prog_16_method_4_code 2 none ({ frames := 0, cells := 0, slots := 0, locals := 0 } : Room) #[(.ref a0), (.int p1)] h0 n0 (QA Z a0 p1 w_afterReturn_a0 w_line_a0 w_column_a0 w_offset_a0 w_byteOrderMark_a0 h0 n0) := by
  refine Ctr.of_go pn1 (fun m => efA m a0 p1) ?_
  intro p e s m below meth c hnm C
  refine g_aloadN C iA_0 rfl rfl ?_
  refine g_getF C iA_1 (host := "") (Or.inl (hw _ (List.mem_of_getElem? (i := 20) rfl))) Via.refl F_afterReturn_a0 ?_
  refine g_if_eq C iA_4 (fun hc4_1 => ?_) (fun hc4_1 => ?_)
  · refine g_aloadN C iA_28 rfl rfl ?_
    refine g_iloadN C iA_29 rfl ?_
    refine g_bipush C (13 : Int32) iA_30 rfl ?_
    refine Go.join (mkF m 40 #[.val (.ref a0), .val (.int p1)] [(.int (vA_0 p1 w_afterReturn_a0 w_line_a0 w_column_a0 w_offset_a0 w_byteOrderMark_a0)), (.ref a0)]) ?_ (fun J => ?_)
    · refine g_putFN C (v' := (.int (nar .boolean (vA_1 p1 w_afterReturn_a0 w_line_a0 w_column_a0 w_offset_a0 w_byteOrderMark_a0)))) iA_40 (hw _ (List.mem_of_getElem? (i := 20) rfl)) Via.refl F_afterReturn_a0 E_a0 (Or.inl (hw _ (List.mem_of_getElem? (i := 21) rfl))) (hw _ (List.mem_of_getElem? (i := 1) rfl)) (ty := .boolean) (by decide) rfl (fits_nar_bool _) g_a0 (fun h5 W5 => ?_)
      have F_line_a0_c5 := Fld.other W5 F_line_a0 (Or.inr (slot_ne (a0 := aZ) (Or.inl (hw _ (List.mem_of_getElem? (i := 10) rfl))) (Or.inl (hw _ (List.mem_of_getElem? (i := 21) rfl))) (by decide) (t := .int) (t' := .boolean) (by decide) (by decide)))
      have E_a0_c5 := Exa.wr W5 E_a0
      have F_c5 := Fld.other W5 F_column_a0 (Or.inr (slot_ne (a0 := aZ) (Or.inl (hw _ (List.mem_of_getElem? (i := 12) rfl))) (Or.inl (hw _ (List.mem_of_getElem? (i := 21) rfl))) (by decide) (t := .long) (t' := .boolean) (by decide) (by decide)))
      have F_offset_a0_c5 := Fld.other W5 F_offset_a0 (Or.inr (slot_ne (a0 := aZ) (Or.inl (hw _ (List.mem_of_getElem? (i := 23) rfl))) (Or.inl (hw _ (List.mem_of_getElem? (i := 21) rfl))) (by decide) (t := .long) (t' := .boolean) (by decide) (by decide)))
      have F_byteOrderMark_a0_c5 := Fld.other W5 F_byteOrderMark_a0 (Or.inr (slot_ne (a0 := aZ) (Or.inr (hw _ (List.mem_of_getElem? (i := 14) rfl))) (Or.inl (hw _ (List.mem_of_getElem? (i := 21) rfl))) (by decide) (t := .int) (t' := .boolean) (by decide) (by decide)))
      have Fw5 := Fld.same W5 F_afterReturn_a0
      have K5 := Keep.wr (Keep.refl h0 [a0]) W5 (Or.inl (List.mem_of_getElem? (i := 0) rfl))
      have Z5 : n0 ≤ h5.size := Nat.le_trans Z0 (Keep.of_wr W5).1
      refine g_iloadN C iA_43 rfl ?_
      refine g_bipush C (10 : Int32) iA_44 rfl ?_
      refine g_icmp_ne C iA_46 (fun hc46_1 => ?_) (fun hc46_1 => ?_)
      · refine g_aloadN C iA_49 rfl rfl ?_
        refine g_dup C iA_50 rfl ?_
        refine g_getF C iA_51 (host := "") (Or.inl (hw _ (List.mem_of_getElem? (i := 9) rfl))) Via.refl F_line_a0_c5 ?_
        refine g_iconst C (1 : Int32) iA_54 rfl ?_
        refine g_iadd C iA_55 ?_
        refine g_putF C iA_56 (host := "") (Or.inl (hw _ (List.mem_of_getElem? (i := 9) rfl))) Via.refl F_line_a0_c5 E_a0_c5 (Or.inl (hw _ (List.mem_of_getElem? (i := 10) rfl))) (hw _ (List.mem_of_getElem? (i := 1) rfl)) (ty := .int) (by decide) rfl rfl g_a0 (fun h6 W6 => ?_)
        have E_a0_c6 := Exa.wr W6 E_a0_c5
        have F_c6 := Fld.other W6 F_c5 (Or.inr (slot_ne (a0 := aZ) (Or.inl (hw _ (List.mem_of_getElem? (i := 12) rfl))) (Or.inl (hw _ (List.mem_of_getElem? (i := 10) rfl))) (by decide) (t := .long) (t' := .int) (by decide) (by decide)))
        have F_offset_a0_c6 := Fld.other W6 F_offset_a0_c5 (Or.inr (slot_ne (a0 := aZ) (Or.inl (hw _ (List.mem_of_getElem? (i := 23) rfl))) (Or.inl (hw _ (List.mem_of_getElem? (i := 10) rfl))) (by decide) (t := .long) (t' := .int) (by decide) (by decide)))
        have F_byteOrderMark_a0_c6 := Fld.other W6 F_byteOrderMark_a0_c5 (Or.inr (slot_ne (a0 := aZ) (Or.inr (hw _ (List.mem_of_getElem? (i := 14) rfl))) (Or.inl (hw _ (List.mem_of_getElem? (i := 10) rfl))) (by decide) (t := .int) (t' := .int) (by decide) (by decide)))
        have Fw5_c6 := Fld.other W6 Fw5 (Or.inr (slot_ne (a0 := aZ) (Or.inl (hw _ (List.mem_of_getElem? (i := 21) rfl))) (Or.inl (hw _ (List.mem_of_getElem? (i := 10) rfl))) (by decide) (t := .boolean) (t' := .int) (by decide) (by decide)))
        have Fw6 := Fld.same W6 F_line_a0_c5
        have K6 := Keep.wr K5 W6 (Or.inl (List.mem_of_getElem? (i := 0) rfl))
        have Z6 : n0 ≤ h6.size := Nat.le_trans Z5 (Keep.of_wr W6).1
        refine g_aloadN C iA_59 rfl rfl ?_
        refine g_lconst C (1 : Int64) iA_60 rfl ?_
        refine g_putF C iA_61 (host := "") (Or.inl (hw _ (List.mem_of_getElem? (i := 11) rfl))) Via.refl F_c6 E_a0_c6 (Or.inl (hw _ (List.mem_of_getElem? (i := 12) rfl))) (hw _ (List.mem_of_getElem? (i := 1) rfl)) (ty := .long) (by decide) rfl rfl g_a0 (fun h7 W7 => ?_)
        have E_a0_c7 := Exa.wr W7 E_a0_c6
        have F_offset_a0_c7 := Fld.other W7 F_offset_a0_c6 (Or.inr (slot_ne (a0 := aZ) (Or.inl (hw _ (List.mem_of_getElem? (i := 23) rfl))) (Or.inl (hw _ (List.mem_of_getElem? (i := 12) rfl))) (by decide) (t := .long) (t' := .long) (by decide) (by decide)))
        have F_byteOrderMark_a0_c7 := Fld.other W7 F_byteOrderMark_a0_c6 (Or.inr (slot_ne (a0 := aZ) (Or.inr (hw _ (List.mem_of_getElem? (i := 14) rfl))) (Or.inl (hw _ (List.mem_of_getElem? (i := 12) rfl))) (by decide) (t := .int) (t' := .long) (by decide) (by decide)))
        have Fw5_c7 := Fld.other W7 Fw5_c6 (Or.inr (slot_ne (a0 := aZ) (Or.inl (hw _ (List.mem_of_getElem? (i := 21) rfl))) (Or.inl (hw _ (List.mem_of_getElem? (i := 12) rfl))) (by decide) (t := .boolean) (t' := .long) (by decide) (by decide)))
        have Fw6_c7 := Fld.other W7 Fw6 (Or.inr (slot_ne (a0 := aZ) (Or.inl (hw _ (List.mem_of_getElem? (i := 10) rfl))) (Or.inl (hw _ (List.mem_of_getElem? (i := 12) rfl))) (by decide) (t := .int) (t' := .long) (by decide) (by decide)))
        have Fw7 := Fld.same W7 F_c6
        have K7 := Keep.wr K6 W7 (Or.inl (List.mem_of_getElem? (i := 0) rfl))
        have Z7 : n0 ≤ h7.size := Nat.le_trans Z6 (Keep.of_wr W7).1
        refine g_goto C iA_64 ?_
        refine g_aloadN C iA_101 rfl rfl ?_
        refine g_dup C iA_102 rfl ?_
        refine g_getF C iA_103 (host := "") (Or.inl (hw _ (List.mem_of_getElem? (i := 22) rfl))) Via.refl F_offset_a0_c7 ?_
        refine g_lconst C (1 : Int64) iA_106 rfl ?_
        refine g_ladd C iA_107 ?_
        refine g_putF C iA_108 (host := "") (Or.inl (hw _ (List.mem_of_getElem? (i := 22) rfl))) Via.refl F_offset_a0_c7 E_a0_c7 (Or.inl (hw _ (List.mem_of_getElem? (i := 23) rfl))) (hw _ (List.mem_of_getElem? (i := 1) rfl)) (ty := .long) (by decide) rfl rfl g_a0 (fun h8 W8 => ?_)
        have E_a0_c8 := Exa.wr W8 E_a0_c7
        have F_byteOrderMark_a0_c8 := Fld.other W8 F_byteOrderMark_a0_c7 (Or.inr (slot_ne (a0 := aZ) (Or.inr (hw _ (List.mem_of_getElem? (i := 14) rfl))) (Or.inl (hw _ (List.mem_of_getElem? (i := 23) rfl))) (by decide) (t := .int) (t' := .long) (by decide) (by decide)))
        have Fw5_c8 := Fld.other W8 Fw5_c7 (Or.inr (slot_ne (a0 := aZ) (Or.inl (hw _ (List.mem_of_getElem? (i := 21) rfl))) (Or.inl (hw _ (List.mem_of_getElem? (i := 23) rfl))) (by decide) (t := .boolean) (t' := .long) (by decide) (by decide)))
        have Fw6_c8 := Fld.other W8 Fw6_c7 (Or.inr (slot_ne (a0 := aZ) (Or.inl (hw _ (List.mem_of_getElem? (i := 10) rfl))) (Or.inl (hw _ (List.mem_of_getElem? (i := 23) rfl))) (by decide) (t := .int) (t' := .long) (by decide) (by decide)))
        have Fw7_c8 := Fld.other W8 Fw7 (Or.inr (slot_ne (a0 := aZ) (Or.inl (hw _ (List.mem_of_getElem? (i := 12) rfl))) (Or.inl (hw _ (List.mem_of_getElem? (i := 23) rfl))) (by decide) (t := .long) (t' := .long) (by decide) (by decide)))
        have Fw8 := Fld.same W8 F_offset_a0_c7
        have K8 := Keep.wr K7 W8 (Or.inl (List.mem_of_getElem? (i := 0) rfl))
        have Z8 : n0 ≤ h8.size := Nat.le_trans Z7 (Keep.of_wr W8).1
        have r0 : (fld_A_line p1 w_afterReturn_a0 w_line_a0 w_column_a0 w_offset_a0 w_byteOrderMark_a0) = (w_line_a0 + (1 : Int32)) := by simp only [fld_A_line, if_pos hc4_1, if_pos hc46_1]
        have r1 : (fld_A_column p1 w_afterReturn_a0 w_line_a0 w_column_a0 w_offset_a0 w_byteOrderMark_a0) = (1 : Int64) := by simp only [fld_A_column, if_pos hc4_1, if_pos hc46_1]
        have r2 : (fld_A_afterReturn p1 w_afterReturn_a0 w_line_a0 w_column_a0 w_offset_a0 w_byteOrderMark_a0) = (nar .boolean (vA_1 p1 w_afterReturn_a0 w_line_a0 w_column_a0 w_offset_a0 w_byteOrderMark_a0)) := by simp only [fld_A_afterReturn, if_pos hc4_1, if_pos hc46_1]
        exact g_retV C iA_111 rfl (by decide) (by decide) (show QA Z a0 p1 w_afterReturn_a0 w_line_a0 w_column_a0 w_offset_a0 w_byteOrderMark_a0 h0 n0 _ _ from by unfold QA; rw [r0, r1, r2]; exact ⟨rfl, K8, E_a0_c8, Fw6_c8, Fw7_c8, F_byteOrderMark_a0_c8, Fw5_c8, Fw8⟩)
      · refine g_aloadN C iA_67 rfl rfl ?_
        refine g_getF C iA_68 (host := "") (Or.inl (hw _ (List.mem_of_getElem? (i := 22) rfl))) Via.refl F_offset_a0_c5 ?_
        refine g_aloadN C iA_71 rfl rfl ?_
        refine g_getF C iA_72 (host := "") (Or.inl (hw _ (List.mem_of_getElem? (i := 13) rfl))) Via.refl F_byteOrderMark_a0_c5 ?_
        refine g_i2l C iA_75 ?_
        refine g_lcmp C iA_76 ?_
        refine g_ifl_lt C iA_77 (fun hc77_1 => ?_) (fun hc77_1 => ?_)
        · refine g_aloadN C iA_101 rfl rfl ?_
          refine g_dup C iA_102 rfl ?_
          refine g_getF C iA_103 (host := "") (Or.inl (hw _ (List.mem_of_getElem? (i := 22) rfl))) Via.refl F_offset_a0_c5 ?_
          refine g_lconst C (1 : Int64) iA_106 rfl ?_
          refine g_ladd C iA_107 ?_
          refine g_putF C iA_108 (host := "") (Or.inl (hw _ (List.mem_of_getElem? (i := 22) rfl))) Via.refl F_offset_a0_c5 E_a0_c5 (Or.inl (hw _ (List.mem_of_getElem? (i := 23) rfl))) (hw _ (List.mem_of_getElem? (i := 1) rfl)) (ty := .long) (by decide) rfl rfl g_a0 (fun h9 W9 => ?_)
          have F_line_a0_c9 := Fld.other W9 F_line_a0_c5 (Or.inr (slot_ne (a0 := aZ) (Or.inl (hw _ (List.mem_of_getElem? (i := 10) rfl))) (Or.inl (hw _ (List.mem_of_getElem? (i := 23) rfl))) (by decide) (t := .int) (t' := .long) (by decide) (by decide)))
          have E_a0_c9 := Exa.wr W9 E_a0_c5
          have F_c9 := Fld.other W9 F_c5 (Or.inr (slot_ne (a0 := aZ) (Or.inl (hw _ (List.mem_of_getElem? (i := 12) rfl))) (Or.inl (hw _ (List.mem_of_getElem? (i := 23) rfl))) (by decide) (t := .long) (t' := .long) (by decide) (by decide)))
          have F_byteOrderMark_a0_c9 := Fld.other W9 F_byteOrderMark_a0_c5 (Or.inr (slot_ne (a0 := aZ) (Or.inr (hw _ (List.mem_of_getElem? (i := 14) rfl))) (Or.inl (hw _ (List.mem_of_getElem? (i := 23) rfl))) (by decide) (t := .int) (t' := .long) (by decide) (by decide)))
          have Fw5_c9 := Fld.other W9 Fw5 (Or.inr (slot_ne (a0 := aZ) (Or.inl (hw _ (List.mem_of_getElem? (i := 21) rfl))) (Or.inl (hw _ (List.mem_of_getElem? (i := 23) rfl))) (by decide) (t := .boolean) (t' := .long) (by decide) (by decide)))
          have Fw9 := Fld.same W9 F_offset_a0_c5
          have K9 := Keep.wr K5 W9 (Or.inl (List.mem_of_getElem? (i := 0) rfl))
          have Z9 : n0 ≤ h9.size := Nat.le_trans Z5 (Keep.of_wr W9).1
          have r0 : (fld_A_line p1 w_afterReturn_a0 w_line_a0 w_column_a0 w_offset_a0 w_byteOrderMark_a0) = w_line_a0 := by simp only [fld_A_line, if_pos hc4_1, if_neg hc46_1, if_pos hc77_1]
          have r1 : (fld_A_column p1 w_afterReturn_a0 w_line_a0 w_column_a0 w_offset_a0 w_byteOrderMark_a0) = w_column_a0 := by simp only [fld_A_column, if_pos hc4_1, if_neg hc46_1, if_pos hc77_1]
          have r2 : (fld_A_afterReturn p1 w_afterReturn_a0 w_line_a0 w_column_a0 w_offset_a0 w_byteOrderMark_a0) = (nar .boolean (vA_1 p1 w_afterReturn_a0 w_line_a0 w_column_a0 w_offset_a0 w_byteOrderMark_a0)) := by simp only [fld_A_afterReturn, if_pos hc4_1, if_neg hc46_1, if_pos hc77_1]
          exact g_retV C iA_111 rfl (by decide) (by decide) (show QA Z a0 p1 w_afterReturn_a0 w_line_a0 w_column_a0 w_offset_a0 w_byteOrderMark_a0 h0 n0 _ _ from by unfold QA; rw [r0, r1, r2]; exact ⟨rfl, K9, E_a0_c9, F_line_a0_c9, F_c9, F_byteOrderMark_a0_c9, Fw5_c9, Fw9⟩)
        · refine g_iloadN C iA_80 rfl ?_
          refine g_sipush C (192 : Int32) iA_81 rfl ?_
          refine g_iand C iA_84 ?_
          refine g_sipush C (128 : Int32) iA_85 rfl ?_
          refine g_icmp_eq C iA_88 (fun hc88_1 => ?_) (fun hc88_1 => ?_)
          · refine g_aloadN C iA_101 rfl rfl ?_
            refine g_dup C iA_102 rfl ?_
            refine g_getF C iA_103 (host := "") (Or.inl (hw _ (List.mem_of_getElem? (i := 22) rfl))) Via.refl F_offset_a0_c5 ?_
            refine g_lconst C (1 : Int64) iA_106 rfl ?_
            refine g_ladd C iA_107 ?_
            refine g_putF C iA_108 (host := "") (Or.inl (hw _ (List.mem_of_getElem? (i := 22) rfl))) Via.refl F_offset_a0_c5 E_a0_c5 (Or.inl (hw _ (List.mem_of_getElem? (i := 23) rfl))) (hw _ (List.mem_of_getElem? (i := 1) rfl)) (ty := .long) (by decide) rfl rfl g_a0 (fun h10 W10 => ?_)
            have F_line_a0_c10 := Fld.other W10 F_line_a0_c5 (Or.inr (slot_ne (a0 := aZ) (Or.inl (hw _ (List.mem_of_getElem? (i := 10) rfl))) (Or.inl (hw _ (List.mem_of_getElem? (i := 23) rfl))) (by decide) (t := .int) (t' := .long) (by decide) (by decide)))
            have E_a0_c10 := Exa.wr W10 E_a0_c5
            have F_c10 := Fld.other W10 F_c5 (Or.inr (slot_ne (a0 := aZ) (Or.inl (hw _ (List.mem_of_getElem? (i := 12) rfl))) (Or.inl (hw _ (List.mem_of_getElem? (i := 23) rfl))) (by decide) (t := .long) (t' := .long) (by decide) (by decide)))
            have F_byteOrderMark_a0_c10 := Fld.other W10 F_byteOrderMark_a0_c5 (Or.inr (slot_ne (a0 := aZ) (Or.inr (hw _ (List.mem_of_getElem? (i := 14) rfl))) (Or.inl (hw _ (List.mem_of_getElem? (i := 23) rfl))) (by decide) (t := .int) (t' := .long) (by decide) (by decide)))
            have Fw5_c10 := Fld.other W10 Fw5 (Or.inr (slot_ne (a0 := aZ) (Or.inl (hw _ (List.mem_of_getElem? (i := 21) rfl))) (Or.inl (hw _ (List.mem_of_getElem? (i := 23) rfl))) (by decide) (t := .boolean) (t' := .long) (by decide) (by decide)))
            have Fw10 := Fld.same W10 F_offset_a0_c5
            have K10 := Keep.wr K5 W10 (Or.inl (List.mem_of_getElem? (i := 0) rfl))
            have Z10 : n0 ≤ h10.size := Nat.le_trans Z5 (Keep.of_wr W10).1
            have r0 : (fld_A_line p1 w_afterReturn_a0 w_line_a0 w_column_a0 w_offset_a0 w_byteOrderMark_a0) = w_line_a0 := by simp only [fld_A_line, if_pos hc4_1, if_neg hc46_1, if_neg hc77_1, if_pos hc88_1]
            have r1 : (fld_A_column p1 w_afterReturn_a0 w_line_a0 w_column_a0 w_offset_a0 w_byteOrderMark_a0) = w_column_a0 := by simp only [fld_A_column, if_pos hc4_1, if_neg hc46_1, if_neg hc77_1, if_pos hc88_1]
            have r2 : (fld_A_afterReturn p1 w_afterReturn_a0 w_line_a0 w_column_a0 w_offset_a0 w_byteOrderMark_a0) = (nar .boolean (vA_1 p1 w_afterReturn_a0 w_line_a0 w_column_a0 w_offset_a0 w_byteOrderMark_a0)) := by simp only [fld_A_afterReturn, if_pos hc4_1, if_neg hc46_1, if_neg hc77_1, if_pos hc88_1]
            exact g_retV C iA_111 rfl (by decide) (by decide) (show QA Z a0 p1 w_afterReturn_a0 w_line_a0 w_column_a0 w_offset_a0 w_byteOrderMark_a0 h0 n0 _ _ from by unfold QA; rw [r0, r1, r2]; exact ⟨rfl, K10, E_a0_c10, F_line_a0_c10, F_c10, F_byteOrderMark_a0_c10, Fw5_c10, Fw10⟩)
          · refine g_aloadN C iA_91 rfl rfl ?_
            refine g_dup C iA_92 rfl ?_
            refine g_getF C iA_93 (host := "") (Or.inl (hw _ (List.mem_of_getElem? (i := 11) rfl))) Via.refl F_c5 ?_
            refine g_lconst C (1 : Int64) iA_96 rfl ?_
            refine g_ladd C iA_97 ?_
            refine g_putF C iA_98 (host := "") (Or.inl (hw _ (List.mem_of_getElem? (i := 11) rfl))) Via.refl F_c5 E_a0_c5 (Or.inl (hw _ (List.mem_of_getElem? (i := 12) rfl))) (hw _ (List.mem_of_getElem? (i := 1) rfl)) (ty := .long) (by decide) rfl rfl g_a0 (fun h11 W11 => ?_)
            have F_line_a0_c11 := Fld.other W11 F_line_a0_c5 (Or.inr (slot_ne (a0 := aZ) (Or.inl (hw _ (List.mem_of_getElem? (i := 10) rfl))) (Or.inl (hw _ (List.mem_of_getElem? (i := 12) rfl))) (by decide) (t := .int) (t' := .long) (by decide) (by decide)))
            have E_a0_c11 := Exa.wr W11 E_a0_c5
            have F_offset_a0_c11 := Fld.other W11 F_offset_a0_c5 (Or.inr (slot_ne (a0 := aZ) (Or.inl (hw _ (List.mem_of_getElem? (i := 23) rfl))) (Or.inl (hw _ (List.mem_of_getElem? (i := 12) rfl))) (by decide) (t := .long) (t' := .long) (by decide) (by decide)))
            have F_byteOrderMark_a0_c11 := Fld.other W11 F_byteOrderMark_a0_c5 (Or.inr (slot_ne (a0 := aZ) (Or.inr (hw _ (List.mem_of_getElem? (i := 14) rfl))) (Or.inl (hw _ (List.mem_of_getElem? (i := 12) rfl))) (by decide) (t := .int) (t' := .long) (by decide) (by decide)))
            have Fw5_c11 := Fld.other W11 Fw5 (Or.inr (slot_ne (a0 := aZ) (Or.inl (hw _ (List.mem_of_getElem? (i := 21) rfl))) (Or.inl (hw _ (List.mem_of_getElem? (i := 12) rfl))) (by decide) (t := .boolean) (t' := .long) (by decide) (by decide)))
            have Fw11 := Fld.same W11 F_c5
            have K11 := Keep.wr K5 W11 (Or.inl (List.mem_of_getElem? (i := 0) rfl))
            have Z11 : n0 ≤ h11.size := Nat.le_trans Z5 (Keep.of_wr W11).1
            refine g_aloadN C iA_101 rfl rfl ?_
            refine g_dup C iA_102 rfl ?_
            refine g_getF C iA_103 (host := "") (Or.inl (hw _ (List.mem_of_getElem? (i := 22) rfl))) Via.refl F_offset_a0_c11 ?_
            refine g_lconst C (1 : Int64) iA_106 rfl ?_
            refine g_ladd C iA_107 ?_
            refine g_putF C iA_108 (host := "") (Or.inl (hw _ (List.mem_of_getElem? (i := 22) rfl))) Via.refl F_offset_a0_c11 E_a0_c11 (Or.inl (hw _ (List.mem_of_getElem? (i := 23) rfl))) (hw _ (List.mem_of_getElem? (i := 1) rfl)) (ty := .long) (by decide) rfl rfl g_a0 (fun h12 W12 => ?_)
            have F_line_a0_c12 := Fld.other W12 F_line_a0_c11 (Or.inr (slot_ne (a0 := aZ) (Or.inl (hw _ (List.mem_of_getElem? (i := 10) rfl))) (Or.inl (hw _ (List.mem_of_getElem? (i := 23) rfl))) (by decide) (t := .int) (t' := .long) (by decide) (by decide)))
            have E_a0_c12 := Exa.wr W12 E_a0_c11
            have F_byteOrderMark_a0_c12 := Fld.other W12 F_byteOrderMark_a0_c11 (Or.inr (slot_ne (a0 := aZ) (Or.inr (hw _ (List.mem_of_getElem? (i := 14) rfl))) (Or.inl (hw _ (List.mem_of_getElem? (i := 23) rfl))) (by decide) (t := .int) (t' := .long) (by decide) (by decide)))
            have Fw5_c12 := Fld.other W12 Fw5_c11 (Or.inr (slot_ne (a0 := aZ) (Or.inl (hw _ (List.mem_of_getElem? (i := 21) rfl))) (Or.inl (hw _ (List.mem_of_getElem? (i := 23) rfl))) (by decide) (t := .boolean) (t' := .long) (by decide) (by decide)))
            have Fw11_c12 := Fld.other W12 Fw11 (Or.inr (slot_ne (a0 := aZ) (Or.inl (hw _ (List.mem_of_getElem? (i := 12) rfl))) (Or.inl (hw _ (List.mem_of_getElem? (i := 23) rfl))) (by decide) (t := .long) (t' := .long) (by decide) (by decide)))
            have Fw12 := Fld.same W12 F_offset_a0_c11
            have K12 := Keep.wr K11 W12 (Or.inl (List.mem_of_getElem? (i := 0) rfl))
            have Z12 : n0 ≤ h12.size := Nat.le_trans Z11 (Keep.of_wr W12).1
            have r0 : (fld_A_line p1 w_afterReturn_a0 w_line_a0 w_column_a0 w_offset_a0 w_byteOrderMark_a0) = w_line_a0 := by simp only [fld_A_line, if_pos hc4_1, if_neg hc46_1, if_neg hc77_1, if_neg hc88_1]
            have r1 : (fld_A_column p1 w_afterReturn_a0 w_line_a0 w_column_a0 w_offset_a0 w_byteOrderMark_a0) = (w_column_a0 + (1 : Int64)) := by simp only [fld_A_column, if_pos hc4_1, if_neg hc46_1, if_neg hc77_1, if_neg hc88_1]
            have r2 : (fld_A_afterReturn p1 w_afterReturn_a0 w_line_a0 w_column_a0 w_offset_a0 w_byteOrderMark_a0) = (nar .boolean (vA_1 p1 w_afterReturn_a0 w_line_a0 w_column_a0 w_offset_a0 w_byteOrderMark_a0)) := by simp only [fld_A_afterReturn, if_pos hc4_1, if_neg hc46_1, if_neg hc77_1, if_neg hc88_1]
            exact g_retV C iA_111 rfl (by decide) (by decide) (show QA Z a0 p1 w_afterReturn_a0 w_line_a0 w_column_a0 w_offset_a0 w_byteOrderMark_a0 h0 n0 _ _ from by unfold QA; rw [r0, r1, r2]; exact ⟨rfl, K12, E_a0_c12, F_line_a0_c12, Fw11_c12, F_byteOrderMark_a0_c12, Fw5_c12, Fw12⟩)
    · refine g_icmp_ne C iA_32 (fun hc32_1 => ?_) (fun hc32_1 => ?_)
      · refine g_iconst C (1 : Int32) iA_35 rfl ?_
        refine g_goto C iA_36 ?_
        have e0 : (vA_0 p1 w_afterReturn_a0 w_line_a0 w_column_a0 w_offset_a0 w_byteOrderMark_a0) = (1 : Int32) := by simp only [vA_0, if_pos hc32_1]
        exact Go.cast J (by rw [e0])
      · refine g_iconst C (0 : Int32) iA_39 rfl ?_
        have e0 : (vA_0 p1 w_afterReturn_a0 w_line_a0 w_column_a0 w_offset_a0 w_byteOrderMark_a0) = (0 : Int32) := by simp only [vA_0, if_neg hc32_1]
        exact Go.cast J (by rw [e0])
  · refine g_iloadN C iA_7 rfl ?_
    refine g_bipush C (10 : Int32) iA_8 rfl ?_
    refine g_icmp_eq C iA_10 (fun hc10_1 => ?_) (fun hc10_1 => ?_)
    · refine g_aloadN C iA_28 rfl rfl ?_
      refine g_iloadN C iA_29 rfl ?_
      refine g_bipush C (13 : Int32) iA_30 rfl ?_
      refine Go.join (mkF m 40 #[.val (.ref a0), .val (.int p1)] [(.int (vA_0 p1 w_afterReturn_a0 w_line_a0 w_column_a0 w_offset_a0 w_byteOrderMark_a0)), (.ref a0)]) ?_ (fun J => ?_)
      · refine g_putFN C (v' := (.int (nar .boolean (vA_1 p1 w_afterReturn_a0 w_line_a0 w_column_a0 w_offset_a0 w_byteOrderMark_a0)))) iA_40 (hw _ (List.mem_of_getElem? (i := 20) rfl)) Via.refl F_afterReturn_a0 E_a0 (Or.inl (hw _ (List.mem_of_getElem? (i := 21) rfl))) (hw _ (List.mem_of_getElem? (i := 1) rfl)) (ty := .boolean) (by decide) rfl (fits_nar_bool _) g_a0 (fun h13 W13 => ?_)
        have F_line_a0_c13 := Fld.other W13 F_line_a0 (Or.inr (slot_ne (a0 := aZ) (Or.inl (hw _ (List.mem_of_getElem? (i := 10) rfl))) (Or.inl (hw _ (List.mem_of_getElem? (i := 21) rfl))) (by decide) (t := .int) (t' := .boolean) (by decide) (by decide)))
        have E_a0_c13 := Exa.wr W13 E_a0
        have F_c13 := Fld.other W13 F_column_a0 (Or.inr (slot_ne (a0 := aZ) (Or.inl (hw _ (List.mem_of_getElem? (i := 12) rfl))) (Or.inl (hw _ (List.mem_of_getElem? (i := 21) rfl))) (by decide) (t := .long) (t' := .boolean) (by decide) (by decide)))
        have F_offset_a0_c13 := Fld.other W13 F_offset_a0 (Or.inr (slot_ne (a0 := aZ) (Or.inl (hw _ (List.mem_of_getElem? (i := 23) rfl))) (Or.inl (hw _ (List.mem_of_getElem? (i := 21) rfl))) (by decide) (t := .long) (t' := .boolean) (by decide) (by decide)))
        have F_byteOrderMark_a0_c13 := Fld.other W13 F_byteOrderMark_a0 (Or.inr (slot_ne (a0 := aZ) (Or.inr (hw _ (List.mem_of_getElem? (i := 14) rfl))) (Or.inl (hw _ (List.mem_of_getElem? (i := 21) rfl))) (by decide) (t := .int) (t' := .boolean) (by decide) (by decide)))
        have Fw13 := Fld.same W13 F_afterReturn_a0
        have K13 := Keep.wr (Keep.refl h0 [a0]) W13 (Or.inl (List.mem_of_getElem? (i := 0) rfl))
        have Z13 : n0 ≤ h13.size := Nat.le_trans Z0 (Keep.of_wr W13).1
        refine g_iloadN C iA_43 rfl ?_
        refine g_bipush C (10 : Int32) iA_44 rfl ?_
        refine g_icmp_ne C iA_46 (fun _ => ?_) (fun q => absurd hc10_1 q)
        refine g_aloadN C iA_49 rfl rfl ?_
        refine g_dup C iA_50 rfl ?_
        refine g_getF C iA_51 (host := "") (Or.inl (hw _ (List.mem_of_getElem? (i := 9) rfl))) Via.refl F_line_a0_c13 ?_
        refine g_iconst C (1 : Int32) iA_54 rfl ?_
        refine g_iadd C iA_55 ?_
        refine g_putF C iA_56 (host := "") (Or.inl (hw _ (List.mem_of_getElem? (i := 9) rfl))) Via.refl F_line_a0_c13 E_a0_c13 (Or.inl (hw _ (List.mem_of_getElem? (i := 10) rfl))) (hw _ (List.mem_of_getElem? (i := 1) rfl)) (ty := .int) (by decide) rfl rfl g_a0 (fun h14 W14 => ?_)
        have E_a0_c14 := Exa.wr W14 E_a0_c13
        have F_c14 := Fld.other W14 F_c13 (Or.inr (slot_ne (a0 := aZ) (Or.inl (hw _ (List.mem_of_getElem? (i := 12) rfl))) (Or.inl (hw _ (List.mem_of_getElem? (i := 10) rfl))) (by decide) (t := .long) (t' := .int) (by decide) (by decide)))
        have F_offset_a0_c14 := Fld.other W14 F_offset_a0_c13 (Or.inr (slot_ne (a0 := aZ) (Or.inl (hw _ (List.mem_of_getElem? (i := 23) rfl))) (Or.inl (hw _ (List.mem_of_getElem? (i := 10) rfl))) (by decide) (t := .long) (t' := .int) (by decide) (by decide)))
        have F_byteOrderMark_a0_c14 := Fld.other W14 F_byteOrderMark_a0_c13 (Or.inr (slot_ne (a0 := aZ) (Or.inr (hw _ (List.mem_of_getElem? (i := 14) rfl))) (Or.inl (hw _ (List.mem_of_getElem? (i := 10) rfl))) (by decide) (t := .int) (t' := .int) (by decide) (by decide)))
        have Fw13_c14 := Fld.other W14 Fw13 (Or.inr (slot_ne (a0 := aZ) (Or.inl (hw _ (List.mem_of_getElem? (i := 21) rfl))) (Or.inl (hw _ (List.mem_of_getElem? (i := 10) rfl))) (by decide) (t := .boolean) (t' := .int) (by decide) (by decide)))
        have Fw14 := Fld.same W14 F_line_a0_c13
        have K14 := Keep.wr K13 W14 (Or.inl (List.mem_of_getElem? (i := 0) rfl))
        have Z14 : n0 ≤ h14.size := Nat.le_trans Z13 (Keep.of_wr W14).1
        refine g_aloadN C iA_59 rfl rfl ?_
        refine g_lconst C (1 : Int64) iA_60 rfl ?_
        refine g_putF C iA_61 (host := "") (Or.inl (hw _ (List.mem_of_getElem? (i := 11) rfl))) Via.refl F_c14 E_a0_c14 (Or.inl (hw _ (List.mem_of_getElem? (i := 12) rfl))) (hw _ (List.mem_of_getElem? (i := 1) rfl)) (ty := .long) (by decide) rfl rfl g_a0 (fun h15 W15 => ?_)
        have E_a0_c15 := Exa.wr W15 E_a0_c14
        have F_offset_a0_c15 := Fld.other W15 F_offset_a0_c14 (Or.inr (slot_ne (a0 := aZ) (Or.inl (hw _ (List.mem_of_getElem? (i := 23) rfl))) (Or.inl (hw _ (List.mem_of_getElem? (i := 12) rfl))) (by decide) (t := .long) (t' := .long) (by decide) (by decide)))
        have F_byteOrderMark_a0_c15 := Fld.other W15 F_byteOrderMark_a0_c14 (Or.inr (slot_ne (a0 := aZ) (Or.inr (hw _ (List.mem_of_getElem? (i := 14) rfl))) (Or.inl (hw _ (List.mem_of_getElem? (i := 12) rfl))) (by decide) (t := .int) (t' := .long) (by decide) (by decide)))
        have Fw13_c15 := Fld.other W15 Fw13_c14 (Or.inr (slot_ne (a0 := aZ) (Or.inl (hw _ (List.mem_of_getElem? (i := 21) rfl))) (Or.inl (hw _ (List.mem_of_getElem? (i := 12) rfl))) (by decide) (t := .boolean) (t' := .long) (by decide) (by decide)))
        have Fw14_c15 := Fld.other W15 Fw14 (Or.inr (slot_ne (a0 := aZ) (Or.inl (hw _ (List.mem_of_getElem? (i := 10) rfl))) (Or.inl (hw _ (List.mem_of_getElem? (i := 12) rfl))) (by decide) (t := .int) (t' := .long) (by decide) (by decide)))
        have Fw15 := Fld.same W15 F_c14
        have K15 := Keep.wr K14 W15 (Or.inl (List.mem_of_getElem? (i := 0) rfl))
        have Z15 : n0 ≤ h15.size := Nat.le_trans Z14 (Keep.of_wr W15).1
        refine g_goto C iA_64 ?_
        refine g_aloadN C iA_101 rfl rfl ?_
        refine g_dup C iA_102 rfl ?_
        refine g_getF C iA_103 (host := "") (Or.inl (hw _ (List.mem_of_getElem? (i := 22) rfl))) Via.refl F_offset_a0_c15 ?_
        refine g_lconst C (1 : Int64) iA_106 rfl ?_
        refine g_ladd C iA_107 ?_
        refine g_putF C iA_108 (host := "") (Or.inl (hw _ (List.mem_of_getElem? (i := 22) rfl))) Via.refl F_offset_a0_c15 E_a0_c15 (Or.inl (hw _ (List.mem_of_getElem? (i := 23) rfl))) (hw _ (List.mem_of_getElem? (i := 1) rfl)) (ty := .long) (by decide) rfl rfl g_a0 (fun h16 W16 => ?_)
        have E_a0_c16 := Exa.wr W16 E_a0_c15
        have F_byteOrderMark_a0_c16 := Fld.other W16 F_byteOrderMark_a0_c15 (Or.inr (slot_ne (a0 := aZ) (Or.inr (hw _ (List.mem_of_getElem? (i := 14) rfl))) (Or.inl (hw _ (List.mem_of_getElem? (i := 23) rfl))) (by decide) (t := .int) (t' := .long) (by decide) (by decide)))
        have Fw13_c16 := Fld.other W16 Fw13_c15 (Or.inr (slot_ne (a0 := aZ) (Or.inl (hw _ (List.mem_of_getElem? (i := 21) rfl))) (Or.inl (hw _ (List.mem_of_getElem? (i := 23) rfl))) (by decide) (t := .boolean) (t' := .long) (by decide) (by decide)))
        have Fw14_c16 := Fld.other W16 Fw14_c15 (Or.inr (slot_ne (a0 := aZ) (Or.inl (hw _ (List.mem_of_getElem? (i := 10) rfl))) (Or.inl (hw _ (List.mem_of_getElem? (i := 23) rfl))) (by decide) (t := .int) (t' := .long) (by decide) (by decide)))
        have Fw15_c16 := Fld.other W16 Fw15 (Or.inr (slot_ne (a0 := aZ) (Or.inl (hw _ (List.mem_of_getElem? (i := 12) rfl))) (Or.inl (hw _ (List.mem_of_getElem? (i := 23) rfl))) (by decide) (t := .long) (t' := .long) (by decide) (by decide)))
        have Fw16 := Fld.same W16 F_offset_a0_c15
        have K16 := Keep.wr K15 W16 (Or.inl (List.mem_of_getElem? (i := 0) rfl))
        have Z16 : n0 ≤ h16.size := Nat.le_trans Z15 (Keep.of_wr W16).1
        have r0 : (fld_A_line p1 w_afterReturn_a0 w_line_a0 w_column_a0 w_offset_a0 w_byteOrderMark_a0) = (w_line_a0 + (1 : Int32)) := by simp only [fld_A_line, if_neg hc4_1, if_pos hc10_1]
        have r1 : (fld_A_column p1 w_afterReturn_a0 w_line_a0 w_column_a0 w_offset_a0 w_byteOrderMark_a0) = (1 : Int64) := by simp only [fld_A_column, if_neg hc4_1, if_pos hc10_1]
        have r2 : (fld_A_afterReturn p1 w_afterReturn_a0 w_line_a0 w_column_a0 w_offset_a0 w_byteOrderMark_a0) = (nar .boolean (vA_1 p1 w_afterReturn_a0 w_line_a0 w_column_a0 w_offset_a0 w_byteOrderMark_a0)) := by simp only [fld_A_afterReturn, if_neg hc4_1, if_pos hc10_1]
        exact g_retV C iA_111 rfl (by decide) (by decide) (show QA Z a0 p1 w_afterReturn_a0 w_line_a0 w_column_a0 w_offset_a0 w_byteOrderMark_a0 h0 n0 _ _ from by unfold QA; rw [r0, r1, r2]; exact ⟨rfl, K16, E_a0_c16, Fw14_c16, Fw15_c16, F_byteOrderMark_a0_c16, Fw13_c16, Fw16⟩)
      · refine g_icmp_ne C iA_32 (fun hc32_1 => ?_) (fun hc32_1 => ?_)
        · refine g_iconst C (1 : Int32) iA_35 rfl ?_
          refine g_goto C iA_36 ?_
          have e0 : (vA_0 p1 w_afterReturn_a0 w_line_a0 w_column_a0 w_offset_a0 w_byteOrderMark_a0) = (1 : Int32) := by simp only [vA_0, if_pos hc32_1]
          exact Go.cast J (by rw [e0])
        · refine g_iconst C (0 : Int32) iA_39 rfl ?_
          have e0 : (vA_0 p1 w_afterReturn_a0 w_line_a0 w_column_a0 w_offset_a0 w_byteOrderMark_a0) = (0 : Int32) := by simp only [vA_0, if_neg hc32_1]
          exact Go.cast J (by rw [e0])
    · refine g_aloadN C iA_13 rfl rfl ?_
      refine g_dup C iA_14 rfl ?_
      refine g_getF C iA_15 (host := "") (Or.inl (hw _ (List.mem_of_getElem? (i := 9) rfl))) Via.refl F_line_a0 ?_
      refine g_iconst C (1 : Int32) iA_18 rfl ?_
      refine g_iadd C iA_19 ?_
      refine g_putF C iA_20 (host := "") (Or.inl (hw _ (List.mem_of_getElem? (i := 9) rfl))) Via.refl F_line_a0 E_a0 (Or.inl (hw _ (List.mem_of_getElem? (i := 10) rfl))) (hw _ (List.mem_of_getElem? (i := 1) rfl)) (ty := .int) (by decide) rfl rfl g_a0 (fun h17 W17 => ?_)
      have F_afterReturn_a0_c17 := Fld.other W17 F_afterReturn_a0 (Or.inr (slot_ne (a0 := aZ) (Or.inl (hw _ (List.mem_of_getElem? (i := 21) rfl))) (Or.inl (hw _ (List.mem_of_getElem? (i := 10) rfl))) (by decide) (t := .boolean) (t' := .int) (by decide) (by decide)))
      have E_a0_c17 := Exa.wr W17 E_a0
      have F_c17 := Fld.other W17 F_column_a0 (Or.inr (slot_ne (a0 := aZ) (Or.inl (hw _ (List.mem_of_getElem? (i := 12) rfl))) (Or.inl (hw _ (List.mem_of_getElem? (i := 10) rfl))) (by decide) (t := .long) (t' := .int) (by decide) (by decide)))
      have F_offset_a0_c17 := Fld.other W17 F_offset_a0 (Or.inr (slot_ne (a0 := aZ) (Or.inl (hw _ (List.mem_of_getElem? (i := 23) rfl))) (Or.inl (hw _ (List.mem_of_getElem? (i := 10) rfl))) (by decide) (t := .long) (t' := .int) (by decide) (by decide)))
      have F_byteOrderMark_a0_c17 := Fld.other W17 F_byteOrderMark_a0 (Or.inr (slot_ne (a0 := aZ) (Or.inr (hw _ (List.mem_of_getElem? (i := 14) rfl))) (Or.inl (hw _ (List.mem_of_getElem? (i := 10) rfl))) (by decide) (t := .int) (t' := .int) (by decide) (by decide)))
      have Fw17 := Fld.same W17 F_line_a0
      have K17 := Keep.wr (Keep.refl h0 [a0]) W17 (Or.inl (List.mem_of_getElem? (i := 0) rfl))
      have Z17 : n0 ≤ h17.size := Nat.le_trans Z0 (Keep.of_wr W17).1
      refine g_aloadN C iA_23 rfl rfl ?_
      refine g_lconst C (1 : Int64) iA_24 rfl ?_
      refine g_putF C iA_25 (host := "") (Or.inl (hw _ (List.mem_of_getElem? (i := 11) rfl))) Via.refl F_c17 E_a0_c17 (Or.inl (hw _ (List.mem_of_getElem? (i := 12) rfl))) (hw _ (List.mem_of_getElem? (i := 1) rfl)) (ty := .long) (by decide) rfl rfl g_a0 (fun h18 W18 => ?_)
      have F_afterReturn_a0_c18 := Fld.other W18 F_afterReturn_a0_c17 (Or.inr (slot_ne (a0 := aZ) (Or.inl (hw _ (List.mem_of_getElem? (i := 21) rfl))) (Or.inl (hw _ (List.mem_of_getElem? (i := 12) rfl))) (by decide) (t := .boolean) (t' := .long) (by decide) (by decide)))
      have E_a0_c18 := Exa.wr W18 E_a0_c17
      have F_offset_a0_c18 := Fld.other W18 F_offset_a0_c17 (Or.inr (slot_ne (a0 := aZ) (Or.inl (hw _ (List.mem_of_getElem? (i := 23) rfl))) (Or.inl (hw _ (List.mem_of_getElem? (i := 12) rfl))) (by decide) (t := .long) (t' := .long) (by decide) (by decide)))
      have F_byteOrderMark_a0_c18 := Fld.other W18 F_byteOrderMark_a0_c17 (Or.inr (slot_ne (a0 := aZ) (Or.inr (hw _ (List.mem_of_getElem? (i := 14) rfl))) (Or.inl (hw _ (List.mem_of_getElem? (i := 12) rfl))) (by decide) (t := .int) (t' := .long) (by decide) (by decide)))
      have Fw17_c18 := Fld.other W18 Fw17 (Or.inr (slot_ne (a0 := aZ) (Or.inl (hw _ (List.mem_of_getElem? (i := 10) rfl))) (Or.inl (hw _ (List.mem_of_getElem? (i := 12) rfl))) (by decide) (t := .int) (t' := .long) (by decide) (by decide)))
      have Fw18 := Fld.same W18 F_c17
      have K18 := Keep.wr K17 W18 (Or.inl (List.mem_of_getElem? (i := 0) rfl))
      have Z18 : n0 ≤ h18.size := Nat.le_trans Z17 (Keep.of_wr W18).1
      refine g_aloadN C iA_28 rfl rfl ?_
      refine g_iloadN C iA_29 rfl ?_
      refine g_bipush C (13 : Int32) iA_30 rfl ?_
      refine Go.join (mkF m 40 #[.val (.ref a0), .val (.int p1)] [(.int (vA_0 p1 w_afterReturn_a0 w_line_a0 w_column_a0 w_offset_a0 w_byteOrderMark_a0)), (.ref a0)]) ?_ (fun J => ?_)
      · refine g_putFN C (v' := (.int (nar .boolean (vA_1 p1 w_afterReturn_a0 w_line_a0 w_column_a0 w_offset_a0 w_byteOrderMark_a0)))) iA_40 (hw _ (List.mem_of_getElem? (i := 20) rfl)) Via.refl F_afterReturn_a0_c18 E_a0_c18 (Or.inl (hw _ (List.mem_of_getElem? (i := 21) rfl))) (hw _ (List.mem_of_getElem? (i := 1) rfl)) (ty := .boolean) (by decide) rfl (fits_nar_bool _) g_a0 (fun h19 W19 => ?_)
        have E_a0_c19 := Exa.wr W19 E_a0_c18
        have F_offset_a0_c19 := Fld.other W19 F_offset_a0_c18 (Or.inr (slot_ne (a0 := aZ) (Or.inl (hw _ (List.mem_of_getElem? (i := 23) rfl))) (Or.inl (hw _ (List.mem_of_getElem? (i := 21) rfl))) (by decide) (t := .long) (t' := .boolean) (by decide) (by decide)))
        have F_byteOrderMark_a0_c19 := Fld.other W19 F_byteOrderMark_a0_c18 (Or.inr (slot_ne (a0 := aZ) (Or.inr (hw _ (List.mem_of_getElem? (i := 14) rfl))) (Or.inl (hw _ (List.mem_of_getElem? (i := 21) rfl))) (by decide) (t := .int) (t' := .boolean) (by decide) (by decide)))
        have Fw17_c19 := Fld.other W19 Fw17_c18 (Or.inr (slot_ne (a0 := aZ) (Or.inl (hw _ (List.mem_of_getElem? (i := 10) rfl))) (Or.inl (hw _ (List.mem_of_getElem? (i := 21) rfl))) (by decide) (t := .int) (t' := .boolean) (by decide) (by decide)))
        have Fw18_c19 := Fld.other W19 Fw18 (Or.inr (slot_ne (a0 := aZ) (Or.inl (hw _ (List.mem_of_getElem? (i := 12) rfl))) (Or.inl (hw _ (List.mem_of_getElem? (i := 21) rfl))) (by decide) (t := .long) (t' := .boolean) (by decide) (by decide)))
        have Fw19 := Fld.same W19 F_afterReturn_a0_c18
        have K19 := Keep.wr K18 W19 (Or.inl (List.mem_of_getElem? (i := 0) rfl))
        have Z19 : n0 ≤ h19.size := Nat.le_trans Z18 (Keep.of_wr W19).1
        refine g_iloadN C iA_43 rfl ?_
        refine g_bipush C (10 : Int32) iA_44 rfl ?_
        refine g_icmp_ne C iA_46 (fun q => absurd q hc10_1) (fun _ => ?_)
        refine g_aloadN C iA_67 rfl rfl ?_
        refine g_getF C iA_68 (host := "") (Or.inl (hw _ (List.mem_of_getElem? (i := 22) rfl))) Via.refl F_offset_a0_c19 ?_
        refine g_aloadN C iA_71 rfl rfl ?_
        refine g_getF C iA_72 (host := "") (Or.inl (hw _ (List.mem_of_getElem? (i := 13) rfl))) Via.refl F_byteOrderMark_a0_c19 ?_
        refine g_i2l C iA_75 ?_
        refine g_lcmp C iA_76 ?_
        refine g_ifl_lt C iA_77 (fun hc77_1 => ?_) (fun hc77_1 => ?_)
        · refine g_aloadN C iA_101 rfl rfl ?_
          refine g_dup C iA_102 rfl ?_
          refine g_getF C iA_103 (host := "") (Or.inl (hw _ (List.mem_of_getElem? (i := 22) rfl))) Via.refl F_offset_a0_c19 ?_
          refine g_lconst C (1 : Int64) iA_106 rfl ?_
          refine g_ladd C iA_107 ?_
          refine g_putF C iA_108 (host := "") (Or.inl (hw _ (List.mem_of_getElem? (i := 22) rfl))) Via.refl F_offset_a0_c19 E_a0_c19 (Or.inl (hw _ (List.mem_of_getElem? (i := 23) rfl))) (hw _ (List.mem_of_getElem? (i := 1) rfl)) (ty := .long) (by decide) rfl rfl g_a0 (fun h20 W20 => ?_)
          have E_a0_c20 := Exa.wr W20 E_a0_c19
          have F_byteOrderMark_a0_c20 := Fld.other W20 F_byteOrderMark_a0_c19 (Or.inr (slot_ne (a0 := aZ) (Or.inr (hw _ (List.mem_of_getElem? (i := 14) rfl))) (Or.inl (hw _ (List.mem_of_getElem? (i := 23) rfl))) (by decide) (t := .int) (t' := .long) (by decide) (by decide)))
          have Fw17_c20 := Fld.other W20 Fw17_c19 (Or.inr (slot_ne (a0 := aZ) (Or.inl (hw _ (List.mem_of_getElem? (i := 10) rfl))) (Or.inl (hw _ (List.mem_of_getElem? (i := 23) rfl))) (by decide) (t := .int) (t' := .long) (by decide) (by decide)))
          have Fw18_c20 := Fld.other W20 Fw18_c19 (Or.inr (slot_ne (a0 := aZ) (Or.inl (hw _ (List.mem_of_getElem? (i := 12) rfl))) (Or.inl (hw _ (List.mem_of_getElem? (i := 23) rfl))) (by decide) (t := .long) (t' := .long) (by decide) (by decide)))
          have Fw19_c20 := Fld.other W20 Fw19 (Or.inr (slot_ne (a0 := aZ) (Or.inl (hw _ (List.mem_of_getElem? (i := 21) rfl))) (Or.inl (hw _ (List.mem_of_getElem? (i := 23) rfl))) (by decide) (t := .boolean) (t' := .long) (by decide) (by decide)))
          have Fw20 := Fld.same W20 F_offset_a0_c19
          have K20 := Keep.wr K19 W20 (Or.inl (List.mem_of_getElem? (i := 0) rfl))
          have Z20 : n0 ≤ h20.size := Nat.le_trans Z19 (Keep.of_wr W20).1
          have r0 : (fld_A_line p1 w_afterReturn_a0 w_line_a0 w_column_a0 w_offset_a0 w_byteOrderMark_a0) = (w_line_a0 + (1 : Int32)) := by simp only [fld_A_line, if_neg hc4_1, if_neg hc10_1, if_pos hc77_1]
          have r1 : (fld_A_column p1 w_afterReturn_a0 w_line_a0 w_column_a0 w_offset_a0 w_byteOrderMark_a0) = (1 : Int64) := by simp only [fld_A_column, if_neg hc4_1, if_neg hc10_1, if_pos hc77_1]
          have r2 : (fld_A_afterReturn p1 w_afterReturn_a0 w_line_a0 w_column_a0 w_offset_a0 w_byteOrderMark_a0) = (nar .boolean (vA_1 p1 w_afterReturn_a0 w_line_a0 w_column_a0 w_offset_a0 w_byteOrderMark_a0)) := by simp only [fld_A_afterReturn, if_neg hc4_1, if_neg hc10_1, if_pos hc77_1]
          exact g_retV C iA_111 rfl (by decide) (by decide) (show QA Z a0 p1 w_afterReturn_a0 w_line_a0 w_column_a0 w_offset_a0 w_byteOrderMark_a0 h0 n0 _ _ from by unfold QA; rw [r0, r1, r2]; exact ⟨rfl, K20, E_a0_c20, Fw17_c20, Fw18_c20, F_byteOrderMark_a0_c20, Fw19_c20, Fw20⟩)
        · refine g_iloadN C iA_80 rfl ?_
          refine g_sipush C (192 : Int32) iA_81 rfl ?_
          refine g_iand C iA_84 ?_
          refine g_sipush C (128 : Int32) iA_85 rfl ?_
          refine g_icmp_eq C iA_88 (fun hc88_1 => ?_) (fun hc88_1 => ?_)
          · refine g_aloadN C iA_101 rfl rfl ?_
            refine g_dup C iA_102 rfl ?_
            refine g_getF C iA_103 (host := "") (Or.inl (hw _ (List.mem_of_getElem? (i := 22) rfl))) Via.refl F_offset_a0_c19 ?_
            refine g_lconst C (1 : Int64) iA_106 rfl ?_
            refine g_ladd C iA_107 ?_
            refine g_putF C iA_108 (host := "") (Or.inl (hw _ (List.mem_of_getElem? (i := 22) rfl))) Via.refl F_offset_a0_c19 E_a0_c19 (Or.inl (hw _ (List.mem_of_getElem? (i := 23) rfl))) (hw _ (List.mem_of_getElem? (i := 1) rfl)) (ty := .long) (by decide) rfl rfl g_a0 (fun h21 W21 => ?_)
            have E_a0_c21 := Exa.wr W21 E_a0_c19
            have F_byteOrderMark_a0_c21 := Fld.other W21 F_byteOrderMark_a0_c19 (Or.inr (slot_ne (a0 := aZ) (Or.inr (hw _ (List.mem_of_getElem? (i := 14) rfl))) (Or.inl (hw _ (List.mem_of_getElem? (i := 23) rfl))) (by decide) (t := .int) (t' := .long) (by decide) (by decide)))
            have Fw17_c21 := Fld.other W21 Fw17_c19 (Or.inr (slot_ne (a0 := aZ) (Or.inl (hw _ (List.mem_of_getElem? (i := 10) rfl))) (Or.inl (hw _ (List.mem_of_getElem? (i := 23) rfl))) (by decide) (t := .int) (t' := .long) (by decide) (by decide)))
            have Fw18_c21 := Fld.other W21 Fw18_c19 (Or.inr (slot_ne (a0 := aZ) (Or.inl (hw _ (List.mem_of_getElem? (i := 12) rfl))) (Or.inl (hw _ (List.mem_of_getElem? (i := 23) rfl))) (by decide) (t := .long) (t' := .long) (by decide) (by decide)))
            have Fw19_c21 := Fld.other W21 Fw19 (Or.inr (slot_ne (a0 := aZ) (Or.inl (hw _ (List.mem_of_getElem? (i := 21) rfl))) (Or.inl (hw _ (List.mem_of_getElem? (i := 23) rfl))) (by decide) (t := .boolean) (t' := .long) (by decide) (by decide)))
            have Fw21 := Fld.same W21 F_offset_a0_c19
            have K21 := Keep.wr K19 W21 (Or.inl (List.mem_of_getElem? (i := 0) rfl))
            have Z21 : n0 ≤ h21.size := Nat.le_trans Z19 (Keep.of_wr W21).1
            have r0 : (fld_A_line p1 w_afterReturn_a0 w_line_a0 w_column_a0 w_offset_a0 w_byteOrderMark_a0) = (w_line_a0 + (1 : Int32)) := by simp only [fld_A_line, if_neg hc4_1, if_neg hc10_1, if_neg hc77_1, if_pos hc88_1]
            have r1 : (fld_A_column p1 w_afterReturn_a0 w_line_a0 w_column_a0 w_offset_a0 w_byteOrderMark_a0) = (1 : Int64) := by simp only [fld_A_column, if_neg hc4_1, if_neg hc10_1, if_neg hc77_1, if_pos hc88_1]
            have r2 : (fld_A_afterReturn p1 w_afterReturn_a0 w_line_a0 w_column_a0 w_offset_a0 w_byteOrderMark_a0) = (nar .boolean (vA_1 p1 w_afterReturn_a0 w_line_a0 w_column_a0 w_offset_a0 w_byteOrderMark_a0)) := by simp only [fld_A_afterReturn, if_neg hc4_1, if_neg hc10_1, if_neg hc77_1, if_pos hc88_1]
            exact g_retV C iA_111 rfl (by decide) (by decide) (show QA Z a0 p1 w_afterReturn_a0 w_line_a0 w_column_a0 w_offset_a0 w_byteOrderMark_a0 h0 n0 _ _ from by unfold QA; rw [r0, r1, r2]; exact ⟨rfl, K21, E_a0_c21, Fw17_c21, Fw18_c21, F_byteOrderMark_a0_c21, Fw19_c21, Fw21⟩)
          · refine g_aloadN C iA_91 rfl rfl ?_
            refine g_dup C iA_92 rfl ?_
            refine g_getF C iA_93 (host := "") (Or.inl (hw _ (List.mem_of_getElem? (i := 11) rfl))) Via.refl Fw18_c19 ?_
            refine g_lconst C (1 : Int64) iA_96 rfl ?_
            refine g_ladd C iA_97 ?_
            refine g_putF C iA_98 (host := "") (Or.inl (hw _ (List.mem_of_getElem? (i := 11) rfl))) Via.refl Fw18_c19 E_a0_c19 (Or.inl (hw _ (List.mem_of_getElem? (i := 12) rfl))) (hw _ (List.mem_of_getElem? (i := 1) rfl)) (ty := .long) (by decide) rfl rfl g_a0 (fun h22 W22 => ?_)
            have E_a0_c22 := Exa.wr W22 E_a0_c19
            have F_offset_a0_c22 := Fld.other W22 F_offset_a0_c19 (Or.inr (slot_ne (a0 := aZ) (Or.inl (hw _ (List.mem_of_getElem? (i := 23) rfl))) (Or.inl (hw _ (List.mem_of_getElem? (i := 12) rfl))) (by decide) (t := .long) (t' := .long) (by decide) (by decide)))
            have F_byteOrderMark_a0_c22 := Fld.other W22 F_byteOrderMark_a0_c19 (Or.inr (slot_ne (a0 := aZ) (Or.inr (hw _ (List.mem_of_getElem? (i := 14) rfl))) (Or.inl (hw _ (List.mem_of_getElem? (i := 12) rfl))) (by decide) (t := .int) (t' := .long) (by decide) (by decide)))
            have Fw17_c22 := Fld.other W22 Fw17_c19 (Or.inr (slot_ne (a0 := aZ) (Or.inl (hw _ (List.mem_of_getElem? (i := 10) rfl))) (Or.inl (hw _ (List.mem_of_getElem? (i := 12) rfl))) (by decide) (t := .int) (t' := .long) (by decide) (by decide)))
            have Fw19_c22 := Fld.other W22 Fw19 (Or.inr (slot_ne (a0 := aZ) (Or.inl (hw _ (List.mem_of_getElem? (i := 21) rfl))) (Or.inl (hw _ (List.mem_of_getElem? (i := 12) rfl))) (by decide) (t := .boolean) (t' := .long) (by decide) (by decide)))
            have Fw22 := Fld.same W22 Fw18_c19
            have K22 := Keep.wr K19 W22 (Or.inl (List.mem_of_getElem? (i := 0) rfl))
            have Z22 : n0 ≤ h22.size := Nat.le_trans Z19 (Keep.of_wr W22).1
            refine g_aloadN C iA_101 rfl rfl ?_
            refine g_dup C iA_102 rfl ?_
            refine g_getF C iA_103 (host := "") (Or.inl (hw _ (List.mem_of_getElem? (i := 22) rfl))) Via.refl F_offset_a0_c22 ?_
            refine g_lconst C (1 : Int64) iA_106 rfl ?_
            refine g_ladd C iA_107 ?_
            refine g_putF C iA_108 (host := "") (Or.inl (hw _ (List.mem_of_getElem? (i := 22) rfl))) Via.refl F_offset_a0_c22 E_a0_c22 (Or.inl (hw _ (List.mem_of_getElem? (i := 23) rfl))) (hw _ (List.mem_of_getElem? (i := 1) rfl)) (ty := .long) (by decide) rfl rfl g_a0 (fun h23 W23 => ?_)
            have E_a0_c23 := Exa.wr W23 E_a0_c22
            have F_byteOrderMark_a0_c23 := Fld.other W23 F_byteOrderMark_a0_c22 (Or.inr (slot_ne (a0 := aZ) (Or.inr (hw _ (List.mem_of_getElem? (i := 14) rfl))) (Or.inl (hw _ (List.mem_of_getElem? (i := 23) rfl))) (by decide) (t := .int) (t' := .long) (by decide) (by decide)))
            have Fw17_c23 := Fld.other W23 Fw17_c22 (Or.inr (slot_ne (a0 := aZ) (Or.inl (hw _ (List.mem_of_getElem? (i := 10) rfl))) (Or.inl (hw _ (List.mem_of_getElem? (i := 23) rfl))) (by decide) (t := .int) (t' := .long) (by decide) (by decide)))
            have Fw19_c23 := Fld.other W23 Fw19_c22 (Or.inr (slot_ne (a0 := aZ) (Or.inl (hw _ (List.mem_of_getElem? (i := 21) rfl))) (Or.inl (hw _ (List.mem_of_getElem? (i := 23) rfl))) (by decide) (t := .boolean) (t' := .long) (by decide) (by decide)))
            have Fw22_c23 := Fld.other W23 Fw22 (Or.inr (slot_ne (a0 := aZ) (Or.inl (hw _ (List.mem_of_getElem? (i := 12) rfl))) (Or.inl (hw _ (List.mem_of_getElem? (i := 23) rfl))) (by decide) (t := .long) (t' := .long) (by decide) (by decide)))
            have Fw23 := Fld.same W23 F_offset_a0_c22
            have K23 := Keep.wr K22 W23 (Or.inl (List.mem_of_getElem? (i := 0) rfl))
            have Z23 : n0 ≤ h23.size := Nat.le_trans Z22 (Keep.of_wr W23).1
            have r0 : (fld_A_line p1 w_afterReturn_a0 w_line_a0 w_column_a0 w_offset_a0 w_byteOrderMark_a0) = (w_line_a0 + (1 : Int32)) := by simp only [fld_A_line, if_neg hc4_1, if_neg hc10_1, if_neg hc77_1, if_neg hc88_1]
            have r1 : (fld_A_column p1 w_afterReturn_a0 w_line_a0 w_column_a0 w_offset_a0 w_byteOrderMark_a0) = (2 : Int64) := by simp only [fld_A_column, if_neg hc4_1, if_neg hc10_1, if_neg hc77_1, if_neg hc88_1]
            have r2 : (fld_A_afterReturn p1 w_afterReturn_a0 w_line_a0 w_column_a0 w_offset_a0 w_byteOrderMark_a0) = (nar .boolean (vA_1 p1 w_afterReturn_a0 w_line_a0 w_column_a0 w_offset_a0 w_byteOrderMark_a0)) := by simp only [fld_A_afterReturn, if_neg hc4_1, if_neg hc10_1, if_neg hc77_1, if_neg hc88_1]
            exact g_retV C iA_111 rfl (by decide) (by decide) (show QA Z a0 p1 w_afterReturn_a0 w_line_a0 w_column_a0 w_offset_a0 w_byteOrderMark_a0 h0 n0 _ _ from by unfold QA; rw [r0, r1, r2]; exact ⟨rfl, K23, E_a0_c23, Fw17_c23, Fw22_c23, F_byteOrderMark_a0_c23, Fw19_c23, Fw23⟩)
      · refine g_icmp_ne C iA_32 (fun hc32_1 => ?_) (fun hc32_1 => ?_)
        · refine g_iconst C (1 : Int32) iA_35 rfl ?_
          refine g_goto C iA_36 ?_
          have e0 : (vA_0 p1 w_afterReturn_a0 w_line_a0 w_column_a0 w_offset_a0 w_byteOrderMark_a0) = (1 : Int32) := by simp only [vA_0, if_pos hc32_1]
          exact Go.cast J (by rw [e0])
        · refine g_iconst C (0 : Int32) iA_39 rfl ?_
          have e0 : (vA_0 p1 w_afterReturn_a0 w_line_a0 w_column_a0 w_offset_a0 w_byteOrderMark_a0) = (0 : Int32) := by simp only [vA_0, if_neg hc32_1]
          exact Go.cast J (by rw [e0])
theorem pn2 : plainFor (⟨"com/example/firm_input/firminput/TextPosition", "line", "()I"⟩ : MethodName) = true := by decide +kernel
theorem iL_0 : I1 prog_16_method_6_code 0 (.aload_n 0) 1 1 := ⟨(by decide +kernel), rfl⟩
theorem iL_1 : I1 prog_16_method_6_code 1 (.getfield 7) 3 4 := ⟨(by decide +kernel), rfl⟩
theorem iL_4 : I1 prog_16_method_6_code 4 (.ireturn) 1 5 := ⟨(by decide +kernel), rfl⟩
theorem efL (m : MethodId) (a0 : Addr) : entryFrame m #[(.ref a0)] 1 = mkF m 0 #[.val (.ref a0)] [] := by first | (simp [entryFrame, mkF, argsToLocals, Value.category]; done) | rfl
def QL (Z : State) (a0 : Addr) (w_line_a0 : Int32) (h0 : Heap) (n0 : Nat) (v : Option Value) (h : Heap) : Prop := v = some (.int w_line_a0) ∧ h = h0
set_option maxRecDepth 65536 in
set_option maxHeartbeats 40000000 in
theorem rmL (l : Launch) (Z : State) (aZ : Array Value) (hw : ∀ d ∈ tables_1, d.before aZ Z = true) (a0 : Addr) (w_line_a0 : Int32) (h0 : Heap) (n0 : Nat) (Z0 : n0 ≤ h0.size) (F_line_a0 : Fld Z h0 a0 "com/example/firm_input/firminput/TextPosition" "line" "I" (.int w_line_a0)) :
    Ctr l Z (⟨"com/example/firm_input/firminput/TextPosition", "line", "()I"⟩ : MethodName) prog_16_method_6_code 1 (some .int) ({ frames := 0, cells := 0, slots := 0, locals := 0 } : Room) #[(.ref a0)] h0 n0 (QL Z a0 w_line_a0 h0 n0) := by
  refine Ctr.of_go pn2 (fun m => efL m a0) ?_
  intro p e s m below meth c hnm C
  refine g_aloadN C iL_0 rfl rfl ?_
  refine g_getF C iL_1 (host := "") (Or.inl (hw _ (List.mem_of_getElem? (i := 9) rfl))) Via.refl F_line_a0 ?_
  exact g_retInt C iL_4 rfl (by decide) (by decide) ⟨rfl, rfl⟩
theorem pn3 : plainFor (⟨"com/example/firm_input/firminput/TextPosition", "column", "()J"⟩ : MethodName) = true := by decide +kernel
theorem iU_0 : I1 prog_16_method_7_code 0 (.aload_n 0) 1 1 := ⟨(by decide +kernel), rfl⟩
theorem iU_1 : I1 prog_16_method_7_code 1 (.getfield 13) 3 4 := ⟨(by decide +kernel), rfl⟩
theorem iU_4 : I1 prog_16_method_7_code 4 (.lreturn) 1 5 := ⟨(by decide +kernel), rfl⟩
theorem efU (m : MethodId) (a0 : Addr) : entryFrame m #[(.ref a0)] 1 = mkF m 0 #[.val (.ref a0)] [] := by first | (simp [entryFrame, mkF, argsToLocals, Value.category]; done) | rfl
def QU (Z : State) (a0 : Addr) (w_column_a0 : Int64) (h0 : Heap) (n0 : Nat) (v : Option Value) (h : Heap) : Prop := v = some (.long w_column_a0) ∧ h = h0
set_option maxRecDepth 65536 in
set_option maxHeartbeats 40000000 in
theorem rmU (l : Launch) (Z : State) (aZ : Array Value) (hw : ∀ d ∈ tables_1, d.before aZ Z = true) (a0 : Addr) (w_column_a0 : Int64) (h0 : Heap) (n0 : Nat) (Z0 : n0 ≤ h0.size) (F_column_a0 : Fld Z h0 a0 "com/example/firm_input/firminput/TextPosition" "column" "J" (.long w_column_a0)) :
    Ctr l Z (⟨"com/example/firm_input/firminput/TextPosition", "column", "()J"⟩ : MethodName) prog_16_method_7_code 1 (some .long) ({ frames := 0, cells := 0, slots := 0, locals := 0 } : Room) #[(.ref a0)] h0 n0 (QU Z a0 w_column_a0 h0 n0) := by
  refine Ctr.of_go pn3 (fun m => efU m a0) ?_
  intro p e s m below meth c hnm C
  refine g_aloadN C iU_0 rfl rfl ?_
  refine g_getF C iU_1 (host := "") (Or.inl (hw _ (List.mem_of_getElem? (i := 11) rfl))) Via.refl F_column_a0 ?_
  exact g_retLong C iU_4 rfl (by decide) (by decide) ⟨rfl, rfl⟩
theorem pn4 : plainFor (⟨"com/example/firm_input/firminput/TextPositionAdvancePinLaw", "step", "(IJIJZZB)Z"⟩ : MethodName) = true := by decide +kernel
theorem iS_0 : I1 method_2_code 0 (.iload 7) 2 2 := ⟨(by decide +kernel), rfl⟩
theorem iS_2 : B1 method_2_code 2 (.ifCond .eq 19) 19 21 5 := ⟨(by decide +kernel), rfl, by decide, by decide⟩
theorem iS_5 : I1 method_2_code 5 (.iload 8) 2 7 := ⟨(by decide +kernel), rfl⟩
theorem iS_7 : I1 method_2_code 7 (.sipush 192) 3 10 := ⟨(by decide +kernel), rfl⟩
theorem iS_10 : I1 method_2_code 10 (.iand) 1 11 := ⟨(by decide +kernel), rfl⟩
theorem iS_11 : I1 method_2_code 11 (.sipush 128) 3 14 := ⟨(by decide +kernel), rfl⟩
theorem iS_14 : B1 method_2_code 14 (.if_icmp .eq 7) 7 21 17 := ⟨(by decide +kernel), rfl, by decide, by decide⟩
theorem iS_17 : I1 method_2_code 17 (.iconst 1) 1 18 := ⟨(by decide +kernel), rfl⟩
theorem iS_18 : B1 method_2_code 18 (.goto 4) 4 22 21 := ⟨(by decide +kernel), rfl, by decide, by decide⟩
theorem iS_21 : I1 method_2_code 21 (.iconst 0) 1 22 := ⟨(by decide +kernel), rfl⟩
theorem iS_22 : I1 method_2_code 22 (.istore 9) 2 24 := ⟨(by decide +kernel), rfl⟩
theorem iS_24 : I1 method_2_code 24 (.iload 8) 2 26 := ⟨(by decide +kernel), rfl⟩
theorem iS_26 : I1 method_2_code 26 (.bipush 10) 2 28 := ⟨(by decide +kernel), rfl⟩
theorem iS_28 : B1 method_2_code 28 (.if_icmp .ne 23) 23 51 31 := ⟨(by decide +kernel), rfl, by decide, by decide⟩
theorem iS_31 : I1 method_2_code 31 (.iload_n 3) 1 32 := ⟨(by decide +kernel), rfl⟩
theorem iS_32 : I1 method_2_code 32 (.iload_n 0) 1 33 := ⟨(by decide +kernel), rfl⟩
theorem iS_33 : I1 method_2_code 33 (.iconst 1) 1 34 := ⟨(by decide +kernel), rfl⟩
theorem iS_34 : I1 method_2_code 34 (.iadd) 1 35 := ⟨(by decide +kernel), rfl⟩
theorem iS_35 : B1 method_2_code 35 (.if_icmp .ne 14) 14 49 38 := ⟨(by decide +kernel), rfl, by decide, by decide⟩
theorem iS_38 : I1 method_2_code 38 (.lload 4) 2 40 := ⟨(by decide +kernel), rfl⟩
theorem iS_40 : I1 method_2_code 40 (.lconst 1) 1 41 := ⟨(by decide +kernel), rfl⟩
theorem iS_41 : I1 method_2_code 41 (.lcmp) 1 42 := ⟨(by decide +kernel), rfl⟩
theorem iS_42 : B1 method_2_code 42 (.ifCond .ne 7) 7 49 45 := ⟨(by decide +kernel), rfl, by decide, by decide⟩
theorem iS_45 : I1 method_2_code 45 (.iconst 1) 1 46 := ⟨(by decide +kernel), rfl⟩
theorem iS_46 : B1 method_2_code 46 (.goto 4) 4 50 49 := ⟨(by decide +kernel), rfl, by decide, by decide⟩
theorem iS_49 : I1 method_2_code 49 (.iconst 0) 1 50 := ⟨(by decide +kernel), rfl⟩
theorem iS_50 : I1 method_2_code 50 (.ireturn) 1 51 := ⟨(by decide +kernel), rfl⟩
theorem iS_51 : I1 method_2_code 51 (.iload 6) 2 53 := ⟨(by decide +kernel), rfl⟩
theorem iS_53 : B1 method_2_code 53 (.ifCond .eq 34) 34 87 56 := ⟨(by decide +kernel), rfl, by decide, by decide⟩
theorem iS_56 : I1 method_2_code 56 (.iload_n 3) 1 57 := ⟨(by decide +kernel), rfl⟩
theorem iS_57 : I1 method_2_code 57 (.iload_n 0) 1 58 := ⟨(by decide +kernel), rfl⟩
theorem iS_58 : I1 method_2_code 58 (.iconst 1) 1 59 := ⟨(by decide +kernel), rfl⟩
theorem iS_59 : I1 method_2_code 59 (.iadd) 1 60 := ⟨(by decide +kernel), rfl⟩
theorem iS_60 : B1 method_2_code 60 (.if_icmp .ne 25) 25 85 63 := ⟨(by decide +kernel), rfl, by decide, by decide⟩
theorem iS_63 : I1 method_2_code 63 (.lload 4) 2 65 := ⟨(by decide +kernel), rfl⟩
theorem iS_65 : I1 method_2_code 65 (.iload 9) 2 67 := ⟨(by decide +kernel), rfl⟩
theorem iS_67 : B1 method_2_code 67 (.ifCond .eq 9) 9 76 70 := ⟨(by decide +kernel), rfl, by decide, by decide⟩
theorem iS_70 : I1 method_2_code 70 (.ldc2_w 7) 3 73 := ⟨(by decide +kernel), rfl⟩
theorem iS_73 : B1 method_2_code 73 (.goto 4) 4 77 76 := ⟨(by decide +kernel), rfl, by decide, by decide⟩
theorem iS_76 : I1 method_2_code 76 (.lconst 1) 1 77 := ⟨(by decide +kernel), rfl⟩
theorem iS_77 : I1 method_2_code 77 (.lcmp) 1 78 := ⟨(by decide +kernel), rfl⟩
theorem iS_78 : B1 method_2_code 78 (.ifCond .ne 7) 7 85 81 := ⟨(by decide +kernel), rfl, by decide, by decide⟩
theorem iS_81 : I1 method_2_code 81 (.iconst 1) 1 82 := ⟨(by decide +kernel), rfl⟩
theorem iS_82 : B1 method_2_code 82 (.goto 4) 4 86 85 := ⟨(by decide +kernel), rfl, by decide, by decide⟩
theorem iS_85 : I1 method_2_code 85 (.iconst 0) 1 86 := ⟨(by decide +kernel), rfl⟩
theorem iS_86 : I1 method_2_code 86 (.ireturn) 1 87 := ⟨(by decide +kernel), rfl⟩
theorem iS_87 : I1 method_2_code 87 (.iload_n 3) 1 88 := ⟨(by decide +kernel), rfl⟩
theorem iS_88 : I1 method_2_code 88 (.iload_n 0) 1 89 := ⟨(by decide +kernel), rfl⟩
theorem iS_89 : B1 method_2_code 89 (.if_icmp .ne 25) 25 114 92 := ⟨(by decide +kernel), rfl, by decide, by decide⟩
theorem iS_92 : I1 method_2_code 92 (.lload 4) 2 94 := ⟨(by decide +kernel), rfl⟩
theorem iS_94 : I1 method_2_code 94 (.lload_n 1) 1 95 := ⟨(by decide +kernel), rfl⟩
theorem iS_95 : I1 method_2_code 95 (.iload 9) 2 97 := ⟨(by decide +kernel), rfl⟩
theorem iS_97 : B1 method_2_code 97 (.ifCond .eq 7) 7 104 100 := ⟨(by decide +kernel), rfl, by decide, by decide⟩
theorem iS_100 : I1 method_2_code 100 (.lconst 1) 1 101 := ⟨(by decide +kernel), rfl⟩
theorem iS_101 : B1 method_2_code 101 (.goto 4) 4 105 104 := ⟨(by decide +kernel), rfl, by decide, by decide⟩
theorem iS_104 : I1 method_2_code 104 (.lconst 0) 1 105 := ⟨(by decide +kernel), rfl⟩
theorem iS_105 : I1 method_2_code 105 (.ladd) 1 106 := ⟨(by decide +kernel), rfl⟩
theorem iS_106 : I1 method_2_code 106 (.lcmp) 1 107 := ⟨(by decide +kernel), rfl⟩
theorem iS_107 : B1 method_2_code 107 (.ifCond .ne 7) 7 114 110 := ⟨(by decide +kernel), rfl, by decide, by decide⟩
theorem iS_110 : I1 method_2_code 110 (.iconst 1) 1 111 := ⟨(by decide +kernel), rfl⟩
theorem iS_111 : B1 method_2_code 111 (.goto 4) 4 115 114 := ⟨(by decide +kernel), rfl, by decide, by decide⟩
theorem iS_114 : I1 method_2_code 114 (.iconst 0) 1 115 := ⟨(by decide +kernel), rfl⟩
theorem iS_115 : I1 method_2_code 115 (.ireturn) 1 116 := ⟨(by decide +kernel), rfl⟩
def vS_0 (p0 : Int32) (q1 : Int64) (p2 : Int32) (q3 : Int64) (p4 : Int32) (p5 : Int32) (p6 : Int32) : Int32 := (if (p6 &&& (192 : Int32)) = (128 : Int32) then (0 : Int32) else (1 : Int32))
def vS_1 (p0 : Int32) (q1 : Int64) (p2 : Int32) (q3 : Int64) (p4 : Int32) (p5 : Int32) (p6 : Int32) : Int32 := (if p5 = (0 : Int32) then (0 : Int32) else (if (p6 &&& (192 : Int32)) = (128 : Int32) then (0 : Int32) else (1 : Int32)))
def vS_2 (p0 : Int32) (q1 : Int64) (p2 : Int32) (q3 : Int64) (p4 : Int32) (p5 : Int32) (p6 : Int32) : Int32 := (if q3 = (1 : Int64) then (1 : Int32) else (0 : Int32))
def vS_3 (p0 : Int32) (q1 : Int64) (p2 : Int32) (q3 : Int64) (p4 : Int32) (p5 : Int32) (p6 : Int32) : Int32 := (if p2 = (p0 + (1 : Int32)) then (if q3 = (1 : Int64) then (1 : Int32) else (0 : Int32)) else (0 : Int32))
def vS_4 (p0 : Int32) (q1 : Int64) (p2 : Int32) (q3 : Int64) (p4 : Int32) (p5 : Int32) (p6 : Int32) : Int64 := (if (vS_1 p0 q1 p2 q3 p4 p5 p6) = (0 : Int32) then (0 : Int64) else (1 : Int64))
def vS_5 (p0 : Int32) (q1 : Int64) (p2 : Int32) (q3 : Int64) (p4 : Int32) (p5 : Int32) (p6 : Int32) : Int32 := (if q3 = (q1 + (vS_4 p0 q1 p2 q3 p4 p5 p6)) then (1 : Int32) else (0 : Int32))
def vS_6 (p0 : Int32) (q1 : Int64) (p2 : Int32) (q3 : Int64) (p4 : Int32) (p5 : Int32) (p6 : Int32) : Int32 := (if p2 = p0 then (if q3 = (q1 + (vS_4 p0 q1 p2 q3 p4 p5 p6)) then (1 : Int32) else (0 : Int32)) else (0 : Int32))
def vS_7 (p0 : Int32) (q1 : Int64) (p2 : Int32) (q3 : Int64) (p4 : Int32) (p5 : Int32) (p6 : Int32) : Int64 := (if (vS_1 p0 q1 p2 q3 p4 p5 p6) = (0 : Int32) then (1 : Int64) else (2 : Int64))
def vS_8 (p0 : Int32) (q1 : Int64) (p2 : Int32) (q3 : Int64) (p4 : Int32) (p5 : Int32) (p6 : Int32) : Int32 := (if q3 = (vS_7 p0 q1 p2 q3 p4 p5 p6) then (1 : Int32) else (0 : Int32))
def vS_9 (p0 : Int32) (q1 : Int64) (p2 : Int32) (q3 : Int64) (p4 : Int32) (p5 : Int32) (p6 : Int32) : Int32 := (if p2 = (p0 + (1 : Int32)) then (if q3 = (vS_7 p0 q1 p2 q3 p4 p5 p6) then (1 : Int32) else (0 : Int32)) else (0 : Int32))
def ret_S (p0 : Int32) (q1 : Int64) (p2 : Int32) (q3 : Int64) (p4 : Int32) (p5 : Int32) (p6 : Int32) : Int32 := (if p6 = (10 : Int32) then (nar .boolean (vS_3 p0 q1 p2 q3 p4 p5 p6)) else (if p4 = (0 : Int32) then (nar .boolean (vS_6 p0 q1 p2 q3 p4 p5 p6)) else (nar .boolean (vS_9 p0 q1 p2 q3 p4 p5 p6))))
theorem efS (m : MethodId) (p0 : Int32) (q1 : Int64) (p2 : Int32) (q3 : Int64) (p4 : Int32) (p5 : Int32) (p6 : Int32) : entryFrame m #[(.int p0), (.long q1), (.int p2), (.long q3), (.int p4), (.int p5), (.int p6)] 10 = mkF m 0 #[.val (.int p0), .val (.long q1), .second, .val (.int p2), .val (.long q3), .second, .val (.int p4), .val (.int p5), .val (.int p6), .unset] [] := by first | (simp [entryFrame, mkF, argsToLocals, Value.category]; done) | rfl
def QS (Z : State) (p0 : Int32) (q1 : Int64) (p2 : Int32) (q3 : Int64) (p4 : Int32) (p5 : Int32) (p6 : Int32) (h0 : Heap) (n0 : Nat) (v : Option Value) (h : Heap) : Prop := v = some (.int (ret_S p0 q1 p2 q3 p4 p5 p6)) ∧ h = h0
set_option maxRecDepth 65536 in
set_option maxHeartbeats 40000000 in
theorem rmS (l : Launch) (Z : State) (aZ : Array Value) (hw : ∀ d ∈ tables_1, d.before aZ Z = true) (p0 : Int32) (q1 : Int64) (p2 : Int32) (q3 : Int64) (p4 : Int32) (p5 : Int32) (p6 : Int32) (h0 : Heap) (n0 : Nat) (Z0 : n0 ≤ h0.size) :
    Ctr l Z (⟨"com/example/firm_input/firminput/TextPositionAdvancePinLaw", "step", "(IJIJZZB)Z"⟩ : MethodName) method_2_code 10 (some .boolean) ({ frames := 0, cells := 0, slots := 0, locals := 0 } : Room) #[(.int p0), (.long q1), (.int p2), (.long q3), (.int p4), (.int p5), (.int p6)] h0 n0 (QS Z p0 q1 p2 q3 p4 p5 p6 h0 n0) := by
  refine Ctr.of_go pn4 (fun m => efS m p0 q1 p2 q3 p4 p5 p6) ?_
  intro p e s m below meth c hnm C
  refine g_iload C iS_0 rfl ?_
  refine Go.join (mkF m 22 #[.val (.int p0), .val (.long q1), .second, .val (.int p2), .val (.long q3), .second, .val (.int p4), .val (.int p5), .val (.int p6), .unset] [(.int (vS_1 p0 q1 p2 q3 p4 p5 p6))]) ?_ (fun J => ?_)
  · refine g_istore C (Ls' := #[.val (.int p0), .val (.long q1), .second, .val (.int p2), .val (.long q3), .second, .val (.int p4), .val (.int p5), .val (.int p6), .val (.int (vS_1 p0 q1 p2 q3 p4 p5 p6))]) iS_22 rfl ?_
    refine g_iload C iS_24 rfl ?_
    refine g_bipush C (10 : Int32) iS_26 rfl ?_
    refine g_icmp_ne C iS_28 (fun hc28_1 => ?_) (fun hc28_1 => ?_)
    · refine g_iloadN C iS_31 rfl ?_
      refine g_iloadN C iS_32 rfl ?_
      refine g_iconst C (1 : Int32) iS_33 rfl ?_
      refine g_iadd C iS_34 ?_
      refine Go.join (mkF m 50 #[.val (.int p0), .val (.long q1), .second, .val (.int p2), .val (.long q3), .second, .val (.int p4), .val (.int p5), .val (.int p6), .val (.int (vS_1 p0 q1 p2 q3 p4 p5 p6))] [(.int (vS_3 p0 q1 p2 q3 p4 p5 p6))]) ?_ (fun J => ?_)
      · have r0 : (ret_S p0 q1 p2 q3 p4 p5 p6) = (nar .boolean (vS_3 p0 q1 p2 q3 p4 p5 p6)) := by simp only [ret_S, if_pos hc28_1]
        exact g_retNar C (t := .boolean) iS_50 rfl (by simp) (by decide) (by decide) (show QS Z p0 q1 p2 q3 p4 p5 p6 h0 n0 _ _ from by unfold QS; rw [r0]; exact ⟨rfl, rfl⟩)
      · refine g_icmp_ne C iS_35 (fun hc35_1 => ?_) (fun hc35_1 => ?_)
        · refine g_lload C iS_38 rfl ?_
          refine g_lconst C (1 : Int64) iS_40 rfl ?_
          refine g_lcmp C iS_41 ?_
          refine g_ifl_ne C iS_42 (fun hc42_1 => ?_) (fun hc42_1 => ?_)
          · refine g_iconst C (1 : Int32) iS_45 rfl ?_
            refine g_goto C iS_46 ?_
            have e0 : (vS_3 p0 q1 p2 q3 p4 p5 p6) = (1 : Int32) := by simp only [vS_3, if_pos hc35_1, if_pos hc42_1]
            exact Go.cast J (by rw [e0])
          · refine g_iconst C (0 : Int32) iS_49 rfl ?_
            have e0 : (vS_3 p0 q1 p2 q3 p4 p5 p6) = (0 : Int32) := by simp only [vS_3, if_pos hc35_1, if_neg hc42_1]
            exact Go.cast J (by rw [e0])
        · refine g_iconst C (0 : Int32) iS_49 rfl ?_
          have e0 : (vS_3 p0 q1 p2 q3 p4 p5 p6) = (0 : Int32) := by simp only [vS_3, if_neg hc35_1]
          exact Go.cast J (by rw [e0])
    · refine g_iload C iS_51 rfl ?_
      refine g_if_eq C iS_53 (fun hc53_1 => ?_) (fun hc53_1 => ?_)
      · refine g_iloadN C iS_87 rfl ?_
        refine g_iloadN C iS_88 rfl ?_
        refine Go.join (mkF m 115 #[.val (.int p0), .val (.long q1), .second, .val (.int p2), .val (.long q3), .second, .val (.int p4), .val (.int p5), .val (.int p6), .val (.int (vS_1 p0 q1 p2 q3 p4 p5 p6))] [(.int (vS_6 p0 q1 p2 q3 p4 p5 p6))]) ?_ (fun J => ?_)
        · have r0 : (ret_S p0 q1 p2 q3 p4 p5 p6) = (nar .boolean (vS_6 p0 q1 p2 q3 p4 p5 p6)) := by simp only [ret_S, if_neg hc28_1, if_pos hc53_1]
          exact g_retNar C (t := .boolean) iS_115 rfl (by simp) (by decide) (by decide) (show QS Z p0 q1 p2 q3 p4 p5 p6 h0 n0 _ _ from by unfold QS; rw [r0]; exact ⟨rfl, rfl⟩)
        · refine g_icmp_ne C iS_89 (fun hc89_1 => ?_) (fun hc89_1 => ?_)
          · refine g_lload C iS_92 rfl ?_
            refine g_lloadN C iS_94 rfl ?_
            refine g_iload C iS_95 rfl ?_
            refine Go.join (mkF m 105 #[.val (.int p0), .val (.long q1), .second, .val (.int p2), .val (.long q3), .second, .val (.int p4), .val (.int p5), .val (.int p6), .val (.int (vS_1 p0 q1 p2 q3 p4 p5 p6))] [(.long (vS_4 p0 q1 p2 q3 p4 p5 p6)), (.long q1), (.long q3)]) ?_ (fun J => ?_)
            · refine g_ladd C iS_105 ?_
              refine g_lcmp C iS_106 ?_
              refine g_ifl_ne C iS_107 (fun hc107_1 => ?_) (fun hc107_1 => ?_)
              · refine g_iconst C (1 : Int32) iS_110 rfl ?_
                refine g_goto C iS_111 ?_
                have e0 : (vS_6 p0 q1 p2 q3 p4 p5 p6) = (1 : Int32) := by simp only [vS_6, if_pos hc89_1, if_pos hc107_1]
                exact Go.cast J (by rw [e0])
              · refine g_iconst C (0 : Int32) iS_114 rfl ?_
                have e0 : (vS_6 p0 q1 p2 q3 p4 p5 p6) = (0 : Int32) := by simp only [vS_6, if_pos hc89_1, if_neg hc107_1]
                exact Go.cast J (by rw [e0])
            · refine g_if_eq C iS_97 (fun hc97_1 => ?_) (fun hc97_1 => ?_)
              · refine g_lconst C (0 : Int64) iS_104 rfl ?_
                have e0 : (vS_4 p0 q1 p2 q3 p4 p5 p6) = (0 : Int64) := by simp only [vS_4, if_pos hc97_1]
                exact Go.cast J (by rw [e0])
              · refine g_lconst C (1 : Int64) iS_100 rfl ?_
                refine g_goto C iS_101 ?_
                have e0 : (vS_4 p0 q1 p2 q3 p4 p5 p6) = (1 : Int64) := by simp only [vS_4, if_neg hc97_1]
                exact Go.cast J (by rw [e0])
          · refine g_iconst C (0 : Int32) iS_114 rfl ?_
            have e0 : (vS_6 p0 q1 p2 q3 p4 p5 p6) = (0 : Int32) := by simp only [vS_6, if_neg hc89_1]
            exact Go.cast J (by rw [e0])
      · refine g_iloadN C iS_56 rfl ?_
        refine g_iloadN C iS_57 rfl ?_
        refine g_iconst C (1 : Int32) iS_58 rfl ?_
        refine g_iadd C iS_59 ?_
        refine Go.join (mkF m 86 #[.val (.int p0), .val (.long q1), .second, .val (.int p2), .val (.long q3), .second, .val (.int p4), .val (.int p5), .val (.int p6), .val (.int (vS_1 p0 q1 p2 q3 p4 p5 p6))] [(.int (vS_9 p0 q1 p2 q3 p4 p5 p6))]) ?_ (fun J => ?_)
        · have r0 : (ret_S p0 q1 p2 q3 p4 p5 p6) = (nar .boolean (vS_9 p0 q1 p2 q3 p4 p5 p6)) := by simp only [ret_S, if_neg hc28_1, if_neg hc53_1]
          exact g_retNar C (t := .boolean) iS_86 rfl (by simp) (by decide) (by decide) (show QS Z p0 q1 p2 q3 p4 p5 p6 h0 n0 _ _ from by unfold QS; rw [r0]; exact ⟨rfl, rfl⟩)
        · refine g_icmp_ne C iS_60 (fun hc60_1 => ?_) (fun hc60_1 => ?_)
          · refine g_lload C iS_63 rfl ?_
            refine g_iload C iS_65 rfl ?_
            refine Go.join (mkF m 77 #[.val (.int p0), .val (.long q1), .second, .val (.int p2), .val (.long q3), .second, .val (.int p4), .val (.int p5), .val (.int p6), .val (.int (vS_1 p0 q1 p2 q3 p4 p5 p6))] [(.long (vS_7 p0 q1 p2 q3 p4 p5 p6)), (.long q3)]) ?_ (fun J => ?_)
            · refine g_lcmp C iS_77 ?_
              refine g_ifl_ne C iS_78 (fun hc78_1 => ?_) (fun hc78_1 => ?_)
              · refine g_iconst C (1 : Int32) iS_81 rfl ?_
                refine g_goto C iS_82 ?_
                have e0 : (vS_9 p0 q1 p2 q3 p4 p5 p6) = (1 : Int32) := by simp only [vS_9, if_pos hc60_1, if_pos hc78_1]
                exact Go.cast J (by rw [e0])
              · refine g_iconst C (0 : Int32) iS_85 rfl ?_
                have e0 : (vS_9 p0 q1 p2 q3 p4 p5 p6) = (0 : Int32) := by simp only [vS_9, if_pos hc60_1, if_neg hc78_1]
                exact Go.cast J (by rw [e0])
            · refine g_if_eq C iS_67 (fun hc67_1 => ?_) (fun hc67_1 => ?_)
              · refine g_lconst C (1 : Int64) iS_76 rfl ?_
                have e0 : (vS_7 p0 q1 p2 q3 p4 p5 p6) = (1 : Int64) := by simp only [vS_7, if_pos hc67_1]
                exact Go.cast J (by rw [e0])
              · refine g_ldc2Long C iS_70 (hw _ (List.mem_of_getElem? (i := 44) rfl)) ?_
                refine g_goto C iS_73 ?_
                have e0 : (vS_7 p0 q1 p2 q3 p4 p5 p6) = (2 : Int64) := by simp only [vS_7, if_neg hc67_1]
                exact Go.cast J (by rw [e0])
          · refine g_iconst C (0 : Int32) iS_85 rfl ?_
            have e0 : (vS_9 p0 q1 p2 q3 p4 p5 p6) = (0 : Int32) := by simp only [vS_9, if_neg hc60_1]
            exact Go.cast J (by rw [e0])
  · refine g_if_eq C iS_2 (fun hc2_1 => ?_) (fun hc2_1 => ?_)
    · refine g_iconst C (0 : Int32) iS_21 rfl ?_
      have e0 : (vS_1 p0 q1 p2 q3 p4 p5 p6) = (0 : Int32) := by simp only [vS_1, if_pos hc2_1]
      exact Go.cast J (by rw [e0])
    · refine g_iload C iS_5 rfl ?_
      refine g_sipush C (192 : Int32) iS_7 rfl ?_
      refine g_iand C iS_10 ?_
      refine g_sipush C (128 : Int32) iS_11 rfl ?_
      refine g_icmp_eq C iS_14 (fun hc14_1 => ?_) (fun hc14_1 => ?_)
      · refine g_iconst C (0 : Int32) iS_21 rfl ?_
        have e0 : (vS_1 p0 q1 p2 q3 p4 p5 p6) = (0 : Int32) := by simp only [vS_1, if_neg hc2_1, if_pos hc14_1]
        exact Go.cast J (by rw [e0])
      · refine g_iconst C (1 : Int32) iS_17 rfl ?_
        refine g_goto C iS_18 ?_
        have e0 : (vS_1 p0 q1 p2 q3 p4 p5 p6) = (1 : Int32) := by simp only [vS_1, if_neg hc2_1, if_neg hc14_1]
        exact Go.cast J (by rw [e0])
theorem pn5 : plainFor (⟨"com/example/firm_input/firminput/TextPosition", "offset", "()J"⟩ : MethodName) = true := by decide +kernel
theorem iO_0 : I1 prog_16_method_5_code 0 (.aload_n 0) 1 1 := ⟨(by decide +kernel), rfl⟩
theorem iO_1 : I1 prog_16_method_5_code 1 (.getfield 23) 3 4 := ⟨(by decide +kernel), rfl⟩
theorem iO_4 : I1 prog_16_method_5_code 4 (.lreturn) 1 5 := ⟨(by decide +kernel), rfl⟩
theorem efO (m : MethodId) (a0 : Addr) : entryFrame m #[(.ref a0)] 1 = mkF m 0 #[.val (.ref a0)] [] := by first | (simp [entryFrame, mkF, argsToLocals, Value.category]; done) | rfl
def QO (Z : State) (a0 : Addr) (w_offset_a0 : Int64) (h0 : Heap) (n0 : Nat) (v : Option Value) (h : Heap) : Prop := v = some (.long w_offset_a0) ∧ h = h0
set_option maxRecDepth 65536 in
set_option maxHeartbeats 40000000 in
theorem rmO (l : Launch) (Z : State) (aZ : Array Value) (hw : ∀ d ∈ tables_1, d.before aZ Z = true) (a0 : Addr) (w_offset_a0 : Int64) (h0 : Heap) (n0 : Nat) (Z0 : n0 ≤ h0.size) (F_offset_a0 : Fld Z h0 a0 "com/example/firm_input/firminput/TextPosition" "offset" "J" (.long w_offset_a0)) :
    Ctr l Z (⟨"com/example/firm_input/firminput/TextPosition", "offset", "()J"⟩ : MethodName) prog_16_method_5_code 1 (some .long) ({ frames := 0, cells := 0, slots := 0, locals := 0 } : Room) #[(.ref a0)] h0 n0 (QO Z a0 w_offset_a0 h0 n0) := by
  refine Ctr.of_go pn5 (fun m => efO m a0) ?_
  intro p e s m below meth c hnm C
  refine g_aloadN C iO_0 rfl rfl ?_
  refine g_getF C iO_1 (host := "") (Or.inl (hw _ (List.mem_of_getElem? (i := 22) rfl))) Via.refl F_offset_a0 ?_
  exact g_retLong C iO_4 rfl (by decide) (by decide) ⟨rfl, rfl⟩
theorem own_step (nx af ln bom pcr pb : Int32) (co off : Int64) (h1 : pcr = 0 ↔ af = 0) (h2 : pb = 0 ↔ off < bom.toInt64) :
    ret_S ln co (fld_A_line nx af ln co off bom) (fld_A_column nx af ln co off bom) pcr pb nx = 1 := by
  simp only [ret_S, vS_3, vS_6, vS_9, vS_4, vS_7, vS_1, fld_A_line, fld_A_column, h1, h2]
  by_cases a : nx = 10
  · have a' := eq_true a
    by_cases b : af = 0
    · have b' := eq_true b
      simp only [a', b', if_true]; rfl
    · have b' := eq_false b
      simp only [a', b', if_true, if_false]; rfl
  · have a' := eq_false a
    by_cases b : af = 0 <;> by_cases c : off < bom.toInt64 <;> by_cases d : (nx &&& (192 : Int32)) = (128 : Int32)
    all_goals
      first | (have b' := eq_false b) | (have b' := eq_true b)
      first | (have c' := eq_false c) | (have c' := eq_true c)
      first | (have d' := eq_false d) | (have d' := eq_true d)
      simp only [a', b', c', d', if_true, if_false, Int64.add_zero, (by decide : ((0 : Int32) = 0) = True), (by decide : ((1 : Int32) = 0) = False)]
      rfl
theorem own_ofs (k : Int32) (k' : Int64) (hk : k'.toInt = k.toInt) (bom : Int32) : ((if k < bom then (0 : Int32) else (1 : Int32)) = 0) ↔ k' < bom.toInt64 := by
  simp only [Int64.lt_iff_toInt_lt, c_i2l, hk, ← Int32.lt_iff_toInt_lt]
  by_cases h : k < bom
  · rw [if_pos h]; exact ⟨fun _ => h, fun _ => rfl⟩
  · rw [if_neg h]; exact ⟨fun q => absurd q (by decide), fun q => absurd q h⟩
theorem own_cr (nx af ln bom : Int32) (co off : Int64) : ((if nx = (13 : Int32) then (1 : Int32) else (0 : Int32)) = 0) ↔ fld_A_afterReturn nx af ln co off bom = 0 := by
  simp only [fld_A_afterReturn, vA_1, vA_0]
  by_cases h : nx = 13
  · simp only [if_pos h]; decide
  · simp only [if_neg h]; decide
theorem pd0 : parseMethodDescriptor "(I)V" = some ⟨[.int], none⟩ := by decide +kernel
theorem pd1 : parseMethodDescriptor "(B)V" = some ⟨[.byte], none⟩ := by decide +kernel
theorem pd2 : parseMethodDescriptor "()I" = some ⟨[], some .int⟩ := by decide +kernel
theorem pd3 : parseMethodDescriptor "()J" = some ⟨[], some .long⟩ := by decide +kernel
theorem pd4 : parseMethodDescriptor "(IJIJZZB)Z" = some ⟨[.int, .long, .int, .long, .boolean, .boolean, .byte], some .boolean⟩ := by decide +kernel
theorem pn6 : plainFor (⟨"com/example/firm_input/firminput/TextPositionAdvancePinLaw", "law", "(IIIII)Z"⟩ : MethodName) = true := by decide +kernel
theorem iM_0 : I1 code 0 (.iload_n 0) 1 1 := ⟨at_0, rfl⟩
theorem iM_1 : I1 code 1 (.iconst 1) 1 2 := ⟨at_1, rfl⟩
theorem iM_2 : I1 code 2 (.iand) 1 3 := ⟨at_2, rfl⟩
theorem iM_3 : I1 code 3 (.iconst 3) 1 4 := ⟨at_3, rfl⟩
theorem iM_4 : I1 code 4 (.imul) 1 5 := ⟨at_4, rfl⟩
theorem iM_5 : I1 code 5 (.istore 5) 2 7 := ⟨at_5, rfl⟩
theorem iM_7 : I1 code 7 (.iload_n 1) 1 8 := ⟨at_7, rfl⟩
theorem iM_8 : I1 code 8 (.i2b) 1 9 := ⟨at_8, rfl⟩
theorem iM_9 : I1 code 9 (.istore 6) 2 11 := ⟨at_9, rfl⟩
theorem iM_11 : I1 code 11 (.iload_n 2) 1 12 := ⟨at_11, rfl⟩
theorem iM_12 : I1 code 12 (.i2b) 1 13 := ⟨at_12, rfl⟩
theorem iM_13 : I1 code 13 (.istore 7) 2 15 := ⟨at_13, rfl⟩
theorem iM_15 : I1 code 15 (.iload_n 3) 1 16 := ⟨at_15, rfl⟩
theorem iM_16 : I1 code 16 (.i2b) 1 17 := ⟨at_16, rfl⟩
theorem iM_17 : I1 code 17 (.istore 8) 2 19 := ⟨at_17, rfl⟩
theorem iM_19 : I1 code 19 (.iload 4) 2 21 := ⟨at_19, rfl⟩
theorem iM_21 : I1 code 21 (.i2b) 1 22 := ⟨at_21, rfl⟩
theorem iM_22 : I1 code 22 (.istore 9) 2 24 := ⟨at_22, rfl⟩
theorem iM_24 : I1 code 24 (.new 9) 3 27 := ⟨at_24, rfl⟩
theorem iM_27 : I1 code 27 (.dup) 1 28 := ⟨at_27, rfl⟩
theorem iM_28 : I1 code 28 (.iload 5) 2 30 := ⟨at_28, rfl⟩
theorem iM_30 : I1 code 30 (.invokespecial 11) 3 33 := ⟨at_30, rfl⟩
theorem iM_33 : I1 code 33 (.astore 10) 2 35 := ⟨at_33, rfl⟩
theorem iM_35 : I1 code 35 (.aload 10) 2 37 := ⟨at_35, rfl⟩
theorem iM_37 : I1 code 37 (.iload 6) 2 39 := ⟨at_37, rfl⟩
theorem iM_39 : I1 code 39 (.invokevirtual 14) 3 42 := ⟨at_39, rfl⟩
theorem iM_42 : I1 code 42 (.aload 10) 2 44 := ⟨at_42, rfl⟩
theorem iM_44 : I1 code 44 (.invokevirtual 18) 3 47 := ⟨at_44, rfl⟩
theorem iM_47 : I1 code 47 (.istore 11) 2 49 := ⟨at_47, rfl⟩
theorem iM_49 : I1 code 49 (.aload 10) 2 51 := ⟨at_49, rfl⟩
theorem iM_51 : I1 code 51 (.invokevirtual 22) 3 54 := ⟨at_51, rfl⟩
theorem iM_54 : I1 code 54 (.lstore 12) 2 56 := ⟨at_54, rfl⟩
theorem iM_56 : I1 code 56 (.iconst 1) 1 57 := ⟨at_56, rfl⟩
theorem iM_57 : I1 code 57 (.lconst 1) 1 58 := ⟨at_57, rfl⟩
theorem iM_58 : I1 code 58 (.iload 11) 2 60 := ⟨at_58, rfl⟩
theorem iM_60 : I1 code 60 (.lload 12) 2 62 := ⟨at_60, rfl⟩
theorem iM_62 : I1 code 62 (.iconst 0) 1 63 := ⟨at_62, rfl⟩
theorem iM_63 : I1 code 63 (.iconst 0) 1 64 := ⟨at_63, rfl⟩
theorem iM_64 : I1 code 64 (.iload 5) 2 66 := ⟨at_64, rfl⟩
theorem iM_66 : B1 code 66 (.if_icmp .lt 7) 7 73 69 := ⟨at_66, rfl, by decide, by decide⟩
theorem iM_69 : I1 code 69 (.iconst 1) 1 70 := ⟨at_69, rfl⟩
theorem iM_70 : B1 code 70 (.goto 4) 4 74 73 := ⟨at_70, rfl, by decide, by decide⟩
theorem iM_73 : I1 code 73 (.iconst 0) 1 74 := ⟨at_73, rfl⟩
theorem iM_74 : I1 code 74 (.iload 6) 2 76 := ⟨at_74, rfl⟩
theorem iM_76 : I1 code 76 (.invokestatic 26) 3 79 := ⟨at_76, rfl⟩
theorem iM_79 : I1 code 79 (.istore 14) 2 81 := ⟨at_79, rfl⟩
theorem iM_81 : I1 code 81 (.aload 10) 2 83 := ⟨at_81, rfl⟩
theorem iM_83 : I1 code 83 (.iload 7) 2 85 := ⟨at_83, rfl⟩
theorem iM_85 : I1 code 85 (.invokevirtual 14) 3 88 := ⟨at_85, rfl⟩
theorem iM_88 : I1 code 88 (.aload 10) 2 90 := ⟨at_88, rfl⟩
theorem iM_90 : I1 code 90 (.invokevirtual 18) 3 93 := ⟨at_90, rfl⟩
theorem iM_93 : I1 code 93 (.istore 15) 2 95 := ⟨at_93, rfl⟩
theorem iM_95 : I1 code 95 (.aload 10) 2 97 := ⟨at_95, rfl⟩
theorem iM_97 : I1 code 97 (.invokevirtual 22) 3 100 := ⟨at_97, rfl⟩
theorem iM_100 : I1 code 100 (.lstore 16) 2 102 := ⟨at_100, rfl⟩
theorem iM_102 : I1 code 102 (.iload 14) 2 104 := ⟨at_102, rfl⟩
theorem iM_104 : B1 code 104 (.ifCond .eq 46) 46 150 107 := ⟨at_104, rfl, by decide, by decide⟩
theorem iM_107 : I1 code 107 (.iload 11) 2 109 := ⟨at_107, rfl⟩
theorem iM_109 : I1 code 109 (.lload 12) 2 111 := ⟨at_109, rfl⟩
theorem iM_111 : I1 code 111 (.iload 15) 2 113 := ⟨at_111, rfl⟩
theorem iM_113 : I1 code 113 (.lload 16) 2 115 := ⟨at_113, rfl⟩
theorem iM_115 : I1 code 115 (.iload 6) 2 117 := ⟨at_115, rfl⟩
theorem iM_117 : I1 code 117 (.bipush 13) 2 119 := ⟨at_117, rfl⟩
theorem iM_119 : B1 code 119 (.if_icmp .ne 7) 7 126 122 := ⟨at_119, rfl, by decide, by decide⟩
theorem iM_122 : I1 code 122 (.iconst 1) 1 123 := ⟨at_122, rfl⟩
theorem iM_123 : B1 code 123 (.goto 4) 4 127 126 := ⟨at_123, rfl, by decide, by decide⟩
theorem iM_126 : I1 code 126 (.iconst 0) 1 127 := ⟨at_126, rfl⟩
theorem iM_127 : I1 code 127 (.iconst 1) 1 128 := ⟨at_127, rfl⟩
theorem iM_128 : I1 code 128 (.iload 5) 2 130 := ⟨at_128, rfl⟩
theorem iM_130 : B1 code 130 (.if_icmp .lt 7) 7 137 133 := ⟨at_130, rfl, by decide, by decide⟩
theorem iM_133 : I1 code 133 (.iconst 1) 1 134 := ⟨at_133, rfl⟩
theorem iM_134 : B1 code 134 (.goto 4) 4 138 137 := ⟨at_134, rfl, by decide, by decide⟩
theorem iM_137 : I1 code 137 (.iconst 0) 1 138 := ⟨at_137, rfl⟩
theorem iM_138 : I1 code 138 (.iload 7) 2 140 := ⟨at_138, rfl⟩
theorem iM_140 : I1 code 140 (.invokestatic 26) 3 143 := ⟨at_140, rfl⟩
theorem iM_143 : B1 code 143 (.ifCond .eq 7) 7 150 146 := ⟨at_143, rfl, by decide, by decide⟩
theorem iM_146 : I1 code 146 (.iconst 1) 1 147 := ⟨at_146, rfl⟩
theorem iM_147 : B1 code 147 (.goto 4) 4 151 150 := ⟨at_147, rfl, by decide, by decide⟩
theorem iM_150 : I1 code 150 (.iconst 0) 1 151 := ⟨at_150, rfl⟩
theorem iM_151 : I1 code 151 (.istore 14) 2 153 := ⟨at_151, rfl⟩
theorem iM_153 : I1 code 153 (.aload 10) 2 155 := ⟨at_153, rfl⟩
theorem iM_155 : I1 code 155 (.iload 8) 2 157 := ⟨at_155, rfl⟩
theorem iM_157 : I1 code 157 (.invokevirtual 14) 3 160 := ⟨at_157, rfl⟩
theorem iM_160 : I1 code 160 (.aload 10) 2 162 := ⟨at_160, rfl⟩
theorem iM_162 : I1 code 162 (.invokevirtual 18) 3 165 := ⟨at_162, rfl⟩
theorem iM_165 : I1 code 165 (.istore 18) 2 167 := ⟨at_165, rfl⟩
theorem iM_167 : I1 code 167 (.aload 10) 2 169 := ⟨at_167, rfl⟩
theorem iM_169 : I1 code 169 (.invokevirtual 22) 3 172 := ⟨at_169, rfl⟩
theorem iM_172 : I1 code 172 (.lstore 19) 2 174 := ⟨at_172, rfl⟩
theorem iM_174 : I1 code 174 (.iload 14) 2 176 := ⟨at_174, rfl⟩
theorem iM_176 : B1 code 176 (.ifCond .eq 46) 46 222 179 := ⟨at_176, rfl, by decide, by decide⟩
theorem iM_179 : I1 code 179 (.iload 15) 2 181 := ⟨at_179, rfl⟩
theorem iM_181 : I1 code 181 (.lload 16) 2 183 := ⟨at_181, rfl⟩
theorem iM_183 : I1 code 183 (.iload 18) 2 185 := ⟨at_183, rfl⟩
theorem iM_185 : I1 code 185 (.lload 19) 2 187 := ⟨at_185, rfl⟩
theorem iM_187 : I1 code 187 (.iload 7) 2 189 := ⟨at_187, rfl⟩
theorem iM_189 : I1 code 189 (.bipush 13) 2 191 := ⟨at_189, rfl⟩
theorem iM_191 : B1 code 191 (.if_icmp .ne 7) 7 198 194 := ⟨at_191, rfl, by decide, by decide⟩
theorem iM_194 : I1 code 194 (.iconst 1) 1 195 := ⟨at_194, rfl⟩
theorem iM_195 : B1 code 195 (.goto 4) 4 199 198 := ⟨at_195, rfl, by decide, by decide⟩
theorem iM_198 : I1 code 198 (.iconst 0) 1 199 := ⟨at_198, rfl⟩
theorem iM_199 : I1 code 199 (.iconst 2) 1 200 := ⟨at_199, rfl⟩
theorem iM_200 : I1 code 200 (.iload 5) 2 202 := ⟨at_200, rfl⟩
theorem iM_202 : B1 code 202 (.if_icmp .lt 7) 7 209 205 := ⟨at_202, rfl, by decide, by decide⟩
theorem iM_205 : I1 code 205 (.iconst 1) 1 206 := ⟨at_205, rfl⟩
theorem iM_206 : B1 code 206 (.goto 4) 4 210 209 := ⟨at_206, rfl, by decide, by decide⟩
theorem iM_209 : I1 code 209 (.iconst 0) 1 210 := ⟨at_209, rfl⟩
theorem iM_210 : I1 code 210 (.iload 8) 2 212 := ⟨at_210, rfl⟩
theorem iM_212 : I1 code 212 (.invokestatic 26) 3 215 := ⟨at_212, rfl⟩
theorem iM_215 : B1 code 215 (.ifCond .eq 7) 7 222 218 := ⟨at_215, rfl, by decide, by decide⟩
theorem iM_218 : I1 code 218 (.iconst 1) 1 219 := ⟨at_218, rfl⟩
theorem iM_219 : B1 code 219 (.goto 4) 4 223 222 := ⟨at_219, rfl, by decide, by decide⟩
theorem iM_222 : I1 code 222 (.iconst 0) 1 223 := ⟨at_222, rfl⟩
theorem iM_223 : I1 code 223 (.istore 14) 2 225 := ⟨at_223, rfl⟩
theorem iM_225 : I1 code 225 (.aload 10) 2 227 := ⟨at_225, rfl⟩
theorem iM_227 : I1 code 227 (.iload 9) 2 229 := ⟨at_227, rfl⟩
theorem iM_229 : I1 code 229 (.invokevirtual 14) 3 232 := ⟨at_229, rfl⟩
theorem iM_232 : I1 code 232 (.aload 10) 2 234 := ⟨at_232, rfl⟩
theorem iM_234 : I1 code 234 (.invokevirtual 18) 3 237 := ⟨at_234, rfl⟩
theorem iM_237 : I1 code 237 (.istore 21) 2 239 := ⟨at_237, rfl⟩
theorem iM_239 : I1 code 239 (.aload 10) 2 241 := ⟨at_239, rfl⟩
theorem iM_241 : I1 code 241 (.invokevirtual 22) 3 244 := ⟨at_241, rfl⟩
theorem iM_244 : I1 code 244 (.lstore 22) 2 246 := ⟨at_244, rfl⟩
theorem iM_246 : I1 code 246 (.iload 14) 2 248 := ⟨at_246, rfl⟩
theorem iM_248 : B1 code 248 (.ifCond .eq 46) 46 294 251 := ⟨at_248, rfl, by decide, by decide⟩
theorem iM_251 : I1 code 251 (.iload 18) 2 253 := ⟨at_251, rfl⟩
theorem iM_253 : I1 code 253 (.lload 19) 2 255 := ⟨at_253, rfl⟩
theorem iM_255 : I1 code 255 (.iload 21) 2 257 := ⟨at_255, rfl⟩
theorem iM_257 : I1 code 257 (.lload 22) 2 259 := ⟨at_257, rfl⟩
theorem iM_259 : I1 code 259 (.iload 8) 2 261 := ⟨at_259, rfl⟩
theorem iM_261 : I1 code 261 (.bipush 13) 2 263 := ⟨at_261, rfl⟩
theorem iM_263 : B1 code 263 (.if_icmp .ne 7) 7 270 266 := ⟨at_263, rfl, by decide, by decide⟩
theorem iM_266 : I1 code 266 (.iconst 1) 1 267 := ⟨at_266, rfl⟩
theorem iM_267 : B1 code 267 (.goto 4) 4 271 270 := ⟨at_267, rfl, by decide, by decide⟩
theorem iM_270 : I1 code 270 (.iconst 0) 1 271 := ⟨at_270, rfl⟩
theorem iM_271 : I1 code 271 (.iconst 3) 1 272 := ⟨at_271, rfl⟩
theorem iM_272 : I1 code 272 (.iload 5) 2 274 := ⟨at_272, rfl⟩
theorem iM_274 : B1 code 274 (.if_icmp .lt 7) 7 281 277 := ⟨at_274, rfl, by decide, by decide⟩
theorem iM_277 : I1 code 277 (.iconst 1) 1 278 := ⟨at_277, rfl⟩
theorem iM_278 : B1 code 278 (.goto 4) 4 282 281 := ⟨at_278, rfl, by decide, by decide⟩
theorem iM_281 : I1 code 281 (.iconst 0) 1 282 := ⟨at_281, rfl⟩
theorem iM_282 : I1 code 282 (.iload 9) 2 284 := ⟨at_282, rfl⟩
theorem iM_284 : I1 code 284 (.invokestatic 26) 3 287 := ⟨at_284, rfl⟩
theorem iM_287 : B1 code 287 (.ifCond .eq 7) 7 294 290 := ⟨at_287, rfl, by decide, by decide⟩
theorem iM_290 : I1 code 290 (.iconst 1) 1 291 := ⟨at_290, rfl⟩
theorem iM_291 : B1 code 291 (.goto 4) 4 295 294 := ⟨at_291, rfl, by decide, by decide⟩
theorem iM_294 : I1 code 294 (.iconst 0) 1 295 := ⟨at_294, rfl⟩
theorem iM_295 : I1 code 295 (.istore 14) 2 297 := ⟨at_295, rfl⟩
theorem iM_297 : I1 code 297 (.iload 14) 2 299 := ⟨at_297, rfl⟩
theorem iM_299 : B1 code 299 (.ifCond .eq 19) 19 318 302 := ⟨at_299, rfl, by decide, by decide⟩
theorem iM_302 : I1 code 302 (.aload 10) 2 304 := ⟨at_302, rfl⟩
theorem iM_304 : I1 code 304 (.invokevirtual 32) 3 307 := ⟨at_304, rfl⟩
theorem iM_307 : I1 code 307 (.ldc2_w 35) 3 310 := ⟨at_307, rfl⟩
theorem iM_310 : I1 code 310 (.lcmp) 1 311 := ⟨at_310, rfl⟩
theorem iM_311 : B1 code 311 (.ifCond .ne 7) 7 318 314 := ⟨at_311, rfl, by decide, by decide⟩
theorem iM_314 : I1 code 314 (.iconst 1) 1 315 := ⟨at_314, rfl⟩
theorem iM_315 : B1 code 315 (.goto 4) 4 319 318 := ⟨at_315, rfl, by decide, by decide⟩
theorem iM_318 : I1 code 318 (.iconst 0) 1 319 := ⟨at_318, rfl⟩
theorem iM_319 : I1 code 319 (.ireturn) 1 320 := ⟨at_319, rfl⟩
def vM_0 (p0 : Int32) (p1 : Int32) (p2 : Int32) (p3 : Int32) (p4 : Int32) : Int32 := (fld_A_line (p1.toInt8.toInt32) (0 : Int32) (1 : Int32) (1 : Int64) (0 : Int64) ((p0 &&& (1 : Int32)) * (3 : Int32)))
def vM_1 (p0 : Int32) (p1 : Int32) (p2 : Int32) (p3 : Int32) (p4 : Int32) : Int64 := (fld_A_column (p1.toInt8.toInt32) (0 : Int32) (1 : Int32) (1 : Int64) (0 : Int64) ((p0 &&& (1 : Int32)) * (3 : Int32)))
def vM_2 (p0 : Int32) (p1 : Int32) (p2 : Int32) (p3 : Int32) (p4 : Int32) : Int32 := (fld_A_afterReturn (p1.toInt8.toInt32) (0 : Int32) (1 : Int32) (1 : Int64) (0 : Int64) ((p0 &&& (1 : Int32)) * (3 : Int32)))
def vM_3 (p0 : Int32) (p1 : Int32) (p2 : Int32) (p3 : Int32) (p4 : Int32) : Int32 := (if (0 : Int32) < ((p0 &&& (1 : Int32)) * (3 : Int32)) then (0 : Int32) else (1 : Int32))
def vM_4 (p0 : Int32) (p1 : Int32) (p2 : Int32) (p3 : Int32) (p4 : Int32) : Int32 := (ret_S (1 : Int32) (1 : Int64) (vM_0 p0 p1 p2 p3 p4) (vM_1 p0 p1 p2 p3 p4) (0 : Int32) (vM_3 p0 p1 p2 p3 p4) (p1.toInt8.toInt32))
def vM_5 (p0 : Int32) (p1 : Int32) (p2 : Int32) (p3 : Int32) (p4 : Int32) : Int32 := (fld_A_line (p2.toInt8.toInt32) (vM_2 p0 p1 p2 p3 p4) (vM_0 p0 p1 p2 p3 p4) (vM_1 p0 p1 p2 p3 p4) ((0 : Int64) + (1 : Int64)) ((p0 &&& (1 : Int32)) * (3 : Int32)))
def vM_6 (p0 : Int32) (p1 : Int32) (p2 : Int32) (p3 : Int32) (p4 : Int32) : Int64 := (fld_A_column (p2.toInt8.toInt32) (vM_2 p0 p1 p2 p3 p4) (vM_0 p0 p1 p2 p3 p4) (vM_1 p0 p1 p2 p3 p4) ((0 : Int64) + (1 : Int64)) ((p0 &&& (1 : Int32)) * (3 : Int32)))
def vM_7 (p0 : Int32) (p1 : Int32) (p2 : Int32) (p3 : Int32) (p4 : Int32) : Int32 := (fld_A_afterReturn (p2.toInt8.toInt32) (vM_2 p0 p1 p2 p3 p4) (vM_0 p0 p1 p2 p3 p4) (vM_1 p0 p1 p2 p3 p4) ((0 : Int64) + (1 : Int64)) ((p0 &&& (1 : Int32)) * (3 : Int32)))
def vM_8 (p0 : Int32) (p1 : Int32) (p2 : Int32) (p3 : Int32) (p4 : Int32) : Int32 := (if (p1.toInt8.toInt32) = (13 : Int32) then (1 : Int32) else (0 : Int32))
def vM_9 (p0 : Int32) (p1 : Int32) (p2 : Int32) (p3 : Int32) (p4 : Int32) : Int32 := (if (1 : Int32) < ((p0 &&& (1 : Int32)) * (3 : Int32)) then (0 : Int32) else (1 : Int32))
def vM_10 (p0 : Int32) (p1 : Int32) (p2 : Int32) (p3 : Int32) (p4 : Int32) : Int32 := (if (ret_S (vM_0 p0 p1 p2 p3 p4) (vM_1 p0 p1 p2 p3 p4) (vM_5 p0 p1 p2 p3 p4) (vM_6 p0 p1 p2 p3 p4) (vM_8 p0 p1 p2 p3 p4) (vM_9 p0 p1 p2 p3 p4) (p2.toInt8.toInt32)) = (0 : Int32) then (0 : Int32) else (1 : Int32))
def vM_11 (p0 : Int32) (p1 : Int32) (p2 : Int32) (p3 : Int32) (p4 : Int32) : Int32 := (if (vM_4 p0 p1 p2 p3 p4) = (0 : Int32) then (0 : Int32) else (if (ret_S (vM_0 p0 p1 p2 p3 p4) (vM_1 p0 p1 p2 p3 p4) (vM_5 p0 p1 p2 p3 p4) (vM_6 p0 p1 p2 p3 p4) (vM_8 p0 p1 p2 p3 p4) (vM_9 p0 p1 p2 p3 p4) (p2.toInt8.toInt32)) = (0 : Int32) then (0 : Int32) else (1 : Int32)))
def vM_12 (p0 : Int32) (p1 : Int32) (p2 : Int32) (p3 : Int32) (p4 : Int32) : Int32 := (fld_A_line (p3.toInt8.toInt32) (vM_7 p0 p1 p2 p3 p4) (vM_5 p0 p1 p2 p3 p4) (vM_6 p0 p1 p2 p3 p4) (((0 : Int64) + (1 : Int64)) + (1 : Int64)) ((p0 &&& (1 : Int32)) * (3 : Int32)))
def vM_13 (p0 : Int32) (p1 : Int32) (p2 : Int32) (p3 : Int32) (p4 : Int32) : Int64 := (fld_A_column (p3.toInt8.toInt32) (vM_7 p0 p1 p2 p3 p4) (vM_5 p0 p1 p2 p3 p4) (vM_6 p0 p1 p2 p3 p4) (((0 : Int64) + (1 : Int64)) + (1 : Int64)) ((p0 &&& (1 : Int32)) * (3 : Int32)))
def vM_14 (p0 : Int32) (p1 : Int32) (p2 : Int32) (p3 : Int32) (p4 : Int32) : Int32 := (fld_A_afterReturn (p3.toInt8.toInt32) (vM_7 p0 p1 p2 p3 p4) (vM_5 p0 p1 p2 p3 p4) (vM_6 p0 p1 p2 p3 p4) (((0 : Int64) + (1 : Int64)) + (1 : Int64)) ((p0 &&& (1 : Int32)) * (3 : Int32)))
def vM_15 (p0 : Int32) (p1 : Int32) (p2 : Int32) (p3 : Int32) (p4 : Int32) : Int32 := (if (p2.toInt8.toInt32) = (13 : Int32) then (1 : Int32) else (0 : Int32))
def vM_16 (p0 : Int32) (p1 : Int32) (p2 : Int32) (p3 : Int32) (p4 : Int32) : Int32 := (if (2 : Int32) < ((p0 &&& (1 : Int32)) * (3 : Int32)) then (0 : Int32) else (1 : Int32))
def vM_17 (p0 : Int32) (p1 : Int32) (p2 : Int32) (p3 : Int32) (p4 : Int32) : Int32 := (if (ret_S (vM_5 p0 p1 p2 p3 p4) (vM_6 p0 p1 p2 p3 p4) (vM_12 p0 p1 p2 p3 p4) (vM_13 p0 p1 p2 p3 p4) (vM_15 p0 p1 p2 p3 p4) (vM_16 p0 p1 p2 p3 p4) (p3.toInt8.toInt32)) = (0 : Int32) then (0 : Int32) else (1 : Int32))
def vM_18 (p0 : Int32) (p1 : Int32) (p2 : Int32) (p3 : Int32) (p4 : Int32) : Int32 := (if (vM_11 p0 p1 p2 p3 p4) = (0 : Int32) then (0 : Int32) else (if (ret_S (vM_5 p0 p1 p2 p3 p4) (vM_6 p0 p1 p2 p3 p4) (vM_12 p0 p1 p2 p3 p4) (vM_13 p0 p1 p2 p3 p4) (vM_15 p0 p1 p2 p3 p4) (vM_16 p0 p1 p2 p3 p4) (p3.toInt8.toInt32)) = (0 : Int32) then (0 : Int32) else (1 : Int32)))
def vM_19 (p0 : Int32) (p1 : Int32) (p2 : Int32) (p3 : Int32) (p4 : Int32) : Int32 := (fld_A_line (p4.toInt8.toInt32) (vM_14 p0 p1 p2 p3 p4) (vM_12 p0 p1 p2 p3 p4) (vM_13 p0 p1 p2 p3 p4) ((((0 : Int64) + (1 : Int64)) + (1 : Int64)) + (1 : Int64)) ((p0 &&& (1 : Int32)) * (3 : Int32)))
def vM_20 (p0 : Int32) (p1 : Int32) (p2 : Int32) (p3 : Int32) (p4 : Int32) : Int64 := (fld_A_column (p4.toInt8.toInt32) (vM_14 p0 p1 p2 p3 p4) (vM_12 p0 p1 p2 p3 p4) (vM_13 p0 p1 p2 p3 p4) ((((0 : Int64) + (1 : Int64)) + (1 : Int64)) + (1 : Int64)) ((p0 &&& (1 : Int32)) * (3 : Int32)))
def vM_21 (p0 : Int32) (p1 : Int32) (p2 : Int32) (p3 : Int32) (p4 : Int32) : Int32 := (fld_A_afterReturn (p4.toInt8.toInt32) (vM_14 p0 p1 p2 p3 p4) (vM_12 p0 p1 p2 p3 p4) (vM_13 p0 p1 p2 p3 p4) ((((0 : Int64) + (1 : Int64)) + (1 : Int64)) + (1 : Int64)) ((p0 &&& (1 : Int32)) * (3 : Int32)))
def vM_22 (p0 : Int32) (p1 : Int32) (p2 : Int32) (p3 : Int32) (p4 : Int32) : Int64 := (((((0 : Int64) + (1 : Int64)) + (1 : Int64)) + (1 : Int64)) + (1 : Int64))
def vM_23 (p0 : Int32) (p1 : Int32) (p2 : Int32) (p3 : Int32) (p4 : Int32) : Int32 := (if (p3.toInt8.toInt32) = (13 : Int32) then (1 : Int32) else (0 : Int32))
def vM_24 (p0 : Int32) (p1 : Int32) (p2 : Int32) (p3 : Int32) (p4 : Int32) : Int32 := (if (3 : Int32) < ((p0 &&& (1 : Int32)) * (3 : Int32)) then (0 : Int32) else (1 : Int32))
def vM_25 (p0 : Int32) (p1 : Int32) (p2 : Int32) (p3 : Int32) (p4 : Int32) : Int32 := (if (ret_S (vM_12 p0 p1 p2 p3 p4) (vM_13 p0 p1 p2 p3 p4) (vM_19 p0 p1 p2 p3 p4) (vM_20 p0 p1 p2 p3 p4) (vM_23 p0 p1 p2 p3 p4) (vM_24 p0 p1 p2 p3 p4) (p4.toInt8.toInt32)) = (0 : Int32) then (0 : Int32) else (1 : Int32))
def vM_26 (p0 : Int32) (p1 : Int32) (p2 : Int32) (p3 : Int32) (p4 : Int32) : Int32 := (if (vM_18 p0 p1 p2 p3 p4) = (0 : Int32) then (0 : Int32) else (if (ret_S (vM_12 p0 p1 p2 p3 p4) (vM_13 p0 p1 p2 p3 p4) (vM_19 p0 p1 p2 p3 p4) (vM_20 p0 p1 p2 p3 p4) (vM_23 p0 p1 p2 p3 p4) (vM_24 p0 p1 p2 p3 p4) (p4.toInt8.toInt32)) = (0 : Int32) then (0 : Int32) else (1 : Int32)))
def vM_27 (p0 : Int32) (p1 : Int32) (p2 : Int32) (p3 : Int32) (p4 : Int32) : Int32 := (if (vM_22 p0 p1 p2 p3 p4) = (4 : Int64) then (1 : Int32) else (0 : Int32))
def vM_28 (p0 : Int32) (p1 : Int32) (p2 : Int32) (p3 : Int32) (p4 : Int32) : Int32 := (if (vM_26 p0 p1 p2 p3 p4) = (0 : Int32) then (0 : Int32) else (if (vM_22 p0 p1 p2 p3 p4) = (4 : Int64) then (1 : Int32) else (0 : Int32)))
theorem leafM_0 (p0 : Int32) (p1 : Int32) (p2 : Int32) (p3 : Int32) (p4 : Int32) : nar .boolean (vM_28 p0 p1 p2 p3 p4) = 1 := by
  have s1 : vM_4 p0 p1 p2 p3 p4 = 1 := own_step _ 0 1 _ 0 (vM_3 p0 p1 p2 p3 p4) 1 0 Iff.rfl (own_ofs 0 0 rfl _)
  have s2 : ret_S (vM_0 p0 p1 p2 p3 p4) (vM_1 p0 p1 p2 p3 p4) (vM_5 p0 p1 p2 p3 p4) (vM_6 p0 p1 p2 p3 p4) (vM_8 p0 p1 p2 p3 p4) (vM_9 p0 p1 p2 p3 p4) (p2.toInt8.toInt32) = 1 := own_step _ _ _ _ (vM_8 p0 p1 p2 p3 p4) (vM_9 p0 p1 p2 p3 p4) _ _ (own_cr _ _ _ _ _ _) (own_ofs 1 _ rfl _)
  have s3 : ret_S (vM_5 p0 p1 p2 p3 p4) (vM_6 p0 p1 p2 p3 p4) (vM_12 p0 p1 p2 p3 p4) (vM_13 p0 p1 p2 p3 p4) (vM_15 p0 p1 p2 p3 p4) (vM_16 p0 p1 p2 p3 p4) (p3.toInt8.toInt32) = 1 := own_step _ _ _ _ (vM_15 p0 p1 p2 p3 p4) (vM_16 p0 p1 p2 p3 p4) _ _ (own_cr _ _ _ _ _ _) (own_ofs 2 _ rfl _)
  have s4 : ret_S (vM_12 p0 p1 p2 p3 p4) (vM_13 p0 p1 p2 p3 p4) (vM_19 p0 p1 p2 p3 p4) (vM_20 p0 p1 p2 p3 p4) (vM_23 p0 p1 p2 p3 p4) (vM_24 p0 p1 p2 p3 p4) (p4.toInt8.toInt32) = 1 := own_step _ _ _ _ (vM_23 p0 p1 p2 p3 p4) (vM_24 p0 p1 p2 p3 p4) _ _ (own_cr _ _ _ _ _ _) (own_ofs 3 _ rfl _)
  have e1 : vM_11 p0 p1 p2 p3 p4 = 1 := by rw [vM_11, s1, s2]; decide
  have e2 : vM_18 p0 p1 p2 p3 p4 = 1 := by rw [vM_18, e1, s3]; decide
  have e3 : vM_26 p0 p1 p2 p3 p4 = 1 := by rw [vM_26, e2, s4]; decide
  rw [vM_28, e3, vM_22]; decide
theorem efM (m : MethodId) (p0 : Int32) (p1 : Int32) (p2 : Int32) (p3 : Int32) (p4 : Int32) : entryFrame m #[(.int p0), (.int p1), (.int p2), (.int p3), (.int p4)] maxLocals = mkF m 0 #[.val (.int p0), .val (.int p1), .val (.int p2), .val (.int p3), .val (.int p4), .unset, .unset, .unset, .unset, .unset, .unset, .unset, .unset, .unset, .unset, .unset, .unset, .unset, .unset, .unset, .unset, .unset, .unset, .unset] [] := by first | (simp [entryFrame, mkF, argsToLocals, Value.category, maxLocals]; done) | rfl
def QM (Z : State) (p0 : Int32) (p1 : Int32) (p2 : Int32) (p3 : Int32) (p4 : Int32) (h0 : Heap) (n0 : Nat) (v : Option Value) (h : Heap) : Prop := v = some (.int 1)
set_option maxRecDepth 65536 in
set_option maxHeartbeats 40000000 in
theorem rmM (l : Launch) (Z : State) (aZ : Array Value) (hw : ∀ d ∈ tables_1, d.before aZ Z = true) (p0 : Int32) (p1 : Int32) (p2 : Int32) (p3 : Int32) (p4 : Int32) (h0 : Heap) (n0 : Nat) (Z0 : n0 ≤ h0.size) :
    Ctr l Z x code maxLocals ret room_1 #[(.int p0), (.int p1), (.int p2), (.int p3), (.int p4)] h0 n0 (QM Z p0 p1 p2 p3 p4 h0 n0) := by
  refine Ctr.of_go pn6 (fun m => efM m p0 p1 p2 p3 p4) ?_
  intro p e s m below meth c hnm C
  refine g_iloadN C iM_0 rfl ?_
  refine g_iconst C (1 : Int32) iM_1 rfl ?_
  refine g_iand C iM_2 ?_
  refine g_iconst C (3 : Int32) iM_3 rfl ?_
  refine g_imul C iM_4 ?_
  refine g_istore C (Ls' := #[.val (.int p0), .val (.int p1), .val (.int p2), .val (.int p3), .val (.int p4), .val (.int ((p0 &&& (1 : Int32)) * (3 : Int32))), .unset, .unset, .unset, .unset, .unset, .unset, .unset, .unset, .unset, .unset, .unset, .unset, .unset, .unset, .unset, .unset, .unset, .unset]) iM_5 rfl ?_
  refine g_iloadN C iM_7 rfl ?_
  refine g_i2b C iM_8 ?_
  refine g_istore C (Ls' := #[.val (.int p0), .val (.int p1), .val (.int p2), .val (.int p3), .val (.int p4), .val (.int ((p0 &&& (1 : Int32)) * (3 : Int32))), .val (.int (p1.toInt8.toInt32)), .unset, .unset, .unset, .unset, .unset, .unset, .unset, .unset, .unset, .unset, .unset, .unset, .unset, .unset, .unset, .unset, .unset]) iM_9 rfl ?_
  refine g_iloadN C iM_11 rfl ?_
  refine g_i2b C iM_12 ?_
  refine g_istore C (Ls' := #[.val (.int p0), .val (.int p1), .val (.int p2), .val (.int p3), .val (.int p4), .val (.int ((p0 &&& (1 : Int32)) * (3 : Int32))), .val (.int (p1.toInt8.toInt32)), .val (.int (p2.toInt8.toInt32)), .unset, .unset, .unset, .unset, .unset, .unset, .unset, .unset, .unset, .unset, .unset, .unset, .unset, .unset, .unset, .unset]) iM_13 rfl ?_
  refine g_iloadN C iM_15 rfl ?_
  refine g_i2b C iM_16 ?_
  refine g_istore C (Ls' := #[.val (.int p0), .val (.int p1), .val (.int p2), .val (.int p3), .val (.int p4), .val (.int ((p0 &&& (1 : Int32)) * (3 : Int32))), .val (.int (p1.toInt8.toInt32)), .val (.int (p2.toInt8.toInt32)), .val (.int (p3.toInt8.toInt32)), .unset, .unset, .unset, .unset, .unset, .unset, .unset, .unset, .unset, .unset, .unset, .unset, .unset, .unset, .unset]) iM_17 rfl ?_
  refine g_iload C iM_19 rfl ?_
  refine g_i2b C iM_21 ?_
  refine g_istore C (Ls' := #[.val (.int p0), .val (.int p1), .val (.int p2), .val (.int p3), .val (.int p4), .val (.int ((p0 &&& (1 : Int32)) * (3 : Int32))), .val (.int (p1.toInt8.toInt32)), .val (.int (p2.toInt8.toInt32)), .val (.int (p3.toInt8.toInt32)), .val (.int (p4.toInt8.toInt32)), .unset, .unset, .unset, .unset, .unset, .unset, .unset, .unset, .unset, .unset, .unset, .unset, .unset, .unset]) iM_22 rfl ?_
  refine g_newO C iM_24 (hw _ (List.mem_of_getElem? (i := 0) rfl)) (hw _ (List.mem_of_getElem? (i := 1) rfl)) (hw _ (List.mem_of_getElem? (i := 2) rfl)) (by decide) (by decide) rfl rfl (fun h24 b24 g24 E24 A24 D24 => ?_)
  have ge24 : n0 ≤ b24 := Nat.le_trans Z0 (Nat.le_of_eq g24.symm)
  have fr24 : h0.size ≤ b24 := Nat.le_trans (Keep.refl h0 []).1 (Nat.le_of_eq g24.symm)
  have K24 := Keep.ext (Keep.refl h0 []) E24
  have Z24 : n0 ≤ h24.size := Nat.le_trans Z0 E24.1
  have F24_line : Fld Z h24 b24 "com/example/firm_input/firminput/TextPosition" "line" "I" (.int (0 : Int32)) := D24 (Or.inl (hw _ (List.mem_of_getElem? (i := 10) rfl))) (ty := .int) (by decide)
  have F24_column : Fld Z h24 b24 "com/example/firm_input/firminput/TextPosition" "column" "J" (.long (0 : Int64)) := D24 (Or.inl (hw _ (List.mem_of_getElem? (i := 12) rfl))) (ty := .long) (by decide)
  have F24_byteOrderMark : Fld Z h24 b24 "com/example/firm_input/firminput/TextPosition" "byteOrderMark" "I" (.int (0 : Int32)) := D24 (Or.inr (hw _ (List.mem_of_getElem? (i := 14) rfl))) (ty := .int) (by decide)
  have F24_afterReturn : Fld Z h24 b24 "com/example/firm_input/firminput/TextPosition" "afterReturn" "Z" (.int (0 : Int32)) := D24 (Or.inl (hw _ (List.mem_of_getElem? (i := 21) rfl))) (ty := .boolean) (by decide)
  have F24_offset : Fld Z h24 b24 "com/example/firm_input/firminput/TextPosition" "offset" "J" (.long (0 : Int64)) := D24 (Or.inl (hw _ (List.mem_of_getElem? (i := 23) rfl))) (ty := .long) (by decide)
  refine g_dup C iM_27 rfl ?_
  refine g_iload C iM_28 rfl ?_
  refine g_callI C (rmI l Z aZ hw b24 ((p0 &&& (1 : Int32)) * (3 : Int32)) (0 : Int32) (0 : Int64) (0 : Int32) (0 : Int32) (0 : Int64) h24 n0 Z24 A24 F24_line ge24 F24_column F24_byteOrderMark F24_afterReturn F24_offset) (a := b24) iM_30 rfl (hw _ (List.mem_of_getElem? (i := 3) rfl)) (hw _ (List.mem_of_getElem? (i := 4) rfl)) (hw _ (List.mem_of_getElem? (i := 2) rfl)) (hw _ (List.mem_of_getElem? (i := 5) rfl)) rfl (by decide) (argsL := [(.int ((p0 &&& (1 : Int32)) * (3 : Int32)))]) (rest := [(.ref b24)]) rfl rfl pd0 rfl rfl 1 (Nat.le_of_eq rfl) (by decide) (by decide) (by decide) (by decide) rfl rfl ?_
  rintro _ h25 ⟨rfl, KC25, P25_0, P25_1, P25_2, P25_3, P25_4, P25_5⟩
  refine Go.none' ?_
  have KK25 := KC25
  have A24_cC25 := Exa.keep A24 KC25
  have K25 := Keep.trans K24 KC25 (allS (Or.inr fr24) all0)
  have Z25 : n0 ≤ h25.size := Nat.le_trans Z24 KC25.1
  have P25_1 : Fld Z h25 b24 "com/example/firm_input/firminput/TextPosition" "line" "I" (.int (1 : Int32)) := P25_1
  have P25_2 : Fld Z h25 b24 "com/example/firm_input/firminput/TextPosition" "column" "J" (.long (1 : Int64)) := P25_2
  have P25_3 : Fld Z h25 b24 "com/example/firm_input/firminput/TextPosition" "byteOrderMark" "I" (.int ((p0 &&& (1 : Int32)) * (3 : Int32))) := P25_3
  have P25_4 : Fld Z h25 b24 "com/example/firm_input/firminput/TextPosition" "afterReturn" "Z" (.int (0 : Int32)) := P25_4
  have P25_5 : Fld Z h25 b24 "com/example/firm_input/firminput/TextPosition" "offset" "J" (.long (0 : Int64)) := P25_5
  refine g_astore C (Ls' := #[.val (.int p0), .val (.int p1), .val (.int p2), .val (.int p3), .val (.int p4), .val (.int ((p0 &&& (1 : Int32)) * (3 : Int32))), .val (.int (p1.toInt8.toInt32)), .val (.int (p2.toInt8.toInt32)), .val (.int (p3.toInt8.toInt32)), .val (.int (p4.toInt8.toInt32)), .val (.ref b24), .unset, .unset, .unset, .unset, .unset, .unset, .unset, .unset, .unset, .unset, .unset, .unset, .unset]) iM_33 rfl rfl ?_
  refine g_aload C iM_35 rfl rfl ?_
  refine g_iload C iM_37 rfl ?_
  refine g_callV C (rmA l Z aZ hw b24 (p1.toInt8.toInt32) (0 : Int32) (1 : Int32) (1 : Int64) (0 : Int64) ((p0 &&& (1 : Int32)) * (3 : Int32)) h25 n0 Z25 P25_4 P25_1 P25_0 ge24 P25_2 P25_5 P25_3) (a := b24) iM_39 (hw _ (List.mem_of_getElem? (i := 15) rfl)) (hw _ (List.mem_of_getElem? (i := 16) rfl)) (fun s hZ => notFace_of_selects (args := #[]) (mvT hZ (hw _ (List.mem_of_getElem? (i := 18) rfl)))) (hw _ (List.mem_of_getElem? (i := 18) rfl)) (hw _ (List.mem_of_getElem? (i := 17) rfl)) (hw _ (List.mem_of_getElem? (i := 2) rfl)) (hw _ (List.mem_of_getElem? (i := 19) rfl)) (by decide) P25_0 (argsL := [(.int (p1.toInt8.toInt32))]) (rest := []) rfl rfl pd1 rfl rfl 0 (Nat.le_of_eq rfl) (by decide) (by decide) (by decide) (by decide) rfl rfl ?_
  rintro _ h26 ⟨rfl, KC26, P26_0, P26_1, P26_2, P26_3, P26_4, P26_5⟩
  refine Go.none' ?_
  have KK26 := KC26
  have P25_0_cC26 := Exa.keep P25_0 KC26
  have K26 := Keep.trans K25 KC26 (allS (Or.inr fr24) all0)
  have Z26 : n0 ≤ h26.size := Nat.le_trans Z25 KC26.1
  have P26_1 : Fld Z h26 b24 "com/example/firm_input/firminput/TextPosition" "line" "I" (.int (vM_0 p0 p1 p2 p3 p4)) := P26_1
  have P26_2 : Fld Z h26 b24 "com/example/firm_input/firminput/TextPosition" "column" "J" (.long (vM_1 p0 p1 p2 p3 p4)) := P26_2
  have P26_3 : Fld Z h26 b24 "com/example/firm_input/firminput/TextPosition" "byteOrderMark" "I" (.int ((p0 &&& (1 : Int32)) * (3 : Int32))) := P26_3
  have P26_4 : Fld Z h26 b24 "com/example/firm_input/firminput/TextPosition" "afterReturn" "Z" (.int (vM_2 p0 p1 p2 p3 p4)) := P26_4
  have P26_5 : Fld Z h26 b24 "com/example/firm_input/firminput/TextPosition" "offset" "J" (.long ((0 : Int64) + (1 : Int64))) := P26_5
  refine g_aload C iM_42 rfl rfl ?_
  refine g_callV C (rmL l Z aZ hw b24 (vM_0 p0 p1 p2 p3 p4) h26 n0 Z26 P26_1) (a := b24) iM_44 (hw _ (List.mem_of_getElem? (i := 24) rfl)) (hw _ (List.mem_of_getElem? (i := 25) rfl)) (fun s hZ => notFace_of_selects (args := #[]) (mvT hZ (hw _ (List.mem_of_getElem? (i := 27) rfl)))) (hw _ (List.mem_of_getElem? (i := 27) rfl)) (hw _ (List.mem_of_getElem? (i := 26) rfl)) (hw _ (List.mem_of_getElem? (i := 2) rfl)) (hw _ (List.mem_of_getElem? (i := 28) rfl)) (by decide) P26_0 (argsL := []) (rest := []) rfl rfl pd2 rfl rfl 0 (Nat.le_of_eq rfl) (by decide) (by decide) (by decide) (by decide) rfl rfl ?_
  rintro _ _ ⟨rfl, he27⟩
  refine Go.heap he27.symm ?_
  refine Go.some' ?_
  refine g_istore C (Ls' := #[.val (.int p0), .val (.int p1), .val (.int p2), .val (.int p3), .val (.int p4), .val (.int ((p0 &&& (1 : Int32)) * (3 : Int32))), .val (.int (p1.toInt8.toInt32)), .val (.int (p2.toInt8.toInt32)), .val (.int (p3.toInt8.toInt32)), .val (.int (p4.toInt8.toInt32)), .val (.ref b24), .val (.int (vM_0 p0 p1 p2 p3 p4)), .unset, .unset, .unset, .unset, .unset, .unset, .unset, .unset, .unset, .unset, .unset, .unset]) iM_47 rfl ?_
  refine g_aload C iM_49 rfl rfl ?_
  refine g_callV C (rmU l Z aZ hw b24 (vM_1 p0 p1 p2 p3 p4) h26 n0 Z26 P26_2) (a := b24) iM_51 (hw _ (List.mem_of_getElem? (i := 29) rfl)) (hw _ (List.mem_of_getElem? (i := 30) rfl)) (fun s hZ => notFace_of_selects (args := #[]) (mvT hZ (hw _ (List.mem_of_getElem? (i := 32) rfl)))) (hw _ (List.mem_of_getElem? (i := 32) rfl)) (hw _ (List.mem_of_getElem? (i := 31) rfl)) (hw _ (List.mem_of_getElem? (i := 2) rfl)) (hw _ (List.mem_of_getElem? (i := 33) rfl)) (by decide) P26_0 (argsL := []) (rest := []) rfl rfl pd3 rfl rfl 0 (Nat.le_of_eq rfl) (by decide) (by decide) (by decide) (by decide) rfl rfl ?_
  rintro _ _ ⟨rfl, he28⟩
  refine Go.heap he28.symm ?_
  refine Go.some' ?_
  refine g_lstore C (Ls' := #[.val (.int p0), .val (.int p1), .val (.int p2), .val (.int p3), .val (.int p4), .val (.int ((p0 &&& (1 : Int32)) * (3 : Int32))), .val (.int (p1.toInt8.toInt32)), .val (.int (p2.toInt8.toInt32)), .val (.int (p3.toInt8.toInt32)), .val (.int (p4.toInt8.toInt32)), .val (.ref b24), .val (.int (vM_0 p0 p1 p2 p3 p4)), .val (.long (vM_1 p0 p1 p2 p3 p4)), .second, .unset, .unset, .unset, .unset, .unset, .unset, .unset, .unset, .unset, .unset]) iM_54 rfl ?_
  refine g_iconst C (1 : Int32) iM_56 rfl ?_
  refine g_lconst C (1 : Int64) iM_57 rfl ?_
  refine g_iload C iM_58 rfl ?_
  refine g_lload C iM_60 rfl ?_
  refine g_iconst C (0 : Int32) iM_62 rfl ?_
  refine g_iconst C (0 : Int32) iM_63 rfl ?_
  refine g_iload C iM_64 rfl ?_
  refine Go.join (mkF m 74 #[.val (.int p0), .val (.int p1), .val (.int p2), .val (.int p3), .val (.int p4), .val (.int ((p0 &&& (1 : Int32)) * (3 : Int32))), .val (.int (p1.toInt8.toInt32)), .val (.int (p2.toInt8.toInt32)), .val (.int (p3.toInt8.toInt32)), .val (.int (p4.toInt8.toInt32)), .val (.ref b24), .val (.int (vM_0 p0 p1 p2 p3 p4)), .val (.long (vM_1 p0 p1 p2 p3 p4)), .second, .unset, .unset, .unset, .unset, .unset, .unset, .unset, .unset, .unset, .unset] [(.int (vM_3 p0 p1 p2 p3 p4)), (.int (0 : Int32)), (.long (vM_1 p0 p1 p2 p3 p4)), (.int (vM_0 p0 p1 p2 p3 p4)), (.long (1 : Int64)), (.int (1 : Int32))]) ?_ (fun J => ?_)
  · refine g_iload C iM_74 rfl ?_
    refine g_callS C (rmS l Z aZ hw (1 : Int32) (1 : Int64) (vM_0 p0 p1 p2 p3 p4) (vM_1 p0 p1 p2 p3 p4) (0 : Int32) (vM_3 p0 p1 p2 p3 p4) (p1.toInt8.toInt32) h26 n0 Z26) iM_76 (hw _ (List.mem_of_getElem? (i := 34) rfl)) (hw _ (List.mem_of_getElem? (i := 35) rfl)) (hw _ (List.mem_of_getElem? (i := 36) rfl)) (hw _ (List.mem_of_getElem? (i := 37) rfl)) (by decide) (argsL := [(.int (1 : Int32)), (.long (1 : Int64)), (.int (vM_0 p0 p1 p2 p3 p4)), (.long (vM_1 p0 p1 p2 p3 p4)), (.int (0 : Int32)), (.int (vM_3 p0 p1 p2 p3 p4)), (.int (p1.toInt8.toInt32))]) (rest := []) rfl rfl pd4 rfl rfl 0 (Nat.le_of_eq rfl) (by decide) (by decide) (by decide) (by decide) rfl rfl ?_
    rintro _ _ ⟨rfl, he29⟩
    refine Go.heap he29.symm ?_
    refine Go.some' ?_
    refine g_istore C (Ls' := #[.val (.int p0), .val (.int p1), .val (.int p2), .val (.int p3), .val (.int p4), .val (.int ((p0 &&& (1 : Int32)) * (3 : Int32))), .val (.int (p1.toInt8.toInt32)), .val (.int (p2.toInt8.toInt32)), .val (.int (p3.toInt8.toInt32)), .val (.int (p4.toInt8.toInt32)), .val (.ref b24), .val (.int (vM_0 p0 p1 p2 p3 p4)), .val (.long (vM_1 p0 p1 p2 p3 p4)), .second, .val (.int (vM_4 p0 p1 p2 p3 p4)), .unset, .unset, .unset, .unset, .unset, .unset, .unset, .unset, .unset]) iM_79 rfl ?_
    refine g_aload C iM_81 rfl rfl ?_
    refine g_iload C iM_83 rfl ?_
    refine g_callV C (rmA l Z aZ hw b24 (p2.toInt8.toInt32) (vM_2 p0 p1 p2 p3 p4) (vM_0 p0 p1 p2 p3 p4) (vM_1 p0 p1 p2 p3 p4) ((0 : Int64) + (1 : Int64)) ((p0 &&& (1 : Int32)) * (3 : Int32)) h26 n0 Z26 P26_4 P26_1 P26_0 ge24 P26_2 P26_5 P26_3) (a := b24) iM_85 (hw _ (List.mem_of_getElem? (i := 15) rfl)) (hw _ (List.mem_of_getElem? (i := 16) rfl)) (fun s hZ => notFace_of_selects (args := #[]) (mvT hZ (hw _ (List.mem_of_getElem? (i := 18) rfl)))) (hw _ (List.mem_of_getElem? (i := 18) rfl)) (hw _ (List.mem_of_getElem? (i := 17) rfl)) (hw _ (List.mem_of_getElem? (i := 2) rfl)) (hw _ (List.mem_of_getElem? (i := 19) rfl)) (by decide) P26_0 (argsL := [(.int (p2.toInt8.toInt32))]) (rest := []) rfl rfl pd1 rfl rfl 0 (Nat.le_of_eq rfl) (by decide) (by decide) (by decide) (by decide) rfl rfl ?_
    rintro _ h30 ⟨rfl, KC30, P30_0, P30_1, P30_2, P30_3, P30_4, P30_5⟩
    refine Go.none' ?_
    have KK30 := KC30
    have P26_0_cC30 := Exa.keep P26_0 KC30
    have K30 := Keep.trans K26 KC30 (allS (Or.inr fr24) all0)
    have Z30 : n0 ≤ h30.size := Nat.le_trans Z26 KC30.1
    have P30_1 : Fld Z h30 b24 "com/example/firm_input/firminput/TextPosition" "line" "I" (.int (vM_5 p0 p1 p2 p3 p4)) := P30_1
    have P30_2 : Fld Z h30 b24 "com/example/firm_input/firminput/TextPosition" "column" "J" (.long (vM_6 p0 p1 p2 p3 p4)) := P30_2
    have P30_3 : Fld Z h30 b24 "com/example/firm_input/firminput/TextPosition" "byteOrderMark" "I" (.int ((p0 &&& (1 : Int32)) * (3 : Int32))) := P30_3
    have P30_4 : Fld Z h30 b24 "com/example/firm_input/firminput/TextPosition" "afterReturn" "Z" (.int (vM_7 p0 p1 p2 p3 p4)) := P30_4
    have P30_5 : Fld Z h30 b24 "com/example/firm_input/firminput/TextPosition" "offset" "J" (.long (((0 : Int64) + (1 : Int64)) + (1 : Int64))) := P30_5
    refine g_aload C iM_88 rfl rfl ?_
    refine g_callV C (rmL l Z aZ hw b24 (vM_5 p0 p1 p2 p3 p4) h30 n0 Z30 P30_1) (a := b24) iM_90 (hw _ (List.mem_of_getElem? (i := 24) rfl)) (hw _ (List.mem_of_getElem? (i := 25) rfl)) (fun s hZ => notFace_of_selects (args := #[]) (mvT hZ (hw _ (List.mem_of_getElem? (i := 27) rfl)))) (hw _ (List.mem_of_getElem? (i := 27) rfl)) (hw _ (List.mem_of_getElem? (i := 26) rfl)) (hw _ (List.mem_of_getElem? (i := 2) rfl)) (hw _ (List.mem_of_getElem? (i := 28) rfl)) (by decide) P30_0 (argsL := []) (rest := []) rfl rfl pd2 rfl rfl 0 (Nat.le_of_eq rfl) (by decide) (by decide) (by decide) (by decide) rfl rfl ?_
    rintro _ _ ⟨rfl, he31⟩
    refine Go.heap he31.symm ?_
    refine Go.some' ?_
    refine g_istore C (Ls' := #[.val (.int p0), .val (.int p1), .val (.int p2), .val (.int p3), .val (.int p4), .val (.int ((p0 &&& (1 : Int32)) * (3 : Int32))), .val (.int (p1.toInt8.toInt32)), .val (.int (p2.toInt8.toInt32)), .val (.int (p3.toInt8.toInt32)), .val (.int (p4.toInt8.toInt32)), .val (.ref b24), .val (.int (vM_0 p0 p1 p2 p3 p4)), .val (.long (vM_1 p0 p1 p2 p3 p4)), .second, .val (.int (vM_4 p0 p1 p2 p3 p4)), .val (.int (vM_5 p0 p1 p2 p3 p4)), .unset, .unset, .unset, .unset, .unset, .unset, .unset, .unset]) iM_93 rfl ?_
    refine g_aload C iM_95 rfl rfl ?_
    refine g_callV C (rmU l Z aZ hw b24 (vM_6 p0 p1 p2 p3 p4) h30 n0 Z30 P30_2) (a := b24) iM_97 (hw _ (List.mem_of_getElem? (i := 29) rfl)) (hw _ (List.mem_of_getElem? (i := 30) rfl)) (fun s hZ => notFace_of_selects (args := #[]) (mvT hZ (hw _ (List.mem_of_getElem? (i := 32) rfl)))) (hw _ (List.mem_of_getElem? (i := 32) rfl)) (hw _ (List.mem_of_getElem? (i := 31) rfl)) (hw _ (List.mem_of_getElem? (i := 2) rfl)) (hw _ (List.mem_of_getElem? (i := 33) rfl)) (by decide) P30_0 (argsL := []) (rest := []) rfl rfl pd3 rfl rfl 0 (Nat.le_of_eq rfl) (by decide) (by decide) (by decide) (by decide) rfl rfl ?_
    rintro _ _ ⟨rfl, he32⟩
    refine Go.heap he32.symm ?_
    refine Go.some' ?_
    refine g_lstore C (Ls' := #[.val (.int p0), .val (.int p1), .val (.int p2), .val (.int p3), .val (.int p4), .val (.int ((p0 &&& (1 : Int32)) * (3 : Int32))), .val (.int (p1.toInt8.toInt32)), .val (.int (p2.toInt8.toInt32)), .val (.int (p3.toInt8.toInt32)), .val (.int (p4.toInt8.toInt32)), .val (.ref b24), .val (.int (vM_0 p0 p1 p2 p3 p4)), .val (.long (vM_1 p0 p1 p2 p3 p4)), .second, .val (.int (vM_4 p0 p1 p2 p3 p4)), .val (.int (vM_5 p0 p1 p2 p3 p4)), .val (.long (vM_6 p0 p1 p2 p3 p4)), .second, .unset, .unset, .unset, .unset, .unset, .unset]) iM_100 rfl ?_
    refine g_iload C iM_102 rfl ?_
    refine Go.join (mkF m 151 #[.val (.int p0), .val (.int p1), .val (.int p2), .val (.int p3), .val (.int p4), .val (.int ((p0 &&& (1 : Int32)) * (3 : Int32))), .val (.int (p1.toInt8.toInt32)), .val (.int (p2.toInt8.toInt32)), .val (.int (p3.toInt8.toInt32)), .val (.int (p4.toInt8.toInt32)), .val (.ref b24), .val (.int (vM_0 p0 p1 p2 p3 p4)), .val (.long (vM_1 p0 p1 p2 p3 p4)), .second, .val (.int (vM_4 p0 p1 p2 p3 p4)), .val (.int (vM_5 p0 p1 p2 p3 p4)), .val (.long (vM_6 p0 p1 p2 p3 p4)), .second, .unset, .unset, .unset, .unset, .unset, .unset] [(.int (vM_11 p0 p1 p2 p3 p4))]) ?_ (fun J => ?_)
    · refine g_istore C (Ls' := #[.val (.int p0), .val (.int p1), .val (.int p2), .val (.int p3), .val (.int p4), .val (.int ((p0 &&& (1 : Int32)) * (3 : Int32))), .val (.int (p1.toInt8.toInt32)), .val (.int (p2.toInt8.toInt32)), .val (.int (p3.toInt8.toInt32)), .val (.int (p4.toInt8.toInt32)), .val (.ref b24), .val (.int (vM_0 p0 p1 p2 p3 p4)), .val (.long (vM_1 p0 p1 p2 p3 p4)), .second, .val (.int (vM_11 p0 p1 p2 p3 p4)), .val (.int (vM_5 p0 p1 p2 p3 p4)), .val (.long (vM_6 p0 p1 p2 p3 p4)), .second, .unset, .unset, .unset, .unset, .unset, .unset]) iM_151 rfl ?_
      refine g_aload C iM_153 rfl rfl ?_
      refine g_iload C iM_155 rfl ?_
      refine g_callV C (rmA l Z aZ hw b24 (p3.toInt8.toInt32) (vM_7 p0 p1 p2 p3 p4) (vM_5 p0 p1 p2 p3 p4) (vM_6 p0 p1 p2 p3 p4) (((0 : Int64) + (1 : Int64)) + (1 : Int64)) ((p0 &&& (1 : Int32)) * (3 : Int32)) h30 n0 Z30 P30_4 P30_1 P30_0 ge24 P30_2 P30_5 P30_3) (a := b24) iM_157 (hw _ (List.mem_of_getElem? (i := 15) rfl)) (hw _ (List.mem_of_getElem? (i := 16) rfl)) (fun s hZ => notFace_of_selects (args := #[]) (mvT hZ (hw _ (List.mem_of_getElem? (i := 18) rfl)))) (hw _ (List.mem_of_getElem? (i := 18) rfl)) (hw _ (List.mem_of_getElem? (i := 17) rfl)) (hw _ (List.mem_of_getElem? (i := 2) rfl)) (hw _ (List.mem_of_getElem? (i := 19) rfl)) (by decide) P30_0 (argsL := [(.int (p3.toInt8.toInt32))]) (rest := []) rfl rfl pd1 rfl rfl 0 (Nat.le_of_eq rfl) (by decide) (by decide) (by decide) (by decide) rfl rfl ?_
      rintro _ h34 ⟨rfl, KC34, P34_0, P34_1, P34_2, P34_3, P34_4, P34_5⟩
      refine Go.none' ?_
      have KK34 := KC34
      have P30_0_cC34 := Exa.keep P30_0 KC34
      have K34 := Keep.trans K30 KC34 (allS (Or.inr fr24) all0)
      have Z34 : n0 ≤ h34.size := Nat.le_trans Z30 KC34.1
      have P34_1 : Fld Z h34 b24 "com/example/firm_input/firminput/TextPosition" "line" "I" (.int (vM_12 p0 p1 p2 p3 p4)) := P34_1
      have P34_2 : Fld Z h34 b24 "com/example/firm_input/firminput/TextPosition" "column" "J" (.long (vM_13 p0 p1 p2 p3 p4)) := P34_2
      have P34_3 : Fld Z h34 b24 "com/example/firm_input/firminput/TextPosition" "byteOrderMark" "I" (.int ((p0 &&& (1 : Int32)) * (3 : Int32))) := P34_3
      have P34_4 : Fld Z h34 b24 "com/example/firm_input/firminput/TextPosition" "afterReturn" "Z" (.int (vM_14 p0 p1 p2 p3 p4)) := P34_4
      have P34_5 : Fld Z h34 b24 "com/example/firm_input/firminput/TextPosition" "offset" "J" (.long ((((0 : Int64) + (1 : Int64)) + (1 : Int64)) + (1 : Int64))) := P34_5
      refine g_aload C iM_160 rfl rfl ?_
      refine g_callV C (rmL l Z aZ hw b24 (vM_12 p0 p1 p2 p3 p4) h34 n0 Z34 P34_1) (a := b24) iM_162 (hw _ (List.mem_of_getElem? (i := 24) rfl)) (hw _ (List.mem_of_getElem? (i := 25) rfl)) (fun s hZ => notFace_of_selects (args := #[]) (mvT hZ (hw _ (List.mem_of_getElem? (i := 27) rfl)))) (hw _ (List.mem_of_getElem? (i := 27) rfl)) (hw _ (List.mem_of_getElem? (i := 26) rfl)) (hw _ (List.mem_of_getElem? (i := 2) rfl)) (hw _ (List.mem_of_getElem? (i := 28) rfl)) (by decide) P34_0 (argsL := []) (rest := []) rfl rfl pd2 rfl rfl 0 (Nat.le_of_eq rfl) (by decide) (by decide) (by decide) (by decide) rfl rfl ?_
      rintro _ _ ⟨rfl, he35⟩
      refine Go.heap he35.symm ?_
      refine Go.some' ?_
      refine g_istore C (Ls' := #[.val (.int p0), .val (.int p1), .val (.int p2), .val (.int p3), .val (.int p4), .val (.int ((p0 &&& (1 : Int32)) * (3 : Int32))), .val (.int (p1.toInt8.toInt32)), .val (.int (p2.toInt8.toInt32)), .val (.int (p3.toInt8.toInt32)), .val (.int (p4.toInt8.toInt32)), .val (.ref b24), .val (.int (vM_0 p0 p1 p2 p3 p4)), .val (.long (vM_1 p0 p1 p2 p3 p4)), .second, .val (.int (vM_11 p0 p1 p2 p3 p4)), .val (.int (vM_5 p0 p1 p2 p3 p4)), .val (.long (vM_6 p0 p1 p2 p3 p4)), .second, .val (.int (vM_12 p0 p1 p2 p3 p4)), .unset, .unset, .unset, .unset, .unset]) iM_165 rfl ?_
      refine g_aload C iM_167 rfl rfl ?_
      refine g_callV C (rmU l Z aZ hw b24 (vM_13 p0 p1 p2 p3 p4) h34 n0 Z34 P34_2) (a := b24) iM_169 (hw _ (List.mem_of_getElem? (i := 29) rfl)) (hw _ (List.mem_of_getElem? (i := 30) rfl)) (fun s hZ => notFace_of_selects (args := #[]) (mvT hZ (hw _ (List.mem_of_getElem? (i := 32) rfl)))) (hw _ (List.mem_of_getElem? (i := 32) rfl)) (hw _ (List.mem_of_getElem? (i := 31) rfl)) (hw _ (List.mem_of_getElem? (i := 2) rfl)) (hw _ (List.mem_of_getElem? (i := 33) rfl)) (by decide) P34_0 (argsL := []) (rest := []) rfl rfl pd3 rfl rfl 0 (Nat.le_of_eq rfl) (by decide) (by decide) (by decide) (by decide) rfl rfl ?_
      rintro _ _ ⟨rfl, he36⟩
      refine Go.heap he36.symm ?_
      refine Go.some' ?_
      refine g_lstore C (Ls' := #[.val (.int p0), .val (.int p1), .val (.int p2), .val (.int p3), .val (.int p4), .val (.int ((p0 &&& (1 : Int32)) * (3 : Int32))), .val (.int (p1.toInt8.toInt32)), .val (.int (p2.toInt8.toInt32)), .val (.int (p3.toInt8.toInt32)), .val (.int (p4.toInt8.toInt32)), .val (.ref b24), .val (.int (vM_0 p0 p1 p2 p3 p4)), .val (.long (vM_1 p0 p1 p2 p3 p4)), .second, .val (.int (vM_11 p0 p1 p2 p3 p4)), .val (.int (vM_5 p0 p1 p2 p3 p4)), .val (.long (vM_6 p0 p1 p2 p3 p4)), .second, .val (.int (vM_12 p0 p1 p2 p3 p4)), .val (.long (vM_13 p0 p1 p2 p3 p4)), .second, .unset, .unset, .unset]) iM_172 rfl ?_
      refine g_iload C iM_174 rfl ?_
      refine Go.join (mkF m 223 #[.val (.int p0), .val (.int p1), .val (.int p2), .val (.int p3), .val (.int p4), .val (.int ((p0 &&& (1 : Int32)) * (3 : Int32))), .val (.int (p1.toInt8.toInt32)), .val (.int (p2.toInt8.toInt32)), .val (.int (p3.toInt8.toInt32)), .val (.int (p4.toInt8.toInt32)), .val (.ref b24), .val (.int (vM_0 p0 p1 p2 p3 p4)), .val (.long (vM_1 p0 p1 p2 p3 p4)), .second, .val (.int (vM_11 p0 p1 p2 p3 p4)), .val (.int (vM_5 p0 p1 p2 p3 p4)), .val (.long (vM_6 p0 p1 p2 p3 p4)), .second, .val (.int (vM_12 p0 p1 p2 p3 p4)), .val (.long (vM_13 p0 p1 p2 p3 p4)), .second, .unset, .unset, .unset] [(.int (vM_18 p0 p1 p2 p3 p4))]) ?_ (fun J => ?_)
      · refine g_istore C (Ls' := #[.val (.int p0), .val (.int p1), .val (.int p2), .val (.int p3), .val (.int p4), .val (.int ((p0 &&& (1 : Int32)) * (3 : Int32))), .val (.int (p1.toInt8.toInt32)), .val (.int (p2.toInt8.toInt32)), .val (.int (p3.toInt8.toInt32)), .val (.int (p4.toInt8.toInt32)), .val (.ref b24), .val (.int (vM_0 p0 p1 p2 p3 p4)), .val (.long (vM_1 p0 p1 p2 p3 p4)), .second, .val (.int (vM_18 p0 p1 p2 p3 p4)), .val (.int (vM_5 p0 p1 p2 p3 p4)), .val (.long (vM_6 p0 p1 p2 p3 p4)), .second, .val (.int (vM_12 p0 p1 p2 p3 p4)), .val (.long (vM_13 p0 p1 p2 p3 p4)), .second, .unset, .unset, .unset]) iM_223 rfl ?_
        refine g_aload C iM_225 rfl rfl ?_
        refine g_iload C iM_227 rfl ?_
        refine g_callV C (rmA l Z aZ hw b24 (p4.toInt8.toInt32) (vM_14 p0 p1 p2 p3 p4) (vM_12 p0 p1 p2 p3 p4) (vM_13 p0 p1 p2 p3 p4) ((((0 : Int64) + (1 : Int64)) + (1 : Int64)) + (1 : Int64)) ((p0 &&& (1 : Int32)) * (3 : Int32)) h34 n0 Z34 P34_4 P34_1 P34_0 ge24 P34_2 P34_5 P34_3) (a := b24) iM_229 (hw _ (List.mem_of_getElem? (i := 15) rfl)) (hw _ (List.mem_of_getElem? (i := 16) rfl)) (fun s hZ => notFace_of_selects (args := #[]) (mvT hZ (hw _ (List.mem_of_getElem? (i := 18) rfl)))) (hw _ (List.mem_of_getElem? (i := 18) rfl)) (hw _ (List.mem_of_getElem? (i := 17) rfl)) (hw _ (List.mem_of_getElem? (i := 2) rfl)) (hw _ (List.mem_of_getElem? (i := 19) rfl)) (by decide) P34_0 (argsL := [(.int (p4.toInt8.toInt32))]) (rest := []) rfl rfl pd1 rfl rfl 0 (Nat.le_of_eq rfl) (by decide) (by decide) (by decide) (by decide) rfl rfl ?_
        rintro _ h38 ⟨rfl, KC38, P38_0, P38_1, P38_2, P38_3, P38_4, P38_5⟩
        refine Go.none' ?_
        have KK38 := KC38
        have P34_0_cC38 := Exa.keep P34_0 KC38
        have K38 := Keep.trans K34 KC38 (allS (Or.inr fr24) all0)
        have Z38 : n0 ≤ h38.size := Nat.le_trans Z34 KC38.1
        have P38_1 : Fld Z h38 b24 "com/example/firm_input/firminput/TextPosition" "line" "I" (.int (vM_19 p0 p1 p2 p3 p4)) := P38_1
        have P38_2 : Fld Z h38 b24 "com/example/firm_input/firminput/TextPosition" "column" "J" (.long (vM_20 p0 p1 p2 p3 p4)) := P38_2
        have P38_3 : Fld Z h38 b24 "com/example/firm_input/firminput/TextPosition" "byteOrderMark" "I" (.int ((p0 &&& (1 : Int32)) * (3 : Int32))) := P38_3
        have P38_4 : Fld Z h38 b24 "com/example/firm_input/firminput/TextPosition" "afterReturn" "Z" (.int (vM_21 p0 p1 p2 p3 p4)) := P38_4
        have P38_5 : Fld Z h38 b24 "com/example/firm_input/firminput/TextPosition" "offset" "J" (.long (vM_22 p0 p1 p2 p3 p4)) := P38_5
        refine g_aload C iM_232 rfl rfl ?_
        refine g_callV C (rmL l Z aZ hw b24 (vM_19 p0 p1 p2 p3 p4) h38 n0 Z38 P38_1) (a := b24) iM_234 (hw _ (List.mem_of_getElem? (i := 24) rfl)) (hw _ (List.mem_of_getElem? (i := 25) rfl)) (fun s hZ => notFace_of_selects (args := #[]) (mvT hZ (hw _ (List.mem_of_getElem? (i := 27) rfl)))) (hw _ (List.mem_of_getElem? (i := 27) rfl)) (hw _ (List.mem_of_getElem? (i := 26) rfl)) (hw _ (List.mem_of_getElem? (i := 2) rfl)) (hw _ (List.mem_of_getElem? (i := 28) rfl)) (by decide) P38_0 (argsL := []) (rest := []) rfl rfl pd2 rfl rfl 0 (Nat.le_of_eq rfl) (by decide) (by decide) (by decide) (by decide) rfl rfl ?_
        rintro _ _ ⟨rfl, he39⟩
        refine Go.heap he39.symm ?_
        refine Go.some' ?_
        refine g_istore C (Ls' := #[.val (.int p0), .val (.int p1), .val (.int p2), .val (.int p3), .val (.int p4), .val (.int ((p0 &&& (1 : Int32)) * (3 : Int32))), .val (.int (p1.toInt8.toInt32)), .val (.int (p2.toInt8.toInt32)), .val (.int (p3.toInt8.toInt32)), .val (.int (p4.toInt8.toInt32)), .val (.ref b24), .val (.int (vM_0 p0 p1 p2 p3 p4)), .val (.long (vM_1 p0 p1 p2 p3 p4)), .second, .val (.int (vM_18 p0 p1 p2 p3 p4)), .val (.int (vM_5 p0 p1 p2 p3 p4)), .val (.long (vM_6 p0 p1 p2 p3 p4)), .second, .val (.int (vM_12 p0 p1 p2 p3 p4)), .val (.long (vM_13 p0 p1 p2 p3 p4)), .second, .val (.int (vM_19 p0 p1 p2 p3 p4)), .unset, .unset]) iM_237 rfl ?_
        refine g_aload C iM_239 rfl rfl ?_
        refine g_callV C (rmU l Z aZ hw b24 (vM_20 p0 p1 p2 p3 p4) h38 n0 Z38 P38_2) (a := b24) iM_241 (hw _ (List.mem_of_getElem? (i := 29) rfl)) (hw _ (List.mem_of_getElem? (i := 30) rfl)) (fun s hZ => notFace_of_selects (args := #[]) (mvT hZ (hw _ (List.mem_of_getElem? (i := 32) rfl)))) (hw _ (List.mem_of_getElem? (i := 32) rfl)) (hw _ (List.mem_of_getElem? (i := 31) rfl)) (hw _ (List.mem_of_getElem? (i := 2) rfl)) (hw _ (List.mem_of_getElem? (i := 33) rfl)) (by decide) P38_0 (argsL := []) (rest := []) rfl rfl pd3 rfl rfl 0 (Nat.le_of_eq rfl) (by decide) (by decide) (by decide) (by decide) rfl rfl ?_
        rintro _ _ ⟨rfl, he40⟩
        refine Go.heap he40.symm ?_
        refine Go.some' ?_
        refine g_lstore C (Ls' := #[.val (.int p0), .val (.int p1), .val (.int p2), .val (.int p3), .val (.int p4), .val (.int ((p0 &&& (1 : Int32)) * (3 : Int32))), .val (.int (p1.toInt8.toInt32)), .val (.int (p2.toInt8.toInt32)), .val (.int (p3.toInt8.toInt32)), .val (.int (p4.toInt8.toInt32)), .val (.ref b24), .val (.int (vM_0 p0 p1 p2 p3 p4)), .val (.long (vM_1 p0 p1 p2 p3 p4)), .second, .val (.int (vM_18 p0 p1 p2 p3 p4)), .val (.int (vM_5 p0 p1 p2 p3 p4)), .val (.long (vM_6 p0 p1 p2 p3 p4)), .second, .val (.int (vM_12 p0 p1 p2 p3 p4)), .val (.long (vM_13 p0 p1 p2 p3 p4)), .second, .val (.int (vM_19 p0 p1 p2 p3 p4)), .val (.long (vM_20 p0 p1 p2 p3 p4)), .second]) iM_244 rfl ?_
        refine g_iload C iM_246 rfl ?_
        refine Go.join (mkF m 295 #[.val (.int p0), .val (.int p1), .val (.int p2), .val (.int p3), .val (.int p4), .val (.int ((p0 &&& (1 : Int32)) * (3 : Int32))), .val (.int (p1.toInt8.toInt32)), .val (.int (p2.toInt8.toInt32)), .val (.int (p3.toInt8.toInt32)), .val (.int (p4.toInt8.toInt32)), .val (.ref b24), .val (.int (vM_0 p0 p1 p2 p3 p4)), .val (.long (vM_1 p0 p1 p2 p3 p4)), .second, .val (.int (vM_18 p0 p1 p2 p3 p4)), .val (.int (vM_5 p0 p1 p2 p3 p4)), .val (.long (vM_6 p0 p1 p2 p3 p4)), .second, .val (.int (vM_12 p0 p1 p2 p3 p4)), .val (.long (vM_13 p0 p1 p2 p3 p4)), .second, .val (.int (vM_19 p0 p1 p2 p3 p4)), .val (.long (vM_20 p0 p1 p2 p3 p4)), .second] [(.int (vM_26 p0 p1 p2 p3 p4))]) ?_ (fun J => ?_)
        · refine g_istore C (Ls' := #[.val (.int p0), .val (.int p1), .val (.int p2), .val (.int p3), .val (.int p4), .val (.int ((p0 &&& (1 : Int32)) * (3 : Int32))), .val (.int (p1.toInt8.toInt32)), .val (.int (p2.toInt8.toInt32)), .val (.int (p3.toInt8.toInt32)), .val (.int (p4.toInt8.toInt32)), .val (.ref b24), .val (.int (vM_0 p0 p1 p2 p3 p4)), .val (.long (vM_1 p0 p1 p2 p3 p4)), .second, .val (.int (vM_26 p0 p1 p2 p3 p4)), .val (.int (vM_5 p0 p1 p2 p3 p4)), .val (.long (vM_6 p0 p1 p2 p3 p4)), .second, .val (.int (vM_12 p0 p1 p2 p3 p4)), .val (.long (vM_13 p0 p1 p2 p3 p4)), .second, .val (.int (vM_19 p0 p1 p2 p3 p4)), .val (.long (vM_20 p0 p1 p2 p3 p4)), .second]) iM_295 rfl ?_
          refine g_iload C iM_297 rfl ?_
          refine Go.join (mkF m 319 #[.val (.int p0), .val (.int p1), .val (.int p2), .val (.int p3), .val (.int p4), .val (.int ((p0 &&& (1 : Int32)) * (3 : Int32))), .val (.int (p1.toInt8.toInt32)), .val (.int (p2.toInt8.toInt32)), .val (.int (p3.toInt8.toInt32)), .val (.int (p4.toInt8.toInt32)), .val (.ref b24), .val (.int (vM_0 p0 p1 p2 p3 p4)), .val (.long (vM_1 p0 p1 p2 p3 p4)), .second, .val (.int (vM_26 p0 p1 p2 p3 p4)), .val (.int (vM_5 p0 p1 p2 p3 p4)), .val (.long (vM_6 p0 p1 p2 p3 p4)), .second, .val (.int (vM_12 p0 p1 p2 p3 p4)), .val (.long (vM_13 p0 p1 p2 p3 p4)), .second, .val (.int (vM_19 p0 p1 p2 p3 p4)), .val (.long (vM_20 p0 p1 p2 p3 p4)), .second] [(.int (vM_28 p0 p1 p2 p3 p4))]) ?_ (fun J => ?_)
          · exact g_retNar C (t := .boolean) iM_319 rfl (by simp) (by decide) (by decide) (show _ = _ from congrArg (fun z => some (Value.int z)) (leafM_0 p0 p1 p2 p3 p4))
          · refine g_if_eq C iM_299 (fun hc299_1 => ?_) (fun hc299_1 => ?_)
            · refine g_iconst C (0 : Int32) iM_318 rfl ?_
              have e0 : (vM_28 p0 p1 p2 p3 p4) = (0 : Int32) := by simp only [vM_28, if_pos hc299_1]
              exact Go.cast J (by rw [e0])
            · refine g_aload C iM_302 rfl rfl ?_
              refine g_callV C (rmO l Z aZ hw b24 (vM_22 p0 p1 p2 p3 p4) h38 n0 Z38 P38_5) (a := b24) iM_304 (hw _ (List.mem_of_getElem? (i := 38) rfl)) (hw _ (List.mem_of_getElem? (i := 39) rfl)) (fun s hZ => notFace_of_selects (args := #[]) (mvT hZ (hw _ (List.mem_of_getElem? (i := 41) rfl)))) (hw _ (List.mem_of_getElem? (i := 41) rfl)) (hw _ (List.mem_of_getElem? (i := 40) rfl)) (hw _ (List.mem_of_getElem? (i := 2) rfl)) (hw _ (List.mem_of_getElem? (i := 42) rfl)) (by decide) P38_0 (argsL := []) (rest := []) rfl rfl pd3 rfl rfl 0 (Nat.le_of_eq rfl) (by decide) (by decide) (by decide) (by decide) rfl rfl ?_
              rintro _ _ ⟨rfl, he42⟩
              refine Go.heap he42.symm ?_
              refine Go.some' ?_
              refine g_ldc2Long C iM_307 (hw _ (List.mem_of_getElem? (i := 43) rfl)) ?_
              refine g_lcmp C iM_310 ?_
              refine g_ifl_ne C iM_311 (fun hc311_1 => ?_) (fun hc311_1 => ?_)
              · refine g_iconst C (1 : Int32) iM_314 rfl ?_
                refine g_goto C iM_315 ?_
                have e0 : (vM_28 p0 p1 p2 p3 p4) = (1 : Int32) := by simp only [vM_28, if_neg hc299_1, if_pos hc311_1]
                exact Go.cast J (by rw [e0])
              · refine g_iconst C (0 : Int32) iM_318 rfl ?_
                have e0 : (vM_28 p0 p1 p2 p3 p4) = (0 : Int32) := by simp only [vM_28, if_neg hc299_1, if_neg hc311_1]
                exact Go.cast J (by rw [e0])
        · refine g_if_eq C iM_248 (fun hc248_1 => ?_) (fun hc248_1 => ?_)
          · refine g_iconst C (0 : Int32) iM_294 rfl ?_
            have e0 : (vM_26 p0 p1 p2 p3 p4) = (0 : Int32) := by simp only [vM_26, if_pos hc248_1]
            exact Go.cast J (by rw [e0])
          · refine g_iload C iM_251 rfl ?_
            refine g_lload C iM_253 rfl ?_
            refine g_iload C iM_255 rfl ?_
            refine g_lload C iM_257 rfl ?_
            refine g_iload C iM_259 rfl ?_
            refine g_bipush C (13 : Int32) iM_261 rfl ?_
            refine Go.join (mkF m 271 #[.val (.int p0), .val (.int p1), .val (.int p2), .val (.int p3), .val (.int p4), .val (.int ((p0 &&& (1 : Int32)) * (3 : Int32))), .val (.int (p1.toInt8.toInt32)), .val (.int (p2.toInt8.toInt32)), .val (.int (p3.toInt8.toInt32)), .val (.int (p4.toInt8.toInt32)), .val (.ref b24), .val (.int (vM_0 p0 p1 p2 p3 p4)), .val (.long (vM_1 p0 p1 p2 p3 p4)), .second, .val (.int (vM_18 p0 p1 p2 p3 p4)), .val (.int (vM_5 p0 p1 p2 p3 p4)), .val (.long (vM_6 p0 p1 p2 p3 p4)), .second, .val (.int (vM_12 p0 p1 p2 p3 p4)), .val (.long (vM_13 p0 p1 p2 p3 p4)), .second, .val (.int (vM_19 p0 p1 p2 p3 p4)), .val (.long (vM_20 p0 p1 p2 p3 p4)), .second] [(.int (vM_23 p0 p1 p2 p3 p4)), (.long (vM_20 p0 p1 p2 p3 p4)), (.int (vM_19 p0 p1 p2 p3 p4)), (.long (vM_13 p0 p1 p2 p3 p4)), (.int (vM_12 p0 p1 p2 p3 p4))]) ?_ (fun J => ?_)
            · refine g_iconst C (3 : Int32) iM_271 rfl ?_
              refine g_iload C iM_272 rfl ?_
              refine Go.join (mkF m 282 #[.val (.int p0), .val (.int p1), .val (.int p2), .val (.int p3), .val (.int p4), .val (.int ((p0 &&& (1 : Int32)) * (3 : Int32))), .val (.int (p1.toInt8.toInt32)), .val (.int (p2.toInt8.toInt32)), .val (.int (p3.toInt8.toInt32)), .val (.int (p4.toInt8.toInt32)), .val (.ref b24), .val (.int (vM_0 p0 p1 p2 p3 p4)), .val (.long (vM_1 p0 p1 p2 p3 p4)), .second, .val (.int (vM_18 p0 p1 p2 p3 p4)), .val (.int (vM_5 p0 p1 p2 p3 p4)), .val (.long (vM_6 p0 p1 p2 p3 p4)), .second, .val (.int (vM_12 p0 p1 p2 p3 p4)), .val (.long (vM_13 p0 p1 p2 p3 p4)), .second, .val (.int (vM_19 p0 p1 p2 p3 p4)), .val (.long (vM_20 p0 p1 p2 p3 p4)), .second] [(.int (vM_24 p0 p1 p2 p3 p4)), (.int (vM_23 p0 p1 p2 p3 p4)), (.long (vM_20 p0 p1 p2 p3 p4)), (.int (vM_19 p0 p1 p2 p3 p4)), (.long (vM_13 p0 p1 p2 p3 p4)), (.int (vM_12 p0 p1 p2 p3 p4))]) ?_ (fun J => ?_)
              · refine g_iload C iM_282 rfl ?_
                refine g_callS C (rmS l Z aZ hw (vM_12 p0 p1 p2 p3 p4) (vM_13 p0 p1 p2 p3 p4) (vM_19 p0 p1 p2 p3 p4) (vM_20 p0 p1 p2 p3 p4) (vM_23 p0 p1 p2 p3 p4) (vM_24 p0 p1 p2 p3 p4) (p4.toInt8.toInt32) h38 n0 Z38) iM_284 (hw _ (List.mem_of_getElem? (i := 34) rfl)) (hw _ (List.mem_of_getElem? (i := 35) rfl)) (hw _ (List.mem_of_getElem? (i := 36) rfl)) (hw _ (List.mem_of_getElem? (i := 37) rfl)) (by decide) (argsL := [(.int (vM_12 p0 p1 p2 p3 p4)), (.long (vM_13 p0 p1 p2 p3 p4)), (.int (vM_19 p0 p1 p2 p3 p4)), (.long (vM_20 p0 p1 p2 p3 p4)), (.int (vM_23 p0 p1 p2 p3 p4)), (.int (vM_24 p0 p1 p2 p3 p4)), (.int (p4.toInt8.toInt32))]) (rest := []) rfl rfl pd4 rfl rfl 0 (Nat.le_of_eq rfl) (by decide) (by decide) (by decide) (by decide) rfl rfl ?_
                rintro _ _ ⟨rfl, he41⟩
                refine Go.heap he41.symm ?_
                refine Go.some' ?_
                refine g_if_eq C iM_287 (fun hc287_1 => ?_) (fun hc287_1 => ?_)
                · refine g_iconst C (0 : Int32) iM_294 rfl ?_
                  have e0 : (vM_26 p0 p1 p2 p3 p4) = (0 : Int32) := by simp only [vM_26, if_neg hc248_1, if_pos hc287_1]
                  exact Go.cast J (by rw [e0])
                · refine g_iconst C (1 : Int32) iM_290 rfl ?_
                  refine g_goto C iM_291 ?_
                  have e0 : (vM_26 p0 p1 p2 p3 p4) = (1 : Int32) := by simp only [vM_26, if_neg hc248_1, if_neg hc287_1]
                  exact Go.cast J (by rw [e0])
              · refine g_icmp_lt C iM_274 (fun hc274_1 => ?_) (fun hc274_1 => ?_)
                · refine g_iconst C (0 : Int32) iM_281 rfl ?_
                  have e0 : (vM_24 p0 p1 p2 p3 p4) = (0 : Int32) := by simp only [vM_24, if_pos hc274_1]
                  exact Go.cast J (by rw [e0])
                · refine g_iconst C (1 : Int32) iM_277 rfl ?_
                  refine g_goto C iM_278 ?_
                  have e0 : (vM_24 p0 p1 p2 p3 p4) = (1 : Int32) := by simp only [vM_24, if_neg hc274_1]
                  exact Go.cast J (by rw [e0])
            · refine g_icmp_ne C iM_263 (fun hc263_1 => ?_) (fun hc263_1 => ?_)
              · refine g_iconst C (1 : Int32) iM_266 rfl ?_
                refine g_goto C iM_267 ?_
                have e0 : (vM_23 p0 p1 p2 p3 p4) = (1 : Int32) := by simp only [vM_23, if_pos hc263_1]
                exact Go.cast J (by rw [e0])
              · refine g_iconst C (0 : Int32) iM_270 rfl ?_
                have e0 : (vM_23 p0 p1 p2 p3 p4) = (0 : Int32) := by simp only [vM_23, if_neg hc263_1]
                exact Go.cast J (by rw [e0])
      · refine g_if_eq C iM_176 (fun hc176_1 => ?_) (fun hc176_1 => ?_)
        · refine g_iconst C (0 : Int32) iM_222 rfl ?_
          have e0 : (vM_18 p0 p1 p2 p3 p4) = (0 : Int32) := by simp only [vM_18, if_pos hc176_1]
          exact Go.cast J (by rw [e0])
        · refine g_iload C iM_179 rfl ?_
          refine g_lload C iM_181 rfl ?_
          refine g_iload C iM_183 rfl ?_
          refine g_lload C iM_185 rfl ?_
          refine g_iload C iM_187 rfl ?_
          refine g_bipush C (13 : Int32) iM_189 rfl ?_
          refine Go.join (mkF m 199 #[.val (.int p0), .val (.int p1), .val (.int p2), .val (.int p3), .val (.int p4), .val (.int ((p0 &&& (1 : Int32)) * (3 : Int32))), .val (.int (p1.toInt8.toInt32)), .val (.int (p2.toInt8.toInt32)), .val (.int (p3.toInt8.toInt32)), .val (.int (p4.toInt8.toInt32)), .val (.ref b24), .val (.int (vM_0 p0 p1 p2 p3 p4)), .val (.long (vM_1 p0 p1 p2 p3 p4)), .second, .val (.int (vM_11 p0 p1 p2 p3 p4)), .val (.int (vM_5 p0 p1 p2 p3 p4)), .val (.long (vM_6 p0 p1 p2 p3 p4)), .second, .val (.int (vM_12 p0 p1 p2 p3 p4)), .val (.long (vM_13 p0 p1 p2 p3 p4)), .second, .unset, .unset, .unset] [(.int (vM_15 p0 p1 p2 p3 p4)), (.long (vM_13 p0 p1 p2 p3 p4)), (.int (vM_12 p0 p1 p2 p3 p4)), (.long (vM_6 p0 p1 p2 p3 p4)), (.int (vM_5 p0 p1 p2 p3 p4))]) ?_ (fun J => ?_)
          · refine g_iconst C (2 : Int32) iM_199 rfl ?_
            refine g_iload C iM_200 rfl ?_
            refine Go.join (mkF m 210 #[.val (.int p0), .val (.int p1), .val (.int p2), .val (.int p3), .val (.int p4), .val (.int ((p0 &&& (1 : Int32)) * (3 : Int32))), .val (.int (p1.toInt8.toInt32)), .val (.int (p2.toInt8.toInt32)), .val (.int (p3.toInt8.toInt32)), .val (.int (p4.toInt8.toInt32)), .val (.ref b24), .val (.int (vM_0 p0 p1 p2 p3 p4)), .val (.long (vM_1 p0 p1 p2 p3 p4)), .second, .val (.int (vM_11 p0 p1 p2 p3 p4)), .val (.int (vM_5 p0 p1 p2 p3 p4)), .val (.long (vM_6 p0 p1 p2 p3 p4)), .second, .val (.int (vM_12 p0 p1 p2 p3 p4)), .val (.long (vM_13 p0 p1 p2 p3 p4)), .second, .unset, .unset, .unset] [(.int (vM_16 p0 p1 p2 p3 p4)), (.int (vM_15 p0 p1 p2 p3 p4)), (.long (vM_13 p0 p1 p2 p3 p4)), (.int (vM_12 p0 p1 p2 p3 p4)), (.long (vM_6 p0 p1 p2 p3 p4)), (.int (vM_5 p0 p1 p2 p3 p4))]) ?_ (fun J => ?_)
            · refine g_iload C iM_210 rfl ?_
              refine g_callS C (rmS l Z aZ hw (vM_5 p0 p1 p2 p3 p4) (vM_6 p0 p1 p2 p3 p4) (vM_12 p0 p1 p2 p3 p4) (vM_13 p0 p1 p2 p3 p4) (vM_15 p0 p1 p2 p3 p4) (vM_16 p0 p1 p2 p3 p4) (p3.toInt8.toInt32) h34 n0 Z34) iM_212 (hw _ (List.mem_of_getElem? (i := 34) rfl)) (hw _ (List.mem_of_getElem? (i := 35) rfl)) (hw _ (List.mem_of_getElem? (i := 36) rfl)) (hw _ (List.mem_of_getElem? (i := 37) rfl)) (by decide) (argsL := [(.int (vM_5 p0 p1 p2 p3 p4)), (.long (vM_6 p0 p1 p2 p3 p4)), (.int (vM_12 p0 p1 p2 p3 p4)), (.long (vM_13 p0 p1 p2 p3 p4)), (.int (vM_15 p0 p1 p2 p3 p4)), (.int (vM_16 p0 p1 p2 p3 p4)), (.int (p3.toInt8.toInt32))]) (rest := []) rfl rfl pd4 rfl rfl 0 (Nat.le_of_eq rfl) (by decide) (by decide) (by decide) (by decide) rfl rfl ?_
              rintro _ _ ⟨rfl, he37⟩
              refine Go.heap he37.symm ?_
              refine Go.some' ?_
              refine g_if_eq C iM_215 (fun hc215_1 => ?_) (fun hc215_1 => ?_)
              · refine g_iconst C (0 : Int32) iM_222 rfl ?_
                have e0 : (vM_18 p0 p1 p2 p3 p4) = (0 : Int32) := by simp only [vM_18, if_neg hc176_1, if_pos hc215_1]
                exact Go.cast J (by rw [e0])
              · refine g_iconst C (1 : Int32) iM_218 rfl ?_
                refine g_goto C iM_219 ?_
                have e0 : (vM_18 p0 p1 p2 p3 p4) = (1 : Int32) := by simp only [vM_18, if_neg hc176_1, if_neg hc215_1]
                exact Go.cast J (by rw [e0])
            · refine g_icmp_lt C iM_202 (fun hc202_1 => ?_) (fun hc202_1 => ?_)
              · refine g_iconst C (0 : Int32) iM_209 rfl ?_
                have e0 : (vM_16 p0 p1 p2 p3 p4) = (0 : Int32) := by simp only [vM_16, if_pos hc202_1]
                exact Go.cast J (by rw [e0])
              · refine g_iconst C (1 : Int32) iM_205 rfl ?_
                refine g_goto C iM_206 ?_
                have e0 : (vM_16 p0 p1 p2 p3 p4) = (1 : Int32) := by simp only [vM_16, if_neg hc202_1]
                exact Go.cast J (by rw [e0])
          · refine g_icmp_ne C iM_191 (fun hc191_1 => ?_) (fun hc191_1 => ?_)
            · refine g_iconst C (1 : Int32) iM_194 rfl ?_
              refine g_goto C iM_195 ?_
              have e0 : (vM_15 p0 p1 p2 p3 p4) = (1 : Int32) := by simp only [vM_15, if_pos hc191_1]
              exact Go.cast J (by rw [e0])
            · refine g_iconst C (0 : Int32) iM_198 rfl ?_
              have e0 : (vM_15 p0 p1 p2 p3 p4) = (0 : Int32) := by simp only [vM_15, if_neg hc191_1]
              exact Go.cast J (by rw [e0])
    · refine g_if_eq C iM_104 (fun hc104_1 => ?_) (fun hc104_1 => ?_)
      · refine g_iconst C (0 : Int32) iM_150 rfl ?_
        have e0 : (vM_11 p0 p1 p2 p3 p4) = (0 : Int32) := by simp only [vM_11, if_pos hc104_1]
        exact Go.cast J (by rw [e0])
      · refine g_iload C iM_107 rfl ?_
        refine g_lload C iM_109 rfl ?_
        refine g_iload C iM_111 rfl ?_
        refine g_lload C iM_113 rfl ?_
        refine g_iload C iM_115 rfl ?_
        refine g_bipush C (13 : Int32) iM_117 rfl ?_
        refine Go.join (mkF m 127 #[.val (.int p0), .val (.int p1), .val (.int p2), .val (.int p3), .val (.int p4), .val (.int ((p0 &&& (1 : Int32)) * (3 : Int32))), .val (.int (p1.toInt8.toInt32)), .val (.int (p2.toInt8.toInt32)), .val (.int (p3.toInt8.toInt32)), .val (.int (p4.toInt8.toInt32)), .val (.ref b24), .val (.int (vM_0 p0 p1 p2 p3 p4)), .val (.long (vM_1 p0 p1 p2 p3 p4)), .second, .val (.int (vM_4 p0 p1 p2 p3 p4)), .val (.int (vM_5 p0 p1 p2 p3 p4)), .val (.long (vM_6 p0 p1 p2 p3 p4)), .second, .unset, .unset, .unset, .unset, .unset, .unset] [(.int (vM_8 p0 p1 p2 p3 p4)), (.long (vM_6 p0 p1 p2 p3 p4)), (.int (vM_5 p0 p1 p2 p3 p4)), (.long (vM_1 p0 p1 p2 p3 p4)), (.int (vM_0 p0 p1 p2 p3 p4))]) ?_ (fun J => ?_)
        · refine g_iconst C (1 : Int32) iM_127 rfl ?_
          refine g_iload C iM_128 rfl ?_
          refine Go.join (mkF m 138 #[.val (.int p0), .val (.int p1), .val (.int p2), .val (.int p3), .val (.int p4), .val (.int ((p0 &&& (1 : Int32)) * (3 : Int32))), .val (.int (p1.toInt8.toInt32)), .val (.int (p2.toInt8.toInt32)), .val (.int (p3.toInt8.toInt32)), .val (.int (p4.toInt8.toInt32)), .val (.ref b24), .val (.int (vM_0 p0 p1 p2 p3 p4)), .val (.long (vM_1 p0 p1 p2 p3 p4)), .second, .val (.int (vM_4 p0 p1 p2 p3 p4)), .val (.int (vM_5 p0 p1 p2 p3 p4)), .val (.long (vM_6 p0 p1 p2 p3 p4)), .second, .unset, .unset, .unset, .unset, .unset, .unset] [(.int (vM_9 p0 p1 p2 p3 p4)), (.int (vM_8 p0 p1 p2 p3 p4)), (.long (vM_6 p0 p1 p2 p3 p4)), (.int (vM_5 p0 p1 p2 p3 p4)), (.long (vM_1 p0 p1 p2 p3 p4)), (.int (vM_0 p0 p1 p2 p3 p4))]) ?_ (fun J => ?_)
          · refine g_iload C iM_138 rfl ?_
            refine g_callS C (rmS l Z aZ hw (vM_0 p0 p1 p2 p3 p4) (vM_1 p0 p1 p2 p3 p4) (vM_5 p0 p1 p2 p3 p4) (vM_6 p0 p1 p2 p3 p4) (vM_8 p0 p1 p2 p3 p4) (vM_9 p0 p1 p2 p3 p4) (p2.toInt8.toInt32) h30 n0 Z30) iM_140 (hw _ (List.mem_of_getElem? (i := 34) rfl)) (hw _ (List.mem_of_getElem? (i := 35) rfl)) (hw _ (List.mem_of_getElem? (i := 36) rfl)) (hw _ (List.mem_of_getElem? (i := 37) rfl)) (by decide) (argsL := [(.int (vM_0 p0 p1 p2 p3 p4)), (.long (vM_1 p0 p1 p2 p3 p4)), (.int (vM_5 p0 p1 p2 p3 p4)), (.long (vM_6 p0 p1 p2 p3 p4)), (.int (vM_8 p0 p1 p2 p3 p4)), (.int (vM_9 p0 p1 p2 p3 p4)), (.int (p2.toInt8.toInt32))]) (rest := []) rfl rfl pd4 rfl rfl 0 (Nat.le_of_eq rfl) (by decide) (by decide) (by decide) (by decide) rfl rfl ?_
            rintro _ _ ⟨rfl, he33⟩
            refine Go.heap he33.symm ?_
            refine Go.some' ?_
            refine g_if_eq C iM_143 (fun hc143_1 => ?_) (fun hc143_1 => ?_)
            · refine g_iconst C (0 : Int32) iM_150 rfl ?_
              have e0 : (vM_11 p0 p1 p2 p3 p4) = (0 : Int32) := by simp only [vM_11, if_neg hc104_1, if_pos hc143_1]
              exact Go.cast J (by rw [e0])
            · refine g_iconst C (1 : Int32) iM_146 rfl ?_
              refine g_goto C iM_147 ?_
              have e0 : (vM_11 p0 p1 p2 p3 p4) = (1 : Int32) := by simp only [vM_11, if_neg hc104_1, if_neg hc143_1]
              exact Go.cast J (by rw [e0])
          · refine g_icmp_lt C iM_130 (fun hc130_1 => ?_) (fun hc130_1 => ?_)
            · refine g_iconst C (0 : Int32) iM_137 rfl ?_
              have e0 : (vM_9 p0 p1 p2 p3 p4) = (0 : Int32) := by simp only [vM_9, if_pos hc130_1]
              exact Go.cast J (by rw [e0])
            · refine g_iconst C (1 : Int32) iM_133 rfl ?_
              refine g_goto C iM_134 ?_
              have e0 : (vM_9 p0 p1 p2 p3 p4) = (1 : Int32) := by simp only [vM_9, if_neg hc130_1]
              exact Go.cast J (by rw [e0])
        · refine g_icmp_ne C iM_119 (fun hc119_1 => ?_) (fun hc119_1 => ?_)
          · refine g_iconst C (1 : Int32) iM_122 rfl ?_
            refine g_goto C iM_123 ?_
            have e0 : (vM_8 p0 p1 p2 p3 p4) = (1 : Int32) := by simp only [vM_8, if_pos hc119_1]
            exact Go.cast J (by rw [e0])
          · refine g_iconst C (0 : Int32) iM_126 rfl ?_
            have e0 : (vM_8 p0 p1 p2 p3 p4) = (0 : Int32) := by simp only [vM_8, if_neg hc119_1]
            exact Go.cast J (by rw [e0])
  · refine g_icmp_lt C iM_66 (fun hc66_1 => ?_) (fun hc66_1 => ?_)
    · refine g_iconst C (0 : Int32) iM_73 rfl ?_
      have e0 : (vM_3 p0 p1 p2 p3 p4) = (0 : Int32) := by simp only [vM_3, if_pos hc66_1]
      exact Go.cast J (by rw [e0])
    · refine g_iconst C (1 : Int32) iM_69 rfl ?_
      refine g_goto C iM_70 ?_
      have e0 : (vM_3 p0 p1 p2 p3 p4) = (1 : Int32) := by simp only [vM_3, if_neg hc66_1]
      exact Go.cast J (by rw [e0])
set_option maxRecDepth 65536 in
set_option maxHeartbeats 40000000 in
theorem comes_1 {Post : Tables → Env → Array Value → State → Outcome → State → Prop} (hpost : ∀ tb e args s v u, (limb_1_1.after args s (.returned v) u = true ∧ limb_1_2.after args s (.returned v) u = true ∧ True) → FrameEnd s (.returned v) u (Jvm.fieldLocs frame_1_writes args s ++ Jvm.arrayLocs frame_1_arrays args s ++ Jvm.staticLocs frame_1_statics s) 16 128 → Post tb e args s (.returned v) u) :
    ArmFor flags0 classFile x code maxLocals ret World_1 tables_1 room_1 Calls_1 rest_1 Pre_1 Post := by
  intro l hfl _ _ p e ha hc hk s m args below hf hA hF happ hP
  obtain ⟨hcalls, hrest, hpre⟩ := hP
  obtain ⟨-, -, -, hnamed, -, -, -, hat⟩ := (Spec.applies_iff hf).mp happ
  obtain ⟨hg, hn⟩ := and_e (Cond.before_iff.mp (show (Jvm.Cond.and given_1 narrow_1).before args s = true from hpre))
  obtain ⟨gg1, gg2⟩ := and_e hg
  obtain ⟨gg3, gg4⟩ := and_e gg2
  obtain ⟨gg5, gg6⟩ := and_e gg4
  obtain ⟨gg7, gg8⟩ := and_e gg6
  obtain ⟨gg9, gg10⟩ := and_e gg8
  obtain ⟨w0, w1, w2, w3, w4, rfl⟩ : ∃ w0 w1 w2 w3 w4 : Value, args = #[w0, w1, w2, w3, w4] := by
    have hs : args.size = 5 := by simpa [Cond.value, given_1] using gg1
    obtain ⟨L⟩ := args
    match L, hs with
    | [w0, w1, w2, w3, w4], _ => exact ⟨w0, w1, w2, w3, w4, rfl⟩
  have hw := fun d (hd : d ∈ tables_1) => atoms_spec (ws := Jvm.Cond.code x code maxLocals ret :: tables_1) hat d (List.mem_cons_of_mem _ hd)
  have hfit : Fit s := fun {y c} hc i hi => by
    obtain ⟨ha, rfl⟩ := Array.getElem?_eq_some_iff.mp hc
    have q := List.all_eq_true.mp ((Array.all_eq_true_iff_forall_mem.mp hF) _ (Array.getElem_mem ha)) i (List.mem_range.mpr hi)
    simpa [Array.getElem?_eq_getElem hi] using q
  obtain ⟨i0, ei0⟩ := is_v gg3
  obtain rfl : w0 = (.int i0) := Option.some.inj ei0
  obtain ⟨i1, ei1⟩ := is_v gg5
  obtain rfl : w1 = (.int i1) := Option.some.inj ei1
  obtain ⟨i2, ei2⟩ := is_v gg7
  obtain rfl : w2 = (.int i2) := Option.some.inj ei2
  obtain ⟨i3, ei3⟩ := is_v gg9
  obtain rfl : w3 = (.int i3) := Option.some.inj ei3
  obtain ⟨i4, ei4⟩ := is_v gg10
  obtain rfl : w4 = (.int i4) := Option.some.inj ei4
  obtain ⟨n, o, h1, h2, h3, _, L, rfl, ⟨rfl, N⟩, hq⟩ := rmM l s _ hw i0 i1 i2 i3 i4 s.heap s.heap.size (Nat.le_refl _) tables_1 p e ha hc hk s m _ below hf ((Spec.applies_iff_loose hf).mp happ).1 ⟨rfl, State.Warmed39.refl s, rfl⟩ trivial
  refine ⟨n, _, h1, h2, h3, hpost _ _ _ _ _ _ ⟨Cond.after_iff.mpr rfl, Cond.after_iff.mpr (eq_i res_at (Term.int_eval (1)) rfl), trivial⟩ ⟨hq.1, hq.2.1, (hq.2.2.sift fun y hy => Or.inr (N y hy)).mono (by decide) (by decide)⟩⟩
theorem main_1_1 : Claimed_1_1 := comes_1 fun _ _ _ _ _ _ h hF => ⟨h.1, hF⟩
theorem main_1_2 : Claimed_1_2 := comes_1 fun _ _ _ _ _ _ h hF => ⟨h.2.1, hF⟩
end Jvm.Pilot.@@N@@
namespace Jvm.Pilot.@@N@@
open Jvm Jvm.ClassFile Sem Op Lib Jvm.Free Jvm.Stand Jvm.Pilot.@@N@@.Jvm.D
/-! MADE BY PROGRAM (witnessworld.py) out of the Statement's table words and the real class files: 9 classes; the members and pool entries that the words name. The judged class is class 1, her method 2. -/
namespace start1
open Jvm.ClassFile
def u (s : String) : CpInfo := .utf8 (stringToUtf16 s)
/-- a pool by its gaps: so many unusable entries, then the entry; so many at the end -/
def gap : Nat → List CpInfo → List CpInfo
  | 0, r => r
  | n + 1, r => .unusable :: gap n r
def poolList (es : List (Nat × CpInfo)) (last : Nat) : List CpInfo := es.foldr (fun e r => gap e.1 (e.2 :: r)) (gap last [])
def pool (es : List (Nat × CpInfo)) (last : Nat) : Array CpInfo := ⟨poolList es last⟩
def fileOf (pool : Array CpInfo) (this : Nat) (attrs : Array Attribute := #[]) (ms : Array MethodInfo := #[]) (fl : Nat := 33) (sup : Nat := 0) (ifs : Array Nat := #[]) (fds : Array FieldInfo := #[]) : ClassFile where
  minorVersion := 0
  majorVersion := 65
  constantPool := pool
  accessFlags := fl
  thisClass := this
  superClass := sup
  interfaces := ifs
  fields := fds
  methods := ms
  attributes := attrs
def plain (name : String) (sup : Option ClassId) : Class where
  name := name
  kind := .ordinary
  loader := none
  accessFlags := 33
  super := sup
  interfaces := #[]
  cf := none
  fields := #[]
  methods := #[]
  instanceTypes := #[]
  staticTypes := #[]
  resolved := #[]
  callSites := []
  init := .initialized
  statics := none
  mirror := none

def pool0 : Array CpInfo := pool [(5, u "<init>"), (0, u "()V"), (1, .class_ 10), (1, u "java/lang/Object")] 113

def k0c0 : Code := { maxStack := 0, maxLocals := 1, code := object_method_1_code, exceptionTable := #[], attributes := #[] }
def k0m0 : Method := { name := "<init>", desc := "()V", sig := { parameters := [], returnType := none }, accessFlags := 1, code := some k0c0 }
/-- java/lang/Object -/
def k0 : Class := { plain "java/lang/Object" none with
  accessFlags := 33
  interfaces := #[]
  cf := some (fileOf pool0 8 #[] #[{ accessFlags := 1, nameIndex := 5, descriptorIndex := 6, attributes := #[] }] 33 0 #[] #[])
  fields := #[]
  methods := #[k0m0]
  instanceTypes := #[]
  staticTypes := #[]
  resolved := Array.replicate 124 none
  statics := none }

def pool1 : Array CpInfo := pool [(2, .class_ 4), (1, u "java/lang/Object"), (0, u "<init>"), (0, u "()V"), (0, .long 2), (1, .class_ 10), (0, u "com/example/firm_input/firminput/TextPosition"), (0, .methodref 9 12), (0, .nameAndType 5 13), (0, u "(I)V"), (0, .methodref 9 15), (0, .nameAndType 16 17), (0, u "advance"), (0, u "(B)V"), (0, .methodref 9 19), (0, .nameAndType 20 21), (0, u "line"), (0, u "()I"), (0, .methodref 9 23), (0, .nameAndType 24 25), (0, u "column"), (0, u "()J"), (0, .methodref 27 28), (0, .class_ 29), (0, .nameAndType 30 31), (0, u "com/example/firm_input/firminput/TextPositionAdvancePinLaw"), (0, u "step"), (0, u "(IJIJZZB)Z"), (0, .methodref 9 33), (0, .nameAndType 34 25), (0, u "offset"), (0, .long 4), (4, u "law"), (0, u "(IIIII)Z")] 2

def k1m0 : Method := { name := "<init>", desc := "()V", sig := { parameters := [], returnType := none }, accessFlags := 1, code := none }
def k1c1 : Code := { maxStack := 6, maxLocals := 10, code := method_2_code, exceptionTable := #[], attributes := #[] }
def k1m1 : Method := { name := "step", desc := "(IJIJZZB)Z", sig := { parameters := [.int, .long, .int, .long, .boolean, .boolean, .byte], returnType := some .boolean }, accessFlags := 10, code := some k1c1 }
def k1c2 : Code := { maxStack := 9, maxLocals := 24, code := code, exceptionTable := #[], attributes := #[] }
def k1m2 : Method := { name := "law", desc := "(IIIII)Z", sig := { parameters := [.int, .int, .int, .int, .int], returnType := some .boolean }, accessFlags := 9, code := some k1c2 }
/-- com/example/firm_input/firminput/TextPositionAdvancePinLaw -/
def k1 : Class := { plain "com/example/firm_input/firminput/TextPositionAdvancePinLaw" (some 0) with
  accessFlags := 49
  interfaces := #[]
  cf := some (fileOf pool1 27 #[] #[{ accessFlags := 1, nameIndex := 5, descriptorIndex := 6, attributes := #[] }, { accessFlags := 10, nameIndex := 30, descriptorIndex := 31, attributes := #[] }, { accessFlags := 9, nameIndex := 40, descriptorIndex := 41, attributes := #[] }] 49 2 #[] #[])
  fields := #[]
  methods := #[k1m0, k1m1, k1m2]
  instanceTypes := #[]
  staticTypes := #[]
  resolved := Array.replicate 44 none
  statics := none }

def pool2 : Array CpInfo := pool [(1, .methodref 2 3), (0, .class_ 4), (0, .nameAndType 5 6), (0, u "java/lang/Object"), (0, u "<init>"), (0, u "()V"), (0, .fieldref 8 9), (0, .class_ 10), (0, .nameAndType 11 12), (0, u "com/example/firm_input/firminput/TextPosition"), (0, u "line"), (0, u "I"), (0, .fieldref 8 14), (0, .nameAndType 15 16), (0, u "column"), (0, u "J"), (0, .fieldref 8 18), (0, .nameAndType 19 12), (0, u "byteOrderMark"), (2, u "(I)V"), (0, .fieldref 8 24), (0, .nameAndType 25 16), (0, u "offset"), (0, .fieldref 8 27), (0, .nameAndType 28 29), (0, u "afterReturn"), (0, u "Z"), (11, u "advance"), (0, u "(B)V"), (1, u "()J"), (0, u "()I")] 19

def k2c0 : Code := { maxStack := 3, maxLocals := 2, code := prog_16_method_1_code, exceptionTable := #[], attributes := #[] }
def k2m0 : Method := { name := "<init>", desc := "(I)V", sig := { parameters := [.int], returnType := none }, accessFlags := 0, code := some k2c0 }
def k2c1 : Code := { maxStack := 5, maxLocals := 2, code := prog_16_method_4_code, exceptionTable := #[], attributes := #[] }
def k2m1 : Method := { name := "advance", desc := "(B)V", sig := { parameters := [.byte], returnType := none }, accessFlags := 0, code := some k2c1 }
def k2c2 : Code := { maxStack := 2, maxLocals := 1, code := prog_16_method_5_code, exceptionTable := #[], attributes := #[] }
def k2m2 : Method := { name := "offset", desc := "()J", sig := { parameters := [], returnType := some .long }, accessFlags := 0, code := some k2c2 }
def k2c3 : Code := { maxStack := 1, maxLocals := 1, code := prog_16_method_6_code, exceptionTable := #[], attributes := #[] }
def k2m3 : Method := { name := "line", desc := "()I", sig := { parameters := [], returnType := some .int }, accessFlags := 0, code := some k2c3 }
def k2c4 : Code := { maxStack := 2, maxLocals := 1, code := prog_16_method_7_code, exceptionTable := #[], attributes := #[] }
def k2m4 : Method := { name := "column", desc := "()J", sig := { parameters := [], returnType := some .long }, accessFlags := 0, code := some k2c4 }
/-- com/example/firm_input/firminput/TextPosition -/
def k2 : Class := { plain "com/example/firm_input/firminput/TextPosition" (some 0) with
  accessFlags := 48
  interfaces := #[]
  cf := some (fileOf pool2 8 #[] #[{ accessFlags := 0, nameIndex := 5, descriptorIndex := 22, attributes := #[] }, { accessFlags := 0, nameIndex := 41, descriptorIndex := 42, attributes := #[] }, { accessFlags := 0, nameIndex := 25, descriptorIndex := 44, attributes := #[] }, { accessFlags := 0, nameIndex := 11, descriptorIndex := 45, attributes := #[] }, { accessFlags := 0, nameIndex := 15, descriptorIndex := 44, attributes := #[] }] 48 2 #[] #[{ accessFlags := 18, nameIndex := 19, descriptorIndex := 12, attributes := #[] }, { accessFlags := 2, nameIndex := 25, descriptorIndex := 16, attributes := #[] }, { accessFlags := 2, nameIndex := 11, descriptorIndex := 12, attributes := #[] }, { accessFlags := 2, nameIndex := 15, descriptorIndex := 16, attributes := #[] }, { accessFlags := 2, nameIndex := 28, descriptorIndex := 29, attributes := #[] }])
  fields := #[{ name := "byteOrderMark", type := .int, accessFlags := 18, slot := 0, constantValue := 0 }, { name := "offset", type := .long, accessFlags := 2, slot := 1, constantValue := 0 }, { name := "line", type := .int, accessFlags := 2, slot := 2, constantValue := 0 }, { name := "column", type := .long, accessFlags := 2, slot := 3, constantValue := 0 }, { name := "afterReturn", type := .boolean, accessFlags := 2, slot := 4, constantValue := 0 }]
  methods := #[k2m0, k2m1, k2m2, k2m3, k2m4]
  instanceTypes := #[.int, .long, .int, .long, .boolean]
  staticTypes := #[]
  resolved := Array.replicate 65 none
  statics := none }

def pool3 : Array CpInfo := pool [(1, u "java/lang/Cloneable"), (0, .class_ 1), (0, u "java/lang/Object"), (0, .class_ 3)] 3

/-- java/lang/Cloneable -/
def k3 : Class := { plain "java/lang/Cloneable" (some 0) with
  accessFlags := 1537
  interfaces := #[]
  cf := some (fileOf pool3 2 #[] #[] 1537 4 #[] #[])
  fields := #[]
  methods := #[]
  instanceTypes := #[]
  staticTypes := #[]
  resolved := Array.replicate 8 none
  statics := none }

def pool4 : Array CpInfo := pool [(1, u "java/io/Serializable"), (0, .class_ 1), (0, u "java/lang/Object"), (0, .class_ 3)] 3

/-- java/io/Serializable -/
def k4 : Class := { plain "java/io/Serializable" (some 0) with
  accessFlags := 1537
  interfaces := #[]
  cf := some (fileOf pool4 2 #[] #[] 1537 4 #[] #[])
  fields := #[]
  methods := #[]
  instanceTypes := #[]
  staticTypes := #[]
  resolved := Array.replicate 8 none
  statics := none }

/-- the primitive byte -/
def k5 : Class := { plain "byte" none with kind := .primitive 'B', accessFlags := 0x411 }
/-- [B -/
def k6 : Class := { plain "[B" (some 0) with kind := .array 5 .byte, interfaces := #[3, 4], accessFlags := 1041 }

/-- the primitive int -/
def k7 : Class := { plain "int" none with kind := .primitive 'I', accessFlags := 0x411 }
/-- [I -/
def k8 : Class := { plain "[I" (some 0) with kind := .array 7 .int, interfaces := #[3, 4], accessFlags := 1041 }

def heap : Heap := #[]
def classes : Array Class := #[k0, k1, k2, k3, k4, k5, k6, k7, k8]
def interned : List (Array UInt16 × Addr) := []
def slotsUsed : Nat := 0
def theMethod : MethodId := ⟨1, 2⟩
def args0 : Array Value := #[.int 5, .int 6, .int 7, .int 8, .int 8]
def aboutOver (below : List Frame) : State where
  vm := { classes := classes, interned := interned.toArray }
  heap := heap
  slotsUsed := slotsUsed
  threads := #[{ frames := .invoking theMethod args0 :: below }]
def below0 : List Frame := [.native { method := ⟨0, 0⟩, args := #[] }]
def about1 : State := aboutOver below0
def p0 : Program := .bare "" "" ""
def e0 : Env := launch0.env 0 0 0
theorem w_frames : about1.frames = Frame.invoking theMethod args0 :: below0 := rfl
set_option maxRecDepth 65536 in
theorem w_args : argsFit about1.vm theMethod args0 = true := by decide +kernel
set_option maxRecDepth 65536 in
theorem w_heap : heapFits about1 = true := by decide +kernel
set_option maxRecDepth 65536 in
theorem w_runnable : about1.curStatus? = some .runnable := by decide +kernel
set_option maxRecDepth 65536 in
theorem w_alone : about1.alone = true := by decide +kernel
set_option maxRecDepth 65536 in
theorem w_named : about1.methodNamed? x = some theMethod := by decide +kernel
set_option maxRecDepth 65536 in
theorem w_hears : about1.hears theMethod below0 = true := by decide +kernel
set_option maxRecDepth 65536 in
theorem w_ripe : about1.ripe theMethod args0 below0 = true := by decide +kernel
theorem w_running : about1.status = .running := rfl
set_option maxRecDepth 65536 in
theorem w_room : about1.hasRoom e0.platform room_1 = true :=
  launch0.hasRoom_least _ room_1 (by decide +kernel) (by decide +kernel) (by decide +kernel) (by decide +kernel) (by decide +kernel) (by decide +kernel)
theorem allAtoms_all (ts : List Jvm.Cond) (a : Array Jvm.Value) (st : Jvm.State) : (allAtoms ts).before a st = ts.all (fun c => c.before a st) := by
  induction ts with
  | nil => rfl
  | cons c t ih =>
    show (Jvm.Cond.and c (allAtoms t)).before a st = _
    rw [Jvm.Cond.before_and, ih, List.all_cons]
def words1 : List Jvm.Cond := Jvm.Cond.code x code maxLocals ret :: tables_1
/-- a 'code' word, met by the world's own term for the bytes: nothing is compared byte by byte -/
theorem code_word {y : MethodName} {bytes : ByteArray} {mx : Nat} {rt : Option FieldType} {a : Array Value} {s : State} {m : MethodId} {meth : Method} {c : Code} (h1 : s.methodNamed? y = some m) (h2 : s.vm.method? m = some meth) (h3 : meth.code = some c) (h4 : c.code = bytes)
    (h5 : (c.maxLocals == mx && c.exceptionTable.isEmpty && decide (c.maxStack ≤ mostOperands) && decide (meth.sig.returnType = rt) && !meth.locks && decide (parseMethodDescriptor y.desc = some meth.sig)) = true) : (Jvm.Cond.code y bytes mx rt).before a s = true := by
  simp only [Bool.and_eq_true, beq_iff_eq, Bool.not_eq_true', decide_eq_true_eq] at h5
  obtain ⟨⟨⟨⟨⟨g1, g2⟩, g3⟩, g4⟩, g5⟩, g6⟩ := h5
  simp [Cond.before, Cond.holds, Cond.value, h1, h2, h3, h4, g1, g2, g3, g4, g5, g6]
def isCode : Jvm.Cond → Bool
  | .code _ _ _ _ => true
  | _ => false
theorem all_split {L : List Jvm.Cond} {P : Jvm.Cond → Bool} (h1 : L.all (fun c => isCode c || P c) = true) (h2 : ∀ c ∈ L.filter isCode, P c = true) : L.all P = true := by
  refine List.all_eq_true.mpr fun c hc => ?_
  have h := List.all_eq_true.mp h1 c hc
  rcases Bool.eq_false_or_eq_true (isCode c) with hi | hi
  · exact h2 c (List.mem_filter.mpr ⟨hc, hi⟩)
  · simpa [hi] using h
set_option maxRecDepth 65536 in
theorem w_c0 : (Jvm.Cond.code x code maxLocals ret).before args0 about1 = true := code_word (m := ⟨1, 2⟩) (meth := k1m2) (c := k1c2) (by decide +kernel) rfl rfl rfl (by decide +kernel)
set_option maxRecDepth 65536 in
theorem w_c1 : (Jvm.Cond.code ({ cls := "com/example/firm_input/firminput/TextPosition", name := "<init>", desc := "(I)V" } : Jvm.MethodName) prog_16_method_1_code (2 : Nat) (Option.none : Option Jvm.ClassFile.FieldType)).before args0 about1 = true := code_word (m := ⟨2, 0⟩) (meth := k2m0) (c := k2c0) (by decide +kernel) rfl rfl rfl (by decide +kernel)
set_option maxRecDepth 65536 in
theorem w_c2 : (Jvm.Cond.code ({ cls := "java/lang/Object", name := "<init>", desc := "()V" } : Jvm.MethodName) object_method_1_code (1 : Nat) (Option.none : Option Jvm.ClassFile.FieldType)).before args0 about1 = true := code_word (m := ⟨0, 0⟩) (meth := k0m0) (c := k0c0) (by decide +kernel) rfl rfl rfl (by decide +kernel)
set_option maxRecDepth 65536 in
theorem w_c3 : (Jvm.Cond.code ({ cls := "com/example/firm_input/firminput/TextPosition", name := "advance", desc := "(B)V" } : Jvm.MethodName) prog_16_method_4_code (2 : Nat) (Option.none : Option Jvm.ClassFile.FieldType)).before args0 about1 = true := code_word (m := ⟨2, 1⟩) (meth := k2m1) (c := k2c1) (by decide +kernel) rfl rfl rfl (by decide +kernel)
set_option maxRecDepth 65536 in
theorem w_c4 : (Jvm.Cond.code ({ cls := "com/example/firm_input/firminput/TextPosition", name := "line", desc := "()I" } : Jvm.MethodName) prog_16_method_6_code (1 : Nat) (Option.some Jvm.ClassFile.FieldType.int)).before args0 about1 = true := code_word (m := ⟨2, 3⟩) (meth := k2m3) (c := k2c3) (by decide +kernel) rfl rfl rfl (by decide +kernel)
set_option maxRecDepth 65536 in
theorem w_c5 : (Jvm.Cond.code ({ cls := "com/example/firm_input/firminput/TextPosition", name := "column", desc := "()J" } : Jvm.MethodName) prog_16_method_7_code (1 : Nat) (Option.some Jvm.ClassFile.FieldType.long)).before args0 about1 = true := code_word (m := ⟨2, 4⟩) (meth := k2m4) (c := k2c4) (by decide +kernel) rfl rfl rfl (by decide +kernel)
set_option maxRecDepth 65536 in
theorem w_c6 : (Jvm.Cond.code ({ cls := "com/example/firm_input/firminput/TextPositionAdvancePinLaw", name := "step", desc := "(IJIJZZB)Z" } : Jvm.MethodName) method_2_code (10 : Nat) (Option.some Jvm.ClassFile.FieldType.boolean)).before args0 about1 = true := code_word (m := ⟨1, 1⟩) (meth := k1m1) (c := k1c1) (by decide +kernel) rfl rfl rfl (by decide +kernel)
set_option maxRecDepth 65536 in
theorem w_c7 : (Jvm.Cond.code ({ cls := "com/example/firm_input/firminput/TextPosition", name := "offset", desc := "()J" } : Jvm.MethodName) prog_16_method_5_code (1 : Nat) (Option.some Jvm.ClassFile.FieldType.long)).before args0 about1 = true := code_word (m := ⟨2, 2⟩) (meth := k2m2) (c := k2c2) (by decide +kernel) rfl rfl rfl (by decide +kernel)
def codes1 : List Jvm.Cond := [Jvm.Cond.code x code maxLocals ret, Jvm.Cond.code ({ cls := "com/example/firm_input/firminput/TextPosition", name := "<init>", desc := "(I)V" } : Jvm.MethodName) prog_16_method_1_code (2 : Nat) (Option.none : Option Jvm.ClassFile.FieldType), Jvm.Cond.code ({ cls := "java/lang/Object", name := "<init>", desc := "()V" } : Jvm.MethodName) object_method_1_code (1 : Nat) (Option.none : Option Jvm.ClassFile.FieldType), Jvm.Cond.code ({ cls := "com/example/firm_input/firminput/TextPosition", name := "advance", desc := "(B)V" } : Jvm.MethodName) prog_16_method_4_code (2 : Nat) (Option.none : Option Jvm.ClassFile.FieldType), Jvm.Cond.code ({ cls := "com/example/firm_input/firminput/TextPosition", name := "line", desc := "()I" } : Jvm.MethodName) prog_16_method_6_code (1 : Nat) (Option.some Jvm.ClassFile.FieldType.int), Jvm.Cond.code ({ cls := "com/example/firm_input/firminput/TextPosition", name := "column", desc := "()J" } : Jvm.MethodName) prog_16_method_7_code (1 : Nat) (Option.some Jvm.ClassFile.FieldType.long), Jvm.Cond.code ({ cls := "com/example/firm_input/firminput/TextPositionAdvancePinLaw", name := "step", desc := "(IJIJZZB)Z" } : Jvm.MethodName) method_2_code (10 : Nat) (Option.some Jvm.ClassFile.FieldType.boolean), Jvm.Cond.code ({ cls := "com/example/firm_input/firminput/TextPosition", name := "offset", desc := "()J" } : Jvm.MethodName) prog_16_method_5_code (1 : Nat) (Option.some Jvm.ClassFile.FieldType.long)]
set_option maxRecDepth 65536 in
theorem codes_eq : words1.filter isCode = codes1 := rfl
theorem w_codes : ∀ c ∈ words1.filter isCode, c.before args0 about1 = true := by
  rw [codes_eq]
  intro c hc
  simp only [codes1, List.mem_cons, List.not_mem_nil, or_false] at hc
  rcases hc with rfl | rfl | rfl | rfl | rfl | rfl | rfl | rfl
  · exact w_c0
  · exact w_c1
  · exact w_c2
  · exact w_c3
  · exact w_c4
  · exact w_c5
  · exact w_c6
  · exact w_c7
set_option maxRecDepth 65536 in
theorem w_t1 : (words1.take 24).all (fun c => isCode c || c.before args0 about1) = true := by decide +kernel
set_option maxRecDepth 65536 in
theorem w_t2 : (words1.drop 24).all (fun c => isCode c || c.before args0 about1) = true := by decide +kernel
theorem w_tables : (allAtoms (Jvm.Cond.code x code maxLocals ret :: tables_1)).before args0 about1 = true := by
  rw [allAtoms_all]
  show words1.all (fun c => c.before args0 about1) = true
  refine all_split ?_ w_codes
  rw [← List.take_append_drop 24 words1, List.all_append, w_t1, w_t2]
  rfl
set_option maxRecDepth 65536 in
theorem w_case : (Jvm.Cond.and given_1 narrow_1).before args0 about1 = true := by decide +kernel
theorem w_applies : (headSpec (Jvm.Cond.code x code maxLocals ret :: tables_1) room_1).applies x e0.platform about1 = true :=
  (Spec.applies_iff w_frames).mpr ⟨w_running, w_runnable, w_alone, w_named, w_hears, w_ripe, w_room, w_tables⟩
theorem atStart : AtStart classFile x code maxLocals ret World_1 tables_1 room_1 Calls_1 rest_1 Pre_1 launch0 p0 e0 about1 theMethod args0 below0 :=
  ⟨lists_1, trivial, launch0.admits_env _ _ _, launch0.least_env, fairChoices_fair.cas, fairChoices_fair.clock, w_frames, w_args, w_heap, w_applies, trivial, trivial, w_case⟩
end start1
theorem witness_1 : WitnessClaimed_1 := ⟨start1.p0, start1.e0, start1.about1, start1.theMethod, start1.args0, start1.below0, start1.atStart⟩
end Jvm.Pilot.@@N@@
