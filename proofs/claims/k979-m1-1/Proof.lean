import JvmDerived
import JvmDerived.Pilot.@@N@@Statement
import JvmDerived.Pilot.@@N@@Code
set_option linter.unusedVariables false
set_option linter.unusedSimpArgs false
namespace Jvm.OwnGo
open Sem ClassFile Op Lib Jvm.Stand Jvm.Free Jvm.LawKit Jvm.RoadKit
/-- one instruction: where it stands, what it is, its length, the next pc -/
def I1 (code : ByteArray) (pc : Nat) (i : Instr) (len pc' : Nat) : Prop := decode code pc = .ok (i, len) ∧ pc + len = pc'
/-- a branch: besides, where it leads -/
def B1 (code : ByteArray) (pc : Nat) (i : Instr) (o : Int) (pcT pcF : Nat) : Prop := decode code pc = .ok (i, 3) ∧ pc + 3 = pcF ∧ 0 ≤ (pc : Int) + o ∧ ((pc : Int) + o).toNat = pcT
/-- what is fixed while a body runs -/
def Cx (p : Program) (s : State) (m : MethodId) (meth : Method) (c : Code) (Z : State) (code : ByteArray) (maxL : Nat) (own : String) (ret : Option FieldType) : Prop :=
  p.tables.exec = Jvm.exec ∧ c.code = code ∧ c.maxLocals = maxL ∧ Z.Warmed39 s.vm ∧ s.vm.findClass own = some m.cls ∧ meth.sig.returnType = ret ∧ meth.locks = false
/-- from the frame g, over every state that stands there with the heap h, the body ends, and ends in Q -/
def Go (p : Program) (l : Launch) (e : Env) (R : Room) (s : State) (m : MethodId) (args : Array Value) (below : List Frame) (meth : Method) (c : Code) (n0 K N : Nat) (Q : Option Value → Heap → Prop) (h : Heap) (ck cn : Nat) (g : JFrame) : Prop :=
  ∀ (T : State) (locs : List Loc), Stand p l e R s m args below meth c T locs ck cn → T.heap = h → Fr n0 locs →
    ∃ s₂ o, Steps p.tables e below (T.setTop g) s₂ ∧ s₂.status = .running ∧ Ended s₂ below o ∧ ∃ v L, o = .returned v ∧ (Q v s₂.heap ∧ Fr n0 L) ∧ FrameEnd s o s₂ L K N
/-- a body's contract: from these arguments over this heap it returns as Q says, and writes nothing below n0 -/
def Ctr (l : Launch) (Z : State) (y : MethodName) (code : ByteArray) (maxL : Nat) (ret : Option FieldType) (rm : Room) (as' : Array Value) (h0 : Heap) (n0 : Nat) (Q : Option Value → Heap → Prop) : Prop :=
  ∀ ws : List Cond, MetFree l y (head1 (Cond.code y code maxL ret :: ws) rm) (fun a U => a = as' ∧ Z.Warmed39 U.vm ∧ U.heap = h0) (fun _ _ _ _ _ => True)
    (fun _ U o U' => ∃ v L, o = .returned v ∧ (Q v U'.heap ∧ Fr n0 L) ∧ FrameEnd U o U' L rm.cells rm.slots)
section
variable {p : Program} {l : Launch} {e : Env} {R : Room} {s : State} {m : MethodId} {args : Array Value} {below : List Frame} {meth : Method} {c : Code} {n0 K N : Nat} {Q : Option Value → Heap → Prop} {h : Heap} {ck cn : Nat} {Z : State} {a0 : Array Value} {code : ByteArray} {maxL : Nat} {own : String} {ret : Option FieldType}
theorem Ctr.of_go {y : MethodName} {rm : Room} {as' : Array Value} {h0 : Heap} {Ls : Array Slot} (hpl : plainFor y = true) (hef : ∀ m, entryFrame m as' maxL = mkF m 0 Ls [])
    (hgo : ∀ p e s m below meth c, meth.name = y.name → Cx p s m meth c Z code maxL y.cls ret → Go p l e rm s m as' below meth c n0 rm.cells rm.slots Q h0 0 0 (mkF m 0 Ls [])) : Ctr l Z y code maxL ret rm as' h0 n0 Q := fun ws => by
  refine MetFree.of_bodySF hpl hisR ?_
  intro p e s m args below meth c s₁ Bd hml0 hP hK
  obtain ⟨rfl, hZ, hh⟩ := hP
  have X0 : Stand p l e rm s m args below meth c s₁ [] 0 0 := Stand.of_body Bd
  have e0 : s₁.heap = h0 := by rw [← hh, Bd.state]; rfl
  obtain ⟨s₂, o, g1, g2, g3, v, L, g4, g5, g6⟩ := hgo p e s m below meth c (name_of_methodNamed Bd.named Bd.method).1 ⟨Bd.exec, Bd.bytes, hml0, hZ, findClass_of_methodNamed Bd.named, Bd.returns, Bd.notSynchronized⟩ s₁ [] X0 e0 (Fr.nil n0)
  exact ⟨s₂, o, castTop (hef m) g1, g2, g3, v, L, g4, g5, g6⟩
theorem Go.step {g g' : JFrame} (st : ∀ (T : State) (locs : List Loc), Stand p l e R s m args below meth c T locs ck cn → T.heap = h → ∀ target, Steps p.tables e below (T.setTop g') target → Steps p.tables e below (T.setTop g) target)
    (k : Go p l e R s m args below meth c n0 K N Q h ck cn g') : Go p l e R s m args below meth c n0 K N Q h ck cn g := fun T locs X eT hN => by
  obtain ⟨s₂, o, h1, r⟩ := k T locs X eT hN
  exact ⟨s₂, o, st T locs X eT _ h1, r⟩
/-- a step that moves the state: heap, counts -/
theorem Go.move {g g' : JFrame} {h' : Heap} {ck' cn' : Nat} {T : State} {locs : List Loc} (hN : Fr n0 locs) {T' : State} {locs' : List Loc} (X' : Stand p l e R s m args below meth c T' locs' ck' cn') (e' : T'.heap = h') (hN' : Fr n0 locs')
    (st : ∀ target, Steps p.tables e below (T'.setTop g') target → Steps p.tables e below (T.setTop g) target) (k : Go p l e R s m args below meth c n0 K N Q h' ck' cn' g') :
    ∃ s₂ o, Steps p.tables e below (T.setTop g) s₂ ∧ s₂.status = .running ∧ Ended s₂ below o ∧ ∃ v L, o = .returned v ∧ (Q v s₂.heap ∧ Fr n0 L) ∧ FrameEnd s o s₂ L K N := by
  obtain ⟨s₂, o, h1, r⟩ := k T' locs' X' e' hN'
  exact ⟨s₂, o, st _ h1, r⟩
theorem Go.join {g : JFrame} (g' : JFrame) (J : Go p l e R s m args below meth c n0 K N Q h ck cn g') (k : Go p l e R s m args below meth c n0 K N Q h ck cn g' → Go p l e R s m args below meth c n0 K N Q h ck cn g) : Go p l e R s m args below meth c n0 K N Q h ck cn g := k J
theorem Go.cast {g g' : JFrame} (k : Go p l e R s m args below meth c n0 K N Q h ck cn g') (q : g = g') : Go p l e R s m args below meth c n0 K N Q h ck cn g := q ▸ k
theorem Go.more {g : JFrame} {ck' cn' : Nat} (hc : ck ≤ ck') (hs : cn ≤ cn') (k : Go p l e R s m args below meth c n0 K N Q h ck' cn' g) : Go p l e R s m args below meth c n0 K N Q h ck cn g := fun T locs X eT hN => k T locs (X.more hc hs) eT hN
theorem Go.heap {g : JFrame} {h' : Heap} (q : h' = h) (k : Go p l e R s m args below meth c n0 K N Q h' ck cn g) : Go p l e R s m args below meth c n0 K N Q h ck cn g := q ▸ k
theorem Go.some' {v : Value} {pc : Nat} {Ls : Array Slot} {st : List Value} (k : Go p l e R s m args below meth c n0 K N Q h ck cn (mkF m pc Ls (v :: st))) : Go p l e R s m args below meth c n0 K N Q h ck cn (mkF m pc Ls ((some v).toList ++ st)) := k
theorem Go.none' {pc : Nat} {Ls : Array Slot} {st : List Value} (k : Go p l e R s m args below meth c n0 K N Q h ck cn (mkF m pc Ls st)) : Go p l e R s m args below meth c n0 K N Q h ck cn (mkF m pc Ls ((none : Option Value).toList ++ st)) := k
theorem g_iadd (C : Cx p s m meth c Z code maxL own ret) {pc pc' : Nat} {Ls : Array Slot} {st : List Value} {x y : Int32} (hd : I1 code pc (.iadd) 1 pc') (k : Go p l e R s m args below meth c n0 K N Q h ck cn (mkF m pc' Ls (.int (x + y) :: st))) : Go p l e R s m args below meth c n0 K N Q h ck cn (mkF m pc Ls (.int y :: .int x :: st)) := by
  obtain ⟨hd, rfl⟩ := hd
  exact Go.step (fun T locs X _ t k => XS.iadd X.here C.1 rfl (hb C.2.1 hd) rfl k) k
theorem g_isub (C : Cx p s m meth c Z code maxL own ret) {pc pc' : Nat} {Ls : Array Slot} {st : List Value} {x y : Int32} (hd : I1 code pc (.isub) 1 pc') (k : Go p l e R s m args below meth c n0 K N Q h ck cn (mkF m pc' Ls (.int (x - y) :: st))) : Go p l e R s m args below meth c n0 K N Q h ck cn (mkF m pc Ls (.int y :: .int x :: st)) := by
  obtain ⟨hd, rfl⟩ := hd
  exact Go.step (fun T locs X _ t k => XS.isub X.here C.1 rfl (hb C.2.1 hd) rfl k) k
theorem g_imul (C : Cx p s m meth c Z code maxL own ret) {pc pc' : Nat} {Ls : Array Slot} {st : List Value} {x y : Int32} (hd : I1 code pc (.imul) 1 pc') (k : Go p l e R s m args below meth c n0 K N Q h ck cn (mkF m pc' Ls (.int (x * y) :: st))) : Go p l e R s m args below meth c n0 K N Q h ck cn (mkF m pc Ls (.int y :: .int x :: st)) := by
  obtain ⟨hd, rfl⟩ := hd
  exact Go.step (fun T locs X _ t k => XS.imul X.here C.1 rfl (hb C.2.1 hd) rfl k) k
theorem g_iand (C : Cx p s m meth c Z code maxL own ret) {pc pc' : Nat} {Ls : Array Slot} {st : List Value} {x y : Int32} (hd : I1 code pc (.iand) 1 pc') (k : Go p l e R s m args below meth c n0 K N Q h ck cn (mkF m pc' Ls (.int (x &&& y) :: st))) : Go p l e R s m args below meth c n0 K N Q h ck cn (mkF m pc Ls (.int y :: .int x :: st)) := by
  obtain ⟨hd, rfl⟩ := hd
  exact Go.step (fun T locs X _ t k => XS.iand X.here C.1 rfl (hb C.2.1 hd) rfl k) k
theorem g_ior (C : Cx p s m meth c Z code maxL own ret) {pc pc' : Nat} {Ls : Array Slot} {st : List Value} {x y : Int32} (hd : I1 code pc (.ior) 1 pc') (k : Go p l e R s m args below meth c n0 K N Q h ck cn (mkF m pc' Ls (.int (x ||| y) :: st))) : Go p l e R s m args below meth c n0 K N Q h ck cn (mkF m pc Ls (.int y :: .int x :: st)) := by
  obtain ⟨hd, rfl⟩ := hd
  exact Go.step (fun T locs X _ t k => XS.ior X.here C.1 rfl (hb C.2.1 hd) rfl k) k
theorem g_ixor (C : Cx p s m meth c Z code maxL own ret) {pc pc' : Nat} {Ls : Array Slot} {st : List Value} {x y : Int32} (hd : I1 code pc (.ixor) 1 pc') (k : Go p l e R s m args below meth c n0 K N Q h ck cn (mkF m pc' Ls (.int (x ^^^ y) :: st))) : Go p l e R s m args below meth c n0 K N Q h ck cn (mkF m pc Ls (.int y :: .int x :: st)) := by
  obtain ⟨hd, rfl⟩ := hd
  exact Go.step (fun T locs X _ t k => XS.ixor X.here C.1 rfl (hb C.2.1 hd) rfl k) k
theorem g_ishl (C : Cx p s m meth c Z code maxL own ret) {pc pc' : Nat} {Ls : Array Slot} {st : List Value} {x y : Int32} (hd : I1 code pc (.ishl) 1 pc') (k : Go p l e R s m args below meth c n0 K N Q h ck cn (mkF m pc' Ls (.int (x <<< (y &&& 31)) :: st))) : Go p l e R s m args below meth c n0 K N Q h ck cn (mkF m pc Ls (.int y :: .int x :: st)) := by
  obtain ⟨hd, rfl⟩ := hd
  exact Go.step (fun T locs X _ t k => XS.ishl X.here C.1 rfl (hb C.2.1 hd) rfl k) k
theorem g_ishr (C : Cx p s m meth c Z code maxL own ret) {pc pc' : Nat} {Ls : Array Slot} {st : List Value} {x y : Int32} (hd : I1 code pc (.ishr) 1 pc') (k : Go p l e R s m args below meth c n0 K N Q h ck cn (mkF m pc' Ls (.int (x >>> (y &&& 31)) :: st))) : Go p l e R s m args below meth c n0 K N Q h ck cn (mkF m pc Ls (.int y :: .int x :: st)) := by
  obtain ⟨hd, rfl⟩ := hd
  exact Go.step (fun T locs X _ t k => XS.ishr X.here C.1 rfl (hb C.2.1 hd) rfl k) k
theorem g_iushr (C : Cx p s m meth c Z code maxL own ret) {pc pc' : Nat} {Ls : Array Slot} {st : List Value} {x y : Int32} (hd : I1 code pc (.iushr) 1 pc') (k : Go p l e R s m args below meth c n0 K N Q h ck cn (mkF m pc' Ls (.int ((x.toUInt32 >>> (y &&& 31).toUInt32).toInt32) :: st))) : Go p l e R s m args below meth c n0 K N Q h ck cn (mkF m pc Ls (.int y :: .int x :: st)) := by
  obtain ⟨hd, rfl⟩ := hd
  exact Go.step (fun T locs X _ t k => XS.iushr X.here C.1 rfl (hb C.2.1 hd) rfl k) k
theorem g_ladd (C : Cx p s m meth c Z code maxL own ret) {pc pc' : Nat} {Ls : Array Slot} {st : List Value} {x y : Int64} (hd : I1 code pc (.ladd) 1 pc') (k : Go p l e R s m args below meth c n0 K N Q h ck cn (mkF m pc' Ls (.long (x + y) :: st))) : Go p l e R s m args below meth c n0 K N Q h ck cn (mkF m pc Ls (.long y :: .long x :: st)) := by
  obtain ⟨hd, rfl⟩ := hd
  exact Go.step (fun T locs X _ t k => XS.ladd X.here C.1 rfl (hb C.2.1 hd) rfl k) k
theorem g_lsub (C : Cx p s m meth c Z code maxL own ret) {pc pc' : Nat} {Ls : Array Slot} {st : List Value} {x y : Int64} (hd : I1 code pc (.lsub) 1 pc') (k : Go p l e R s m args below meth c n0 K N Q h ck cn (mkF m pc' Ls (.long (x - y) :: st))) : Go p l e R s m args below meth c n0 K N Q h ck cn (mkF m pc Ls (.long y :: .long x :: st)) := by
  obtain ⟨hd, rfl⟩ := hd
  exact Go.step (fun T locs X _ t k => XS.lsub X.here C.1 rfl (hb C.2.1 hd) rfl k) k
theorem g_lmul (C : Cx p s m meth c Z code maxL own ret) {pc pc' : Nat} {Ls : Array Slot} {st : List Value} {x y : Int64} (hd : I1 code pc (.lmul) 1 pc') (k : Go p l e R s m args below meth c n0 K N Q h ck cn (mkF m pc' Ls (.long (x * y) :: st))) : Go p l e R s m args below meth c n0 K N Q h ck cn (mkF m pc Ls (.long y :: .long x :: st)) := by
  obtain ⟨hd, rfl⟩ := hd
  exact Go.step (fun T locs X _ t k => XS.lmul X.here C.1 rfl (hb C.2.1 hd) rfl k) k
theorem g_land (C : Cx p s m meth c Z code maxL own ret) {pc pc' : Nat} {Ls : Array Slot} {st : List Value} {x y : Int64} (hd : I1 code pc (.land) 1 pc') (k : Go p l e R s m args below meth c n0 K N Q h ck cn (mkF m pc' Ls (.long (x &&& y) :: st))) : Go p l e R s m args below meth c n0 K N Q h ck cn (mkF m pc Ls (.long y :: .long x :: st)) := by
  obtain ⟨hd, rfl⟩ := hd
  exact Go.step (fun T locs X _ t k => XS.land X.here C.1 rfl (hb C.2.1 hd) rfl k) k
theorem g_lor (C : Cx p s m meth c Z code maxL own ret) {pc pc' : Nat} {Ls : Array Slot} {st : List Value} {x y : Int64} (hd : I1 code pc (.lor) 1 pc') (k : Go p l e R s m args below meth c n0 K N Q h ck cn (mkF m pc' Ls (.long (x ||| y) :: st))) : Go p l e R s m args below meth c n0 K N Q h ck cn (mkF m pc Ls (.long y :: .long x :: st)) := by
  obtain ⟨hd, rfl⟩ := hd
  exact Go.step (fun T locs X _ t k => XS.lor X.here C.1 rfl (hb C.2.1 hd) rfl k) k
theorem g_lxor (C : Cx p s m meth c Z code maxL own ret) {pc pc' : Nat} {Ls : Array Slot} {st : List Value} {x y : Int64} (hd : I1 code pc (.lxor) 1 pc') (k : Go p l e R s m args below meth c n0 K N Q h ck cn (mkF m pc' Ls (.long (x ^^^ y) :: st))) : Go p l e R s m args below meth c n0 K N Q h ck cn (mkF m pc Ls (.long y :: .long x :: st)) := by
  obtain ⟨hd, rfl⟩ := hd
  exact Go.step (fun T locs X _ t k => XS.lxor X.here C.1 rfl (hb C.2.1 hd) rfl k) k
theorem g_lshl (C : Cx p s m meth c Z code maxL own ret) {pc pc' : Nat} {Ls : Array Slot} {st : List Value} {x : Int64} {y : Int32} (hd : I1 code pc (.lshl) 1 pc') (k : Go p l e R s m args below meth c n0 K N Q h ck cn (mkF m pc' Ls (.long (x <<< (y &&& 0x3f).toInt64) :: st))) : Go p l e R s m args below meth c n0 K N Q h ck cn (mkF m pc Ls (.int y :: .long x :: st)) := by
  obtain ⟨hd, rfl⟩ := hd
  exact Go.step (fun T locs X _ t k => XS.lshl X.here C.1 rfl (hb C.2.1 hd) rfl k) k
theorem g_lshr (C : Cx p s m meth c Z code maxL own ret) {pc pc' : Nat} {Ls : Array Slot} {st : List Value} {x : Int64} {y : Int32} (hd : I1 code pc (.lshr) 1 pc') (k : Go p l e R s m args below meth c n0 K N Q h ck cn (mkF m pc' Ls (.long (x >>> (y &&& 0x3f).toInt64) :: st))) : Go p l e R s m args below meth c n0 K N Q h ck cn (mkF m pc Ls (.int y :: .long x :: st)) := by
  obtain ⟨hd, rfl⟩ := hd
  exact Go.step (fun T locs X _ t k => XS.lshr X.here C.1 rfl (hb C.2.1 hd) rfl k) k
theorem g_lushr (C : Cx p s m meth c Z code maxL own ret) {pc pc' : Nat} {Ls : Array Slot} {st : List Value} {x : Int64} {y : Int32} (hd : I1 code pc (.lushr) 1 pc') (k : Go p l e R s m args below meth c n0 K N Q h ck cn (mkF m pc' Ls (.long ((x.toUInt64 >>> (y &&& 0x3f).toInt64.toUInt64).toInt64) :: st))) : Go p l e R s m args below meth c n0 K N Q h ck cn (mkF m pc Ls (.int y :: .long x :: st)) := by
  obtain ⟨hd, rfl⟩ := hd
  exact Go.step (fun T locs X _ t k => XS.lushr X.here C.1 rfl (hb C.2.1 hd) rfl k) k
theorem g_lcmp (C : Cx p s m meth c Z code maxL own ret) {pc pc' : Nat} {Ls : Array Slot} {st : List Value} {x y : Int64} (hd : I1 code pc (.lcmp) 1 pc') (k : Go p l e R s m args below meth c n0 K N Q h ck cn (mkF m pc' Ls (.int (lcmpW x y) :: st))) : Go p l e R s m args below meth c n0 K N Q h ck cn (mkF m pc Ls (.long y :: .long x :: st)) := by
  obtain ⟨hd, rfl⟩ := hd
  exact Go.step (fun T locs X _ t k => XS.lcmp X.here C.1 rfl (hb C.2.1 hd) rfl k) k
theorem g_ineg (C : Cx p s m meth c Z code maxL own ret) {pc pc' : Nat} {Ls : Array Slot} {st : List Value} {x : Int32} (hd : I1 code pc (.ineg) 1 pc') (k : Go p l e R s m args below meth c n0 K N Q h ck cn (mkF m pc' Ls (.int (-x) :: st))) : Go p l e R s m args below meth c n0 K N Q h ck cn (mkF m pc Ls (.int x :: st)) := by
  obtain ⟨hd, rfl⟩ := hd
  exact Go.step (fun T locs X _ t k => XS.ineg X.here C.1 rfl (hb C.2.1 hd) rfl k) k
theorem g_lneg (C : Cx p s m meth c Z code maxL own ret) {pc pc' : Nat} {Ls : Array Slot} {st : List Value} {x : Int64} (hd : I1 code pc (.lneg) 1 pc') (k : Go p l e R s m args below meth c n0 K N Q h ck cn (mkF m pc' Ls (.long (-x) :: st))) : Go p l e R s m args below meth c n0 K N Q h ck cn (mkF m pc Ls (.long x :: st)) := by
  obtain ⟨hd, rfl⟩ := hd
  exact Go.step (fun T locs X _ t k => XS.lneg X.here C.1 rfl (hb C.2.1 hd) rfl k) k
theorem g_i2l (C : Cx p s m meth c Z code maxL own ret) {pc pc' : Nat} {Ls : Array Slot} {st : List Value} {x : Int32} (hd : I1 code pc (.i2l) 1 pc') (k : Go p l e R s m args below meth c n0 K N Q h ck cn (mkF m pc' Ls (.long x.toInt64 :: st))) : Go p l e R s m args below meth c n0 K N Q h ck cn (mkF m pc Ls (.int x :: st)) := by
  obtain ⟨hd, rfl⟩ := hd
  exact Go.step (fun T locs X _ t k => XS.i2l X.here C.1 rfl (hb C.2.1 hd) rfl k) k
theorem g_l2i (C : Cx p s m meth c Z code maxL own ret) {pc pc' : Nat} {Ls : Array Slot} {st : List Value} {x : Int64} (hd : I1 code pc (.l2i) 1 pc') (k : Go p l e R s m args below meth c n0 K N Q h ck cn (mkF m pc' Ls (.int x.toInt32 :: st))) : Go p l e R s m args below meth c n0 K N Q h ck cn (mkF m pc Ls (.long x :: st)) := by
  obtain ⟨hd, rfl⟩ := hd
  exact Go.step (fun T locs X _ t k => XS.l2i X.here C.1 rfl (hb C.2.1 hd) rfl k) k
theorem g_i2b (C : Cx p s m meth c Z code maxL own ret) {pc pc' : Nat} {Ls : Array Slot} {st : List Value} {x : Int32} (hd : I1 code pc (.i2b) 1 pc') (k : Go p l e R s m args below meth c n0 K N Q h ck cn (mkF m pc' Ls (.int x.toInt8.toInt32 :: st))) : Go p l e R s m args below meth c n0 K N Q h ck cn (mkF m pc Ls (.int x :: st)) := by
  obtain ⟨hd, rfl⟩ := hd
  exact Go.step (fun T locs X _ t k => XS.i2b X.here C.1 rfl (hb C.2.1 hd) rfl k) k
theorem g_i2s (C : Cx p s m meth c Z code maxL own ret) {pc pc' : Nat} {Ls : Array Slot} {st : List Value} {x : Int32} (hd : I1 code pc (.i2s) 1 pc') (k : Go p l e R s m args below meth c n0 K N Q h ck cn (mkF m pc' Ls (.int x.toInt16.toInt32 :: st))) : Go p l e R s m args below meth c n0 K N Q h ck cn (mkF m pc Ls (.int x :: st)) := by
  obtain ⟨hd, rfl⟩ := hd
  exact Go.step (fun T locs X _ t k => XS.i2s X.here C.1 rfl (hb C.2.1 hd) rfl k) k
theorem g_i2c (C : Cx p s m meth c Z code maxL own ret) {pc pc' : Nat} {Ls : Array Slot} {st : List Value} {x : Int32} (hd : I1 code pc (.i2c) 1 pc') (k : Go p l e R s m args below meth c n0 K N Q h ck cn (mkF m pc' Ls (.int x.toUInt32.toUInt16.toUInt32.toInt32 :: st))) : Go p l e R s m args below meth c n0 K N Q h ck cn (mkF m pc Ls (.int x :: st)) := by
  obtain ⟨hd, rfl⟩ := hd
  exact Go.step (fun T locs X _ t k => XS.i2c X.here C.1 rfl (hb C.2.1 hd) rfl k) k
theorem g_idiv (C : Cx p s m meth c Z code maxL own ret) {pc pc' : Nat} {Ls : Array Slot} {st : List Value} {x y : Int32} (hd : I1 code pc (.idiv) 1 pc') (hy : y ≠ 0) (k : Go p l e R s m args below meth c n0 K N Q h ck cn (mkF m pc' Ls (.int (x / y) :: st))) : Go p l e R s m args below meth c n0 K N Q h ck cn (mkF m pc Ls (.int y :: .int x :: st)) := by
  obtain ⟨hd, rfl⟩ := hd
  exact Go.step (fun T locs X _ t k => XS.idiv X.here C.1 rfl (hb C.2.1 hd) rfl hy k) k
theorem g_ldiv (C : Cx p s m meth c Z code maxL own ret) {pc pc' : Nat} {Ls : Array Slot} {st : List Value} {x y : Int64} (hd : I1 code pc (.ldiv) 1 pc') (hy : y ≠ 0) (k : Go p l e R s m args below meth c n0 K N Q h ck cn (mkF m pc' Ls (.long (x / y) :: st))) : Go p l e R s m args below meth c n0 K N Q h ck cn (mkF m pc Ls (.long y :: .long x :: st)) := by
  obtain ⟨hd, rfl⟩ := hd
  exact Go.step (fun T locs X _ t k => XS.ldiv X.here C.1 rfl (hb C.2.1 hd) rfl hy k) k
theorem g_irem (C : Cx p s m meth c Z code maxL own ret) {pc pc' : Nat} {Ls : Array Slot} {st : List Value} {x y : Int32} (hd : I1 code pc .irem 1 pc') (hy : y ≠ 0) (k : Go p l e R s m args below meth c n0 K N Q h ck cn (mkF m pc' Ls (.int (x % y) :: st))) : Go p l e R s m args below meth c n0 K N Q h ck cn (mkF m pc Ls (.int y :: .int x :: st)) := by
  obtain ⟨hd, rfl⟩ := hd
  exact Go.step (fun T locs X _ t k => iremM X C.1 rfl (hb C.2.1 hd) rfl hy k) k
theorem g_lrem (C : Cx p s m meth c Z code maxL own ret) {pc pc' : Nat} {Ls : Array Slot} {st : List Value} {x y : Int64} (hd : I1 code pc .lrem 1 pc') (hy : y ≠ 0) (k : Go p l e R s m args below meth c n0 K N Q h ck cn (mkF m pc' Ls (.long (x % y) :: st))) : Go p l e R s m args below meth c n0 K N Q h ck cn (mkF m pc Ls (.long y :: .long x :: st)) := by
  obtain ⟨hd, rfl⟩ := hd
  exact Go.step (fun T locs X _ t k => XS.lrem X.here C.1 rfl (hb C.2.1 hd) rfl hy (by rw [lrem_mod]; exact k)) k
theorem g_iloadN (C : Cx p s m meth c Z code maxL own ret) {pc pc' : Nat} {Ls : Array Slot} {st : List Value} {k : Fin 4} {v : Int32} (hd : I1 code pc (.iload_n k) 1 pc') (hl : Ls[k.val]? = some (.val (.int v))) (k : Go p l e R s m args below meth c n0 K N Q h ck cn (mkF m pc' Ls (.int v :: st))) : Go p l e R s m args below meth c n0 K N Q h ck cn (mkF m pc Ls (st)) := by
  obtain ⟨hd, rfl⟩ := hd
  exact Go.step (fun T locs X _ t k => XS.iloadN X.here C.1 rfl (hb C.2.1 hd) hl k) k
theorem g_iload (C : Cx p s m meth c Z code maxL own ret) {pc pc' : Nat} {Ls : Array Slot} {st : List Value} {k : Nat} {v : Int32} (hd : I1 code pc (.iload k) 2 pc') (hl : Ls[k]? = some (.val (.int v))) (k : Go p l e R s m args below meth c n0 K N Q h ck cn (mkF m pc' Ls (.int v :: st))) : Go p l e R s m args below meth c n0 K N Q h ck cn (mkF m pc Ls (st)) := by
  obtain ⟨hd, rfl⟩ := hd
  exact Go.step (fun T locs X _ t k => XS.iload X.here C.1 rfl (hb C.2.1 hd) hl k) k
theorem g_istoreN (C : Cx p s m meth c Z code maxL own ret) {pc pc' : Nat} {Ls : Array Slot} {st : List Value} {k : Fin 4} {x : Int32} {Ls' : Array Slot} (hd : I1 code pc (.istore_n k) 1 pc') (hl : storeLocals Ls k.val (.int x) = some Ls') (k : Go p l e R s m args below meth c n0 K N Q h ck cn (mkF m pc' Ls' (st))) : Go p l e R s m args below meth c n0 K N Q h ck cn (mkF m pc Ls (.int x :: st)) := by
  obtain ⟨hd, rfl⟩ := hd
  exact Go.step (fun T locs X _ t k => XS.istoreN X.here C.1 rfl (hb C.2.1 hd) rfl hl k) k
theorem g_istore (C : Cx p s m meth c Z code maxL own ret) {pc pc' : Nat} {Ls : Array Slot} {st : List Value} {k : Nat} {x : Int32} {Ls' : Array Slot} (hd : I1 code pc (.istore k) 2 pc') (hl : storeLocals Ls k (.int x) = some Ls') (k : Go p l e R s m args below meth c n0 K N Q h ck cn (mkF m pc' Ls' (st))) : Go p l e R s m args below meth c n0 K N Q h ck cn (mkF m pc Ls (.int x :: st)) := by
  obtain ⟨hd, rfl⟩ := hd
  exact Go.step (fun T locs X _ t k => XS.istore X.here C.1 rfl (hb C.2.1 hd) rfl hl k) k
theorem g_lloadN (C : Cx p s m meth c Z code maxL own ret) {pc pc' : Nat} {Ls : Array Slot} {st : List Value} {k : Fin 4} {v : Int64} (hd : I1 code pc (.lload_n k) 1 pc') (hl : Ls[k.val]? = some (.val (.long v))) (k : Go p l e R s m args below meth c n0 K N Q h ck cn (mkF m pc' Ls (.long v :: st))) : Go p l e R s m args below meth c n0 K N Q h ck cn (mkF m pc Ls (st)) := by
  obtain ⟨hd, rfl⟩ := hd
  exact Go.step (fun T locs X _ t k => XS.lloadN X.here C.1 rfl (hb C.2.1 hd) hl k) k
theorem g_lload (C : Cx p s m meth c Z code maxL own ret) {pc pc' : Nat} {Ls : Array Slot} {st : List Value} {k : Nat} {v : Int64} (hd : I1 code pc (.lload k) 2 pc') (hl : Ls[k]? = some (.val (.long v))) (k : Go p l e R s m args below meth c n0 K N Q h ck cn (mkF m pc' Ls (.long v :: st))) : Go p l e R s m args below meth c n0 K N Q h ck cn (mkF m pc Ls (st)) := by
  obtain ⟨hd, rfl⟩ := hd
  exact Go.step (fun T locs X _ t k => XS.lload X.here C.1 rfl (hb C.2.1 hd) hl k) k
theorem g_lstoreN (C : Cx p s m meth c Z code maxL own ret) {pc pc' : Nat} {Ls : Array Slot} {st : List Value} {k : Fin 4} {x : Int64} {Ls' : Array Slot} (hd : I1 code pc (.lstore_n k) 1 pc') (hl : storeLocals Ls k.val (.long x) = some Ls') (k : Go p l e R s m args below meth c n0 K N Q h ck cn (mkF m pc' Ls' (st))) : Go p l e R s m args below meth c n0 K N Q h ck cn (mkF m pc Ls (.long x :: st)) := by
  obtain ⟨hd, rfl⟩ := hd
  exact Go.step (fun T locs X _ t k => XS.lstoreN X.here C.1 rfl (hb C.2.1 hd) rfl hl k) k
theorem g_lstore (C : Cx p s m meth c Z code maxL own ret) {pc pc' : Nat} {Ls : Array Slot} {st : List Value} {k : Nat} {x : Int64} {Ls' : Array Slot} (hd : I1 code pc (.lstore k) 2 pc') (hl : storeLocals Ls k (.long x) = some Ls') (k : Go p l e R s m args below meth c n0 K N Q h ck cn (mkF m pc' Ls' (st))) : Go p l e R s m args below meth c n0 K N Q h ck cn (mkF m pc Ls (.long x :: st)) := by
  obtain ⟨hd, rfl⟩ := hd
  exact Go.step (fun T locs X _ t k => XS.lstore X.here C.1 rfl (hb C.2.1 hd) rfl hl k) k
theorem g_aloadN (C : Cx p s m meth c Z code maxL own ret) {pc pc' : Nat} {Ls : Array Slot} {st : List Value} {k : Fin 4} {v : Value} (hd : I1 code pc (.aload_n k) 1 pc') (hl : Ls[k.val]? = some (.val v)) (hv : v.isRef = true) (k : Go p l e R s m args below meth c n0 K N Q h ck cn (mkF m pc' Ls (v :: st))) : Go p l e R s m args below meth c n0 K N Q h ck cn (mkF m pc Ls (st)) := by
  obtain ⟨hd, rfl⟩ := hd
  exact Go.step (fun T locs X _ t k => XS.aloadN X.here C.1 rfl (hb C.2.1 hd) hl hv k) k
theorem g_aload (C : Cx p s m meth c Z code maxL own ret) {pc pc' : Nat} {Ls : Array Slot} {st : List Value} {k : Nat} {v : Value} (hd : I1 code pc (.aload k) 2 pc') (hl : Ls[k]? = some (.val v)) (hv : v.isRef = true) (k : Go p l e R s m args below meth c n0 K N Q h ck cn (mkF m pc' Ls (v :: st))) : Go p l e R s m args below meth c n0 K N Q h ck cn (mkF m pc Ls (st)) := by
  obtain ⟨hd, rfl⟩ := hd
  exact Go.step (fun T locs X _ t k => XS.aload X.here C.1 rfl (hb C.2.1 hd) hl hv k) k
theorem g_astoreN (C : Cx p s m meth c Z code maxL own ret) {pc pc' : Nat} {Ls : Array Slot} {st : List Value} {k : Fin 4} {x : Value} {Ls' : Array Slot} (hd : I1 code pc (.astore_n k) 1 pc') (hv : x.isRef = true) (hl : storeLocals Ls k.val x = some Ls') (k : Go p l e R s m args below meth c n0 K N Q h ck cn (mkF m pc' Ls' (st))) : Go p l e R s m args below meth c n0 K N Q h ck cn (mkF m pc Ls (x :: st)) := by
  obtain ⟨hd, rfl⟩ := hd
  exact Go.step (fun T locs X _ t k => XS.astoreN X.here C.1 rfl (hb C.2.1 hd) rfl hv hl k) k
theorem g_astore (C : Cx p s m meth c Z code maxL own ret) {pc pc' : Nat} {Ls : Array Slot} {st : List Value} {k : Nat} {x : Value} {Ls' : Array Slot} (hd : I1 code pc (.astore k) 2 pc') (hv : x.isRef = true) (hl : storeLocals Ls k x = some Ls') (k : Go p l e R s m args below meth c n0 K N Q h ck cn (mkF m pc' Ls' (st))) : Go p l e R s m args below meth c n0 K N Q h ck cn (mkF m pc Ls (x :: st)) := by
  obtain ⟨hd, rfl⟩ := hd
  exact Go.step (fun T locs X _ t k => XS.astore X.here C.1 rfl (hb C.2.1 hd) rfl hv hl k) k
theorem g_iinc (C : Cx p s m meth c Z code maxL own ret) {pc pc' : Nat} {Ls : Array Slot} {st : List Value} {k : Nat} {cst : Int} {x : Int32} {Ls' : Array Slot} (hd : I1 code pc (.iinc k cst) 3 pc') (hl : Ls[k]? = some (.val (.int x))) (hl' : storeLocals Ls k (.int (x + Int32.ofInt cst)) = some Ls') (k : Go p l e R s m args below meth c n0 K N Q h ck cn (mkF m pc' Ls' (st))) : Go p l e R s m args below meth c n0 K N Q h ck cn (mkF m pc Ls (st)) := by
  obtain ⟨hd, rfl⟩ := hd
  exact Go.step (fun T locs X _ t k => XS.iinc X.here C.1 rfl (hb C.2.1 hd) hl hl' k) k
theorem g_iconst (C : Cx p s m meth c Z code maxL own ret) {pc pc' : Nat} {Ls : Array Slot} {st : List Value} {i : Int} (v : Int32) (hd : I1 code pc (.iconst i) 1 pc') (hv : Int32.ofInt i = v) (k : Go p l e R s m args below meth c n0 K N Q h ck cn (mkF m pc' Ls (.int v :: st))) : Go p l e R s m args below meth c n0 K N Q h ck cn (mkF m pc Ls st) := by
  obtain ⟨hd, rfl⟩ := hd
  subst hv
  exact Go.step (fun T locs X _ t k => XS.iconst X.here C.1 rfl (hb C.2.1 hd) k) k
theorem g_bipush (C : Cx p s m meth c Z code maxL own ret) {pc pc' : Nat} {Ls : Array Slot} {st : List Value} {i : Int} (v : Int32) (hd : I1 code pc (.bipush i) 2 pc') (hv : (Int8.ofInt i).toInt32 = v) (k : Go p l e R s m args below meth c n0 K N Q h ck cn (mkF m pc' Ls (.int v :: st))) : Go p l e R s m args below meth c n0 K N Q h ck cn (mkF m pc Ls st) := by
  obtain ⟨hd, rfl⟩ := hd
  subst hv
  exact Go.step (fun T locs X _ t k => XS.bipush X.here C.1 rfl (hb C.2.1 hd) k) k
theorem g_sipush (C : Cx p s m meth c Z code maxL own ret) {pc pc' : Nat} {Ls : Array Slot} {st : List Value} {i : Int} (v : Int32) (hd : I1 code pc (.sipush i) 3 pc') (hv : (Int16.ofInt i).toInt32 = v) (k : Go p l e R s m args below meth c n0 K N Q h ck cn (mkF m pc' Ls (.int v :: st))) : Go p l e R s m args below meth c n0 K N Q h ck cn (mkF m pc Ls st) := by
  obtain ⟨hd, rfl⟩ := hd
  subst hv
  exact Go.step (fun T locs X _ t k => XS.sipush X.here C.1 rfl (hb C.2.1 hd) k) k
theorem g_lconst (C : Cx p s m meth c Z code maxL own ret) {pc pc' : Nat} {Ls : Array Slot} {st : List Value} {i : Fin 2} (v : Int64) (hd : I1 code pc (.lconst i) 1 pc') (hv : Int64.ofNat i = v) (k : Go p l e R s m args below meth c n0 K N Q h ck cn (mkF m pc' Ls (.long v :: st))) : Go p l e R s m args below meth c n0 K N Q h ck cn (mkF m pc Ls st) := by
  obtain ⟨hd, rfl⟩ := hd
  subst hv
  exact Go.step (fun T locs X _ t k => XS.lconst X.here C.1 rfl (hb C.2.1 hd) k) k
theorem g_aconstNull (C : Cx p s m meth c Z code maxL own ret) {pc pc' : Nat} {Ls : Array Slot} {st : List Value}  (hd : I1 code pc (.aconst_null) 1 pc') (k : Go p l e R s m args below meth c n0 K N Q h ck cn (mkF m pc' Ls (.null :: st))) : Go p l e R s m args below meth c n0 K N Q h ck cn (mkF m pc Ls (st)) := by
  obtain ⟨hd, rfl⟩ := hd
  exact Go.step (fun T locs X _ t k => XS.aconstNull X.here C.1 rfl (hb C.2.1 hd)  k) k
theorem g_ldcInt (C : Cx p s m meth c Z code maxL own ret) {pc pc' : Nat} {Ls : Array Slot} {st : List Value} {i : Nat} {v : Int32} (hd : I1 code pc (.ldc i) 2 pc') (w : (Cond.constant own i v).before a0 Z = true) (k : Go p l e R s m args below meth c n0 K N Q h ck cn (mkF m pc' Ls (.int v :: st))) : Go p l e R s m args below meth c n0 K N Q h ck cn (mkF m pc Ls st) := by
  obtain ⟨hd, rfl⟩ := hd
  exact Go.step (fun T locs X _ t k => X.ldcInt C.1 C.2.2.2.2.1 (mvT C.2.2.2.1 w) (g := mkF m pc Ls st) rfl (hb C.2.1 hd) _ k) k
theorem g_ldcwInt (C : Cx p s m meth c Z code maxL own ret) {pc pc' : Nat} {Ls : Array Slot} {st : List Value} {i : Nat} {v : Int32} (hd : I1 code pc (.ldc_w i) 3 pc') (w : (Cond.constant own i v).before a0 Z = true) (k : Go p l e R s m args below meth c n0 K N Q h ck cn (mkF m pc' Ls (.int v :: st))) : Go p l e R s m args below meth c n0 K N Q h ck cn (mkF m pc Ls st) := by
  obtain ⟨hd, rfl⟩ := hd
  exact Go.step (fun T locs X _ t k => X.ldcwInt C.1 C.2.2.2.2.1 (mvT C.2.2.2.1 w) (g := mkF m pc Ls st) rfl (hb C.2.1 hd) _ k) k
theorem g_ldc2Long (C : Cx p s m meth c Z code maxL own ret) {pc pc' : Nat} {Ls : Array Slot} {st : List Value} {i : Nat} {v : Int64} (hd : I1 code pc (.ldc2_w i) 3 pc') (w : (Cond.constantLong own i v).before a0 Z = true) (k : Go p l e R s m args below meth c n0 K N Q h ck cn (mkF m pc' Ls (.long v :: st))) : Go p l e R s m args below meth c n0 K N Q h ck cn (mkF m pc Ls st) := by
  obtain ⟨hd, rfl⟩ := hd
  exact Go.step (fun T locs X _ t k => X.ldc2Long C.1 C.2.2.2.2.1 (mvT C.2.2.2.1 w) (g := mkF m pc Ls st) rfl (hb C.2.1 hd) _ k) k
theorem g_dup (C : Cx p s m meth c Z code maxL own ret) {pc pc' : Nat} {Ls : Array Slot} {st : List Value} {x : Value} (hd : I1 code pc (.dup) 1 pc') (hc : x.category = 1) (k : Go p l e R s m args below meth c n0 K N Q h ck cn (mkF m pc' Ls (x :: x :: st))) : Go p l e R s m args below meth c n0 K N Q h ck cn (mkF m pc Ls (x :: st)) := by
  obtain ⟨hd, rfl⟩ := hd
  exact Go.step (fun T locs X _ t k => XS.dup X.here C.1 rfl (hb C.2.1 hd) rfl hc k) k
theorem g_pop (C : Cx p s m meth c Z code maxL own ret) {pc pc' : Nat} {Ls : Array Slot} {st : List Value} {x : Value} (hd : I1 code pc (.pop) 1 pc') (hc : x.category = 1) (k : Go p l e R s m args below meth c n0 K N Q h ck cn (mkF m pc' Ls (st))) : Go p l e R s m args below meth c n0 K N Q h ck cn (mkF m pc Ls (x :: st)) := by
  obtain ⟨hd, rfl⟩ := hd
  exact Go.step (fun T locs X _ t k => XS.pop X.here C.1 rfl (hb C.2.1 hd) rfl hc k) k
theorem g_dupX1 (C : Cx p s m meth c Z code maxL own ret) {pc pc' : Nat} {Ls : Array Slot} {st : List Value} {x y : Value} (hd : I1 code pc (.dup_x1) 1 pc') (hc : x.category = 1) (hc' : y.category = 1) (k : Go p l e R s m args below meth c n0 K N Q h ck cn (mkF m pc' Ls (x :: y :: x :: st))) : Go p l e R s m args below meth c n0 K N Q h ck cn (mkF m pc Ls (x :: y :: st)) := by
  obtain ⟨hd, rfl⟩ := hd
  exact Go.step (fun T locs X _ t k => XS.dupX1 X.here C.1 rfl (hb C.2.1 hd) rfl hc hc' k) k
theorem g_dup2 (C : Cx p s m meth c Z code maxL own ret) {pc pc' : Nat} {Ls : Array Slot} {st : List Value} {x y : Value} (hd : I1 code pc (.dup2) 1 pc') (hc : x.category = 1) (hc' : y.category = 1) (k : Go p l e R s m args below meth c n0 K N Q h ck cn (mkF m pc' Ls (x :: y :: x :: y :: st))) : Go p l e R s m args below meth c n0 K N Q h ck cn (mkF m pc Ls (x :: y :: st)) := by
  obtain ⟨hd, rfl⟩ := hd
  exact Go.step (fun T locs X _ t k => Jvm.Free.XT.dup2 X.here C.1 rfl (hb C.2.1 hd) rfl hc hc' k) k
theorem g_dup2L (C : Cx p s m meth c Z code maxL own ret) {pc pc' : Nat} {Ls : Array Slot} {st : List Value} {x : Int64} (hd : I1 code pc (.dup2) 1 pc') (k : Go p l e R s m args below meth c n0 K N Q h ck cn (mkF m pc' Ls (.long x :: .long x :: st))) : Go p l e R s m args below meth c n0 K N Q h ck cn (mkF m pc Ls (.long x :: st)) := by
  obtain ⟨hd, rfl⟩ := hd
  exact Go.step (fun T locs X _ t k => Jvm.Free.XT.dup2L X.here C.1 rfl (hb C.2.1 hd) rfl k) k
theorem g_goto (C : Cx p s m meth c Z code maxL own ret) {pc pcT pcF : Nat} {Ls : Array Slot} {st : List Value} {o : Int} (hd : B1 code pc (.goto o) o pcT pcF) (k : Go p l e R s m args below meth c n0 K N Q h ck cn (mkF m pcT Ls st)) : Go p l e R s m args below meth c n0 K N Q h ck cn (mkF m pc Ls st) := by
  obtain ⟨hd, -, ho, hp⟩ := hd
  exact Go.step (fun T locs X _ t k => XS.goto X.here C.1 rfl (pc0 := pc) rfl (hb C.2.1 hd) ho hp k) k
theorem g_icmp_lt (C : Cx p s m meth c Z code maxL own ret) {pc pcT pcF : Nat} {Ls : Array Slot} {st : List Value} {o : Int} {x y : Int32} (hd : B1 code pc (.if_icmp .lt o) o pcT pcF) (kt : x < y → Go p l e R s m args below meth c n0 K N Q h ck cn (mkF m pcT Ls st)) (kf : ¬ (x < y) → Go p l e R s m args below meth c n0 K N Q h ck cn (mkF m pcF Ls st)) : Go p l e R s m args below meth c n0 K N Q h ck cn (mkF m pc Ls (.int y :: .int x :: st)) := by
  obtain ⟨hd, rfl, ho, hp⟩ := hd
  by_cases q : x < y
  · exact Go.step (fun T locs X _ t k => XS.icmpYes X.here C.1 rfl (pc0 := pc) rfl (hb C.2.1 hd) rfl ((tlt q).1) ho hp k) (kt q)
  · exact Go.step (fun T locs X _ t k => XS.icmpNo X.here C.1 rfl (hb C.2.1 hd) rfl ((flt q).1) k) (kf q)
theorem g_if_lt (C : Cx p s m meth c Z code maxL own ret) {pc pcT pcF : Nat} {Ls : Array Slot} {st : List Value} {o : Int} {x : Int32} (hd : B1 code pc (.ifCond .lt o) o pcT pcF) (kt : x < 0 → Go p l e R s m args below meth c n0 K N Q h ck cn (mkF m pcT Ls st)) (kf : ¬ (x < 0) → Go p l e R s m args below meth c n0 K N Q h ck cn (mkF m pcF Ls st)) : Go p l e R s m args below meth c n0 K N Q h ck cn (mkF m pc Ls (.int x :: st)) := by
  obtain ⟨hd, rfl, ho, hp⟩ := hd
  by_cases q : x < 0
  · exact Go.step (fun T locs X _ t k => XS.ifYes X.here C.1 rfl (pc0 := pc) rfl (hb C.2.1 hd) rfl ((if0 _ _).trans (tlt q).1) ho hp k) (kt q)
  · exact Go.step (fun T locs X _ t k => XS.ifNo X.here C.1 rfl (hb C.2.1 hd) rfl ((if0 _ _).trans (flt q).1) k) (kf q)
theorem g_ifl_lt (C : Cx p s m meth c Z code maxL own ret) {pc pcT pcF : Nat} {Ls : Array Slot} {st : List Value} {o : Int} {x y : Int64} (hd : B1 code pc (.ifCond .lt o) o pcT pcF) (kt : x < y → Go p l e R s m args below meth c n0 K N Q h ck cn (mkF m pcT Ls st)) (kf : ¬ (x < y) → Go p l e R s m args below meth c n0 K N Q h ck cn (mkF m pcF Ls st)) : Go p l e R s m args below meth c n0 K N Q h ck cn (mkF m pc Ls (.int (lcmpW x y) :: st)) := by
  obtain ⟨hd, rfl, ho, hp⟩ := hd
  by_cases q : x < y
  · exact Go.step (fun T locs X _ t k => XS.ifYes X.here C.1 rfl (pc0 := pc) rfl (hb C.2.1 hd) rfl ((if0 _ _).trans (tlt ((lw_lt x y).mpr q)).1) ho hp k) (kt q)
  · exact Go.step (fun T locs X _ t k => XS.ifNo X.here C.1 rfl (hb C.2.1 hd) rfl ((if0 _ _).trans (flt (fun z => q ((lw_lt x y).mp z))).1) k) (kf q)
theorem g_icmp_ge (C : Cx p s m meth c Z code maxL own ret) {pc pcT pcF : Nat} {Ls : Array Slot} {st : List Value} {o : Int} {x y : Int32} (hd : B1 code pc (.if_icmp .ge o) o pcT pcF) (kt : x < y → Go p l e R s m args below meth c n0 K N Q h ck cn (mkF m pcF Ls st)) (kf : ¬ (x < y) → Go p l e R s m args below meth c n0 K N Q h ck cn (mkF m pcT Ls st)) : Go p l e R s m args below meth c n0 K N Q h ck cn (mkF m pc Ls (.int y :: .int x :: st)) := by
  obtain ⟨hd, rfl, ho, hp⟩ := hd
  by_cases q : x < y
  · exact Go.step (fun T locs X _ t k => XS.icmpNo X.here C.1 rfl (hb C.2.1 hd) rfl ((tlt q).2.1) k) (kt q)
  · exact Go.step (fun T locs X _ t k => XS.icmpYes X.here C.1 rfl (pc0 := pc) rfl (hb C.2.1 hd) rfl ((flt q).2.1) ho hp k) (kf q)
theorem g_if_ge (C : Cx p s m meth c Z code maxL own ret) {pc pcT pcF : Nat} {Ls : Array Slot} {st : List Value} {o : Int} {x : Int32} (hd : B1 code pc (.ifCond .ge o) o pcT pcF) (kt : x < 0 → Go p l e R s m args below meth c n0 K N Q h ck cn (mkF m pcF Ls st)) (kf : ¬ (x < 0) → Go p l e R s m args below meth c n0 K N Q h ck cn (mkF m pcT Ls st)) : Go p l e R s m args below meth c n0 K N Q h ck cn (mkF m pc Ls (.int x :: st)) := by
  obtain ⟨hd, rfl, ho, hp⟩ := hd
  by_cases q : x < 0
  · exact Go.step (fun T locs X _ t k => XS.ifNo X.here C.1 rfl (hb C.2.1 hd) rfl ((if0 _ _).trans (tlt q).2.1) k) (kt q)
  · exact Go.step (fun T locs X _ t k => XS.ifYes X.here C.1 rfl (pc0 := pc) rfl (hb C.2.1 hd) rfl ((if0 _ _).trans (flt q).2.1) ho hp k) (kf q)
theorem g_ifl_ge (C : Cx p s m meth c Z code maxL own ret) {pc pcT pcF : Nat} {Ls : Array Slot} {st : List Value} {o : Int} {x y : Int64} (hd : B1 code pc (.ifCond .ge o) o pcT pcF) (kt : x < y → Go p l e R s m args below meth c n0 K N Q h ck cn (mkF m pcF Ls st)) (kf : ¬ (x < y) → Go p l e R s m args below meth c n0 K N Q h ck cn (mkF m pcT Ls st)) : Go p l e R s m args below meth c n0 K N Q h ck cn (mkF m pc Ls (.int (lcmpW x y) :: st)) := by
  obtain ⟨hd, rfl, ho, hp⟩ := hd
  by_cases q : x < y
  · exact Go.step (fun T locs X _ t k => XS.ifNo X.here C.1 rfl (hb C.2.1 hd) rfl ((if0 _ _).trans (tlt ((lw_lt x y).mpr q)).2.1) k) (kt q)
  · exact Go.step (fun T locs X _ t k => XS.ifYes X.here C.1 rfl (pc0 := pc) rfl (hb C.2.1 hd) rfl ((if0 _ _).trans (flt (fun z => q ((lw_lt x y).mp z))).2.1) ho hp k) (kf q)
theorem g_icmp_gt (C : Cx p s m meth c Z code maxL own ret) {pc pcT pcF : Nat} {Ls : Array Slot} {st : List Value} {o : Int} {x y : Int32} (hd : B1 code pc (.if_icmp .gt o) o pcT pcF) (kt : y < x → Go p l e R s m args below meth c n0 K N Q h ck cn (mkF m pcT Ls st)) (kf : ¬ (y < x) → Go p l e R s m args below meth c n0 K N Q h ck cn (mkF m pcF Ls st)) : Go p l e R s m args below meth c n0 K N Q h ck cn (mkF m pc Ls (.int y :: .int x :: st)) := by
  obtain ⟨hd, rfl, ho, hp⟩ := hd
  by_cases q : y < x
  · exact Go.step (fun T locs X _ t k => XS.icmpYes X.here C.1 rfl (pc0 := pc) rfl (hb C.2.1 hd) rfl ((tlt q).2.2.1) ho hp k) (kt q)
  · exact Go.step (fun T locs X _ t k => XS.icmpNo X.here C.1 rfl (hb C.2.1 hd) rfl ((flt q).2.2.1) k) (kf q)
theorem g_if_gt (C : Cx p s m meth c Z code maxL own ret) {pc pcT pcF : Nat} {Ls : Array Slot} {st : List Value} {o : Int} {x : Int32} (hd : B1 code pc (.ifCond .gt o) o pcT pcF) (kt : 0 < x → Go p l e R s m args below meth c n0 K N Q h ck cn (mkF m pcT Ls st)) (kf : ¬ (0 < x) → Go p l e R s m args below meth c n0 K N Q h ck cn (mkF m pcF Ls st)) : Go p l e R s m args below meth c n0 K N Q h ck cn (mkF m pc Ls (.int x :: st)) := by
  obtain ⟨hd, rfl, ho, hp⟩ := hd
  by_cases q : 0 < x
  · exact Go.step (fun T locs X _ t k => XS.ifYes X.here C.1 rfl (pc0 := pc) rfl (hb C.2.1 hd) rfl ((if0 _ _).trans (tlt q).2.2.1) ho hp k) (kt q)
  · exact Go.step (fun T locs X _ t k => XS.ifNo X.here C.1 rfl (hb C.2.1 hd) rfl ((if0 _ _).trans (flt q).2.2.1) k) (kf q)
theorem g_ifl_gt (C : Cx p s m meth c Z code maxL own ret) {pc pcT pcF : Nat} {Ls : Array Slot} {st : List Value} {o : Int} {x y : Int64} (hd : B1 code pc (.ifCond .gt o) o pcT pcF) (kt : y < x → Go p l e R s m args below meth c n0 K N Q h ck cn (mkF m pcT Ls st)) (kf : ¬ (y < x) → Go p l e R s m args below meth c n0 K N Q h ck cn (mkF m pcF Ls st)) : Go p l e R s m args below meth c n0 K N Q h ck cn (mkF m pc Ls (.int (lcmpW x y) :: st)) := by
  obtain ⟨hd, rfl, ho, hp⟩ := hd
  by_cases q : y < x
  · exact Go.step (fun T locs X _ t k => XS.ifYes X.here C.1 rfl (pc0 := pc) rfl (hb C.2.1 hd) rfl ((if0 _ _).trans (tlt ((lw_gt x y).mpr q)).2.2.1) ho hp k) (kt q)
  · exact Go.step (fun T locs X _ t k => XS.ifNo X.here C.1 rfl (hb C.2.1 hd) rfl ((if0 _ _).trans (flt (fun z => q ((lw_gt x y).mp z))).2.2.1) k) (kf q)
theorem g_icmp_le (C : Cx p s m meth c Z code maxL own ret) {pc pcT pcF : Nat} {Ls : Array Slot} {st : List Value} {o : Int} {x y : Int32} (hd : B1 code pc (.if_icmp .le o) o pcT pcF) (kt : y < x → Go p l e R s m args below meth c n0 K N Q h ck cn (mkF m pcF Ls st)) (kf : ¬ (y < x) → Go p l e R s m args below meth c n0 K N Q h ck cn (mkF m pcT Ls st)) : Go p l e R s m args below meth c n0 K N Q h ck cn (mkF m pc Ls (.int y :: .int x :: st)) := by
  obtain ⟨hd, rfl, ho, hp⟩ := hd
  by_cases q : y < x
  · exact Go.step (fun T locs X _ t k => XS.icmpNo X.here C.1 rfl (hb C.2.1 hd) rfl ((tlt q).2.2.2) k) (kt q)
  · exact Go.step (fun T locs X _ t k => XS.icmpYes X.here C.1 rfl (pc0 := pc) rfl (hb C.2.1 hd) rfl ((flt q).2.2.2) ho hp k) (kf q)
theorem g_if_le (C : Cx p s m meth c Z code maxL own ret) {pc pcT pcF : Nat} {Ls : Array Slot} {st : List Value} {o : Int} {x : Int32} (hd : B1 code pc (.ifCond .le o) o pcT pcF) (kt : 0 < x → Go p l e R s m args below meth c n0 K N Q h ck cn (mkF m pcF Ls st)) (kf : ¬ (0 < x) → Go p l e R s m args below meth c n0 K N Q h ck cn (mkF m pcT Ls st)) : Go p l e R s m args below meth c n0 K N Q h ck cn (mkF m pc Ls (.int x :: st)) := by
  obtain ⟨hd, rfl, ho, hp⟩ := hd
  by_cases q : 0 < x
  · exact Go.step (fun T locs X _ t k => XS.ifNo X.here C.1 rfl (hb C.2.1 hd) rfl ((if0 _ _).trans (tlt q).2.2.2) k) (kt q)
  · exact Go.step (fun T locs X _ t k => XS.ifYes X.here C.1 rfl (pc0 := pc) rfl (hb C.2.1 hd) rfl ((if0 _ _).trans (flt q).2.2.2) ho hp k) (kf q)
theorem g_ifl_le (C : Cx p s m meth c Z code maxL own ret) {pc pcT pcF : Nat} {Ls : Array Slot} {st : List Value} {o : Int} {x y : Int64} (hd : B1 code pc (.ifCond .le o) o pcT pcF) (kt : y < x → Go p l e R s m args below meth c n0 K N Q h ck cn (mkF m pcF Ls st)) (kf : ¬ (y < x) → Go p l e R s m args below meth c n0 K N Q h ck cn (mkF m pcT Ls st)) : Go p l e R s m args below meth c n0 K N Q h ck cn (mkF m pc Ls (.int (lcmpW x y) :: st)) := by
  obtain ⟨hd, rfl, ho, hp⟩ := hd
  by_cases q : y < x
  · exact Go.step (fun T locs X _ t k => XS.ifNo X.here C.1 rfl (hb C.2.1 hd) rfl ((if0 _ _).trans (tlt ((lw_gt x y).mpr q)).2.2.2) k) (kt q)
  · exact Go.step (fun T locs X _ t k => XS.ifYes X.here C.1 rfl (pc0 := pc) rfl (hb C.2.1 hd) rfl ((if0 _ _).trans (flt (fun z => q ((lw_gt x y).mp z))).2.2.2) ho hp k) (kf q)
theorem g_icmp_eq (C : Cx p s m meth c Z code maxL own ret) {pc pcT pcF : Nat} {Ls : Array Slot} {st : List Value} {o : Int} {x y : Int32} (hd : B1 code pc (.if_icmp .eq o) o pcT pcF) (kt : x = y → Go p l e R s m args below meth c n0 K N Q h ck cn (mkF m pcT Ls st)) (kf : ¬ (x = y) → Go p l e R s m args below meth c n0 K N Q h ck cn (mkF m pcF Ls st)) : Go p l e R s m args below meth c n0 K N Q h ck cn (mkF m pc Ls (.int y :: .int x :: st)) := by
  obtain ⟨hd, rfl, ho, hp⟩ := hd
  by_cases q : x = y
  · exact Go.step (fun T locs X _ t k => XS.icmpYes X.here C.1 rfl (pc0 := pc) rfl (hb C.2.1 hd) rfl ((teq q).1) ho hp k) (kt q)
  · exact Go.step (fun T locs X _ t k => XS.icmpNo X.here C.1 rfl (hb C.2.1 hd) rfl ((feq q).1) k) (kf q)
theorem g_if_eq (C : Cx p s m meth c Z code maxL own ret) {pc pcT pcF : Nat} {Ls : Array Slot} {st : List Value} {o : Int} {x : Int32} (hd : B1 code pc (.ifCond .eq o) o pcT pcF) (kt : x = 0 → Go p l e R s m args below meth c n0 K N Q h ck cn (mkF m pcT Ls st)) (kf : ¬ (x = 0) → Go p l e R s m args below meth c n0 K N Q h ck cn (mkF m pcF Ls st)) : Go p l e R s m args below meth c n0 K N Q h ck cn (mkF m pc Ls (.int x :: st)) := by
  obtain ⟨hd, rfl, ho, hp⟩ := hd
  by_cases q : x = 0
  · exact Go.step (fun T locs X _ t k => XS.ifYes X.here C.1 rfl (pc0 := pc) rfl (hb C.2.1 hd) rfl ((if0 _ _).trans (teq q).1) ho hp k) (kt q)
  · exact Go.step (fun T locs X _ t k => XS.ifNo X.here C.1 rfl (hb C.2.1 hd) rfl ((if0 _ _).trans (feq q).1) k) (kf q)
theorem g_ifl_eq (C : Cx p s m meth c Z code maxL own ret) {pc pcT pcF : Nat} {Ls : Array Slot} {st : List Value} {o : Int} {x y : Int64} (hd : B1 code pc (.ifCond .eq o) o pcT pcF) (kt : x = y → Go p l e R s m args below meth c n0 K N Q h ck cn (mkF m pcT Ls st)) (kf : ¬ (x = y) → Go p l e R s m args below meth c n0 K N Q h ck cn (mkF m pcF Ls st)) : Go p l e R s m args below meth c n0 K N Q h ck cn (mkF m pc Ls (.int (lcmpW x y) :: st)) := by
  obtain ⟨hd, rfl, ho, hp⟩ := hd
  by_cases q : x = y
  · exact Go.step (fun T locs X _ t k => XS.ifYes X.here C.1 rfl (pc0 := pc) rfl (hb C.2.1 hd) rfl ((if0 _ _).trans (teq ((lw_eq x y).mpr q)).1) ho hp k) (kt q)
  · exact Go.step (fun T locs X _ t k => XS.ifNo X.here C.1 rfl (hb C.2.1 hd) rfl ((if0 _ _).trans (feq (fun z => q ((lw_eq x y).mp z))).1) k) (kf q)
theorem g_icmp_ne (C : Cx p s m meth c Z code maxL own ret) {pc pcT pcF : Nat} {Ls : Array Slot} {st : List Value} {o : Int} {x y : Int32} (hd : B1 code pc (.if_icmp .ne o) o pcT pcF) (kt : x = y → Go p l e R s m args below meth c n0 K N Q h ck cn (mkF m pcF Ls st)) (kf : ¬ (x = y) → Go p l e R s m args below meth c n0 K N Q h ck cn (mkF m pcT Ls st)) : Go p l e R s m args below meth c n0 K N Q h ck cn (mkF m pc Ls (.int y :: .int x :: st)) := by
  obtain ⟨hd, rfl, ho, hp⟩ := hd
  by_cases q : x = y
  · exact Go.step (fun T locs X _ t k => XS.icmpNo X.here C.1 rfl (hb C.2.1 hd) rfl ((teq q).2) k) (kt q)
  · exact Go.step (fun T locs X _ t k => XS.icmpYes X.here C.1 rfl (pc0 := pc) rfl (hb C.2.1 hd) rfl ((feq q).2) ho hp k) (kf q)
theorem g_if_ne (C : Cx p s m meth c Z code maxL own ret) {pc pcT pcF : Nat} {Ls : Array Slot} {st : List Value} {o : Int} {x : Int32} (hd : B1 code pc (.ifCond .ne o) o pcT pcF) (kt : x = 0 → Go p l e R s m args below meth c n0 K N Q h ck cn (mkF m pcF Ls st)) (kf : ¬ (x = 0) → Go p l e R s m args below meth c n0 K N Q h ck cn (mkF m pcT Ls st)) : Go p l e R s m args below meth c n0 K N Q h ck cn (mkF m pc Ls (.int x :: st)) := by
  obtain ⟨hd, rfl, ho, hp⟩ := hd
  by_cases q : x = 0
  · exact Go.step (fun T locs X _ t k => XS.ifNo X.here C.1 rfl (hb C.2.1 hd) rfl ((if0 _ _).trans (teq q).2) k) (kt q)
  · exact Go.step (fun T locs X _ t k => XS.ifYes X.here C.1 rfl (pc0 := pc) rfl (hb C.2.1 hd) rfl ((if0 _ _).trans (feq q).2) ho hp k) (kf q)
theorem g_ifl_ne (C : Cx p s m meth c Z code maxL own ret) {pc pcT pcF : Nat} {Ls : Array Slot} {st : List Value} {o : Int} {x y : Int64} (hd : B1 code pc (.ifCond .ne o) o pcT pcF) (kt : x = y → Go p l e R s m args below meth c n0 K N Q h ck cn (mkF m pcF Ls st)) (kf : ¬ (x = y) → Go p l e R s m args below meth c n0 K N Q h ck cn (mkF m pcT Ls st)) : Go p l e R s m args below meth c n0 K N Q h ck cn (mkF m pc Ls (.int (lcmpW x y) :: st)) := by
  obtain ⟨hd, rfl, ho, hp⟩ := hd
  by_cases q : x = y
  · exact Go.step (fun T locs X _ t k => XS.ifNo X.here C.1 rfl (hb C.2.1 hd) rfl ((if0 _ _).trans (teq ((lw_eq x y).mpr q)).2) k) (kt q)
  · exact Go.step (fun T locs X _ t k => XS.ifYes X.here C.1 rfl (pc0 := pc) rfl (hb C.2.1 hd) rfl ((if0 _ _).trans (feq (fun z => q ((lw_eq x y).mp z))).2) ho hp k) (kf q)
theorem g_ifnullN (C : Cx p s m meth c Z code maxL own ret) {pc pcT pcF : Nat} {Ls : Array Slot} {st : List Value} {o : Int} {b : Addr} (hd : B1 code pc (.ifnull o) o pcT pcF) (k : Go p l e R s m args below meth c n0 K N Q h ck cn (mkF m pcF Ls st)) : Go p l e R s m args below meth c n0 K N Q h ck cn (mkF m pc Ls (.ref b :: st)) := by
  obtain ⟨hd, rfl, ho, hp⟩ := hd
  exact Go.step (fun T locs X _ t k => XS.ifnullNo X.here C.1 rfl (hb C.2.1 hd) rfl k) k
theorem g_ifnullY (C : Cx p s m meth c Z code maxL own ret) {pc pcT pcF : Nat} {Ls : Array Slot} {st : List Value} {o : Int} (hd : B1 code pc (.ifnull o) o pcT pcF) (k : Go p l e R s m args below meth c n0 K N Q h ck cn (mkF m pcT Ls st)) : Go p l e R s m args below meth c n0 K N Q h ck cn (mkF m pc Ls (.null :: st)) := by
  obtain ⟨hd, rfl, ho, hp⟩ := hd
  exact Go.step (fun T locs X _ t k => XS.ifnullYes X.here C.1 rfl (pc0 := pc) rfl (hb C.2.1 hd) rfl ho hp k) k
theorem g_ifnonnullY (C : Cx p s m meth c Z code maxL own ret) {pc pcT pcF : Nat} {Ls : Array Slot} {st : List Value} {o : Int} {b : Addr} (hd : B1 code pc (.ifnonnull o) o pcT pcF) (k : Go p l e R s m args below meth c n0 K N Q h ck cn (mkF m pcT Ls st)) : Go p l e R s m args below meth c n0 K N Q h ck cn (mkF m pc Ls (.ref b :: st)) := by
  obtain ⟨hd, rfl, ho, hp⟩ := hd
  exact Go.step (fun T locs X _ t k => XS.ifnonnullYes X.here C.1 rfl (pc0 := pc) rfl (hb C.2.1 hd) rfl ho hp k) k
theorem g_ifnonnullN (C : Cx p s m meth c Z code maxL own ret) {pc pcT pcF : Nat} {Ls : Array Slot} {st : List Value} {o : Int} (hd : B1 code pc (.ifnonnull o) o pcT pcF) (k : Go p l e R s m args below meth c n0 K N Q h ck cn (mkF m pcF Ls st)) : Go p l e R s m args below meth c n0 K N Q h ck cn (mkF m pc Ls (.null :: st)) := by
  obtain ⟨hd, rfl, ho, hp⟩ := hd
  exact Go.step (fun T locs X _ t k => XS.ifnonnullNo X.here C.1 rfl (hb C.2.1 hd) rfl k) k
theorem g_acmp_eq (C : Cx p s m meth c Z code maxL own ret) {pc pcT pcF : Nat} {Ls : Array Slot} {st : List Value} {o : Int} {x y : Value} (h1 : x.isRef = true) (h2 : y.isRef = true) (hd : B1 code pc (.if_acmp .eq o) o pcT pcF) (kt : x = y → Go p l e R s m args below meth c n0 K N Q h ck cn (mkF m pcT Ls st)) (kf : ¬ x = y → Go p l e R s m args below meth c n0 K N Q h ck cn (mkF m pcF Ls st)) : Go p l e R s m args below meth c n0 K N Q h ck cn (mkF m pc Ls (y :: x :: st)) := by
  obtain ⟨hd, rfl, ho, rfl⟩ := hd
  by_cases q : x = y
  · exact Go.step (fun T locs X _ t k => Jvm.RoadKit.acmp X C.1 rfl h1 h2 (pc0 := pc) (same := true) rfl (hb C.2.1 hd) rfl (by simp [q]) ho rfl k) (kt q)
  · exact Go.step (fun T locs X _ t k => Jvm.RoadKit.acmp X C.1 rfl h1 h2 (pc0 := pc) (same := false) rfl (hb C.2.1 hd) rfl (by simp [q]) ho rfl k) (kf q)
theorem g_acmp_ne (C : Cx p s m meth c Z code maxL own ret) {pc pcT pcF : Nat} {Ls : Array Slot} {st : List Value} {o : Int} {x y : Value} (h1 : x.isRef = true) (h2 : y.isRef = true) (hd : B1 code pc (.if_acmp .ne o) o pcT pcF) (kt : x = y → Go p l e R s m args below meth c n0 K N Q h ck cn (mkF m pcF Ls st)) (kf : ¬ x = y → Go p l e R s m args below meth c n0 K N Q h ck cn (mkF m pcT Ls st)) : Go p l e R s m args below meth c n0 K N Q h ck cn (mkF m pc Ls (y :: x :: st)) := by
  obtain ⟨hd, rfl, ho, rfl⟩ := hd
  by_cases q : x = y
  · exact Go.step (fun T locs X _ t k => Jvm.RoadKit.acmp X C.1 rfl h1 h2 (pc0 := pc) (same := true) rfl (hb C.2.1 hd) rfl (by simp [q]) ho rfl k) (kt q)
  · exact Go.step (fun T locs X _ t k => Jvm.RoadKit.acmp X C.1 rfl h1 h2 (pc0 := pc) (same := false) rfl (hb C.2.1 hd) rfl (by simp [q]) ho rfl k) (kf q)
theorem ret0 {v : Option Value} {g : JFrame} (hlk : meth.locks = false) (hret : meth.sig.returnType = none → v = none) (hck : ck ≤ K) (hcn : cn ≤ N) (hQ : Q v h)
    (st : ∀ (T : State) (locs : List Loc) (fs : List Frame), Stand p l e R s m args below meth c T locs ck cn → (∀ (f : JFrame) (acts : List Action), f.method = m → f.locked = none → f.entered = [] → (doReturn e (T.setTop f) acts v).1 = T.setFrames fs) → Steps p.tables e below (T.setTop g) (T.setFrames fs)) :
    Go p l e R s m args below meth c n0 K N Q h ck cn g := fun T locs X eT hN => by
  obtain ⟨fs, hr, hrun, hended, hW, hsame⟩ := X.leave (v := v) hret hlk
  exact ⟨_, _, st T locs fs X hr, hrun, hended, v, locs, rfl, ⟨by show Q v T.heap; rw [eT]; exact hQ, hN⟩, ⟨_, rfl⟩, hW, hsame.mono hck hcn⟩
theorem g_retV (C : Cx p s m meth c Z code maxL own ret) {pc : Nat} {Ls : Array Slot} {pc' : Nat} (hd : I1 code pc .return_ 1 pc') (hret : ret = none) (hck : ck ≤ K) (hcn : cn ≤ N) (hQ : Q none h) : Go p l e R s m args below meth c n0 K N Q h ck cn (mkF m pc Ls []) := by
  obtain ⟨hd, -⟩ := hd
  exact ret0 C.2.2.2.2.2.2 (fun _ => rfl) hck hcn hQ (fun T locs fs X hr => X.returnOut C.1 (C.2.2.2.2.2.1.trans hret) (hb C.2.1 hd) hr)
theorem g_retInt (C : Cx p s m meth c Z code maxL own ret) {pc : Nat} {Ls : Array Slot} {pc' : Nat} {st : List Value} {z : Int32} (hd : I1 code pc .ireturn 1 pc') (hret : ret = some .int) (hck : ck ≤ K) (hcn : cn ≤ N) (hQ : Q (some (.int z)) h) : Go p l e R s m args below meth c n0 K N Q h ck cn (mkF m pc Ls (.int z :: st)) := by
  obtain ⟨hd, -⟩ := hd
  have hr' := C.2.2.2.2.2.1.trans hret
  exact ret0 C.2.2.2.2.2.2 (fun q => by rw [hr'] at q; cases q) hck hcn hQ (fun T locs fs X hr => retOut X C.1 hr' rfl (Or.inl ⟨rfl, Or.inl rfl, z, rfl⟩) (hb C.2.1 hd) hr)
theorem g_retLong (C : Cx p s m meth c Z code maxL own ret) {pc : Nat} {Ls : Array Slot} {pc' : Nat} {st : List Value} {z : Int64} (hd : I1 code pc .lreturn 1 pc') (hret : ret = some .long) (hck : ck ≤ K) (hcn : cn ≤ N) (hQ : Q (some (.long z)) h) : Go p l e R s m args below meth c n0 K N Q h ck cn (mkF m pc Ls (.long z :: st)) := by
  obtain ⟨hd, -⟩ := hd
  have hr' := C.2.2.2.2.2.1.trans hret
  exact ret0 C.2.2.2.2.2.2 (fun q => by rw [hr'] at q; cases q) hck hcn hQ (fun T locs fs X hr => retOut X C.1 hr' rfl (Or.inr (Or.inl ⟨rfl, rfl, z, rfl⟩)) (hb C.2.1 hd) hr)
theorem nar_ref {t : FieldType} {v : Value} (hv : v.isRef = true) : narrow t v = v := by
  rcases ref_cases hv with rfl | ⟨a, rfl⟩ <;> cases t <;> rfl
theorem g_retRef (C : Cx p s m meth c Z code maxL own ret) {pc : Nat} {Ls : Array Slot} {pc' : Nat} {st : List Value} {v : Value} {t : FieldType} (hd : I1 code pc .areturn 1 pc') (hret : ret = some t) (ht : t.isReference = true) (hv : v.isRef = true) (hck : ck ≤ K) (hcn : cn ≤ N) (hQ : Q (some v) h) : Go p l e R s m args below meth c n0 K N Q h ck cn (mkF m pc Ls (v :: st)) := by
  obtain ⟨hd, -⟩ := hd
  have hr' := C.2.2.2.2.2.1.trans hret
  exact ret0 C.2.2.2.2.2.2 (fun q => by rw [hr'] at q; cases q) hck hcn hQ (fun T locs fs X hr => retOut X C.1 hr' (nar_ref hv) (Or.inr (Or.inr (Or.inr (Or.inr ⟨rfl, ht, hv⟩)))) (hb C.2.1 hd) hr)
theorem g_retNar (C : Cx p s m meth c Z code maxL own ret) {pc : Nat} {Ls : Array Slot} {pc' : Nat} {st : List Value} {z : Int32} {t : FieldType} (hd : I1 code pc .ireturn 1 pc') (hret : ret = some t) (ht : t = .boolean ∨ t = .byte ∨ t = .char ∨ t = .short) (hck : ck ≤ K) (hcn : cn ≤ N) (hQ : Q (some (.int (nar t z))) h) : Go p l e R s m args below meth c n0 K N Q h ck cn (mkF m pc Ls (.int z :: st)) := by
  obtain ⟨hd, -⟩ := hd
  have hr' := C.2.2.2.2.2.1.trans hret
  exact ret0 C.2.2.2.2.2.2 (fun q => by rw [hr'] at q; cases q) hck hcn hQ (fun T locs fs X hr => retN X C.1 hr' ht (hb C.2.1 hd) hr)
theorem g_getF (C : Cx p s m meth c Z code maxL own ret) {pc pc' : Nat} {Ls : Array Slot} {st : List Value} {R0 O n d host : String} {index : Nat} {a : Addr} {v : Value} (hd : I1 code pc (.getfield index) 3 pc') (w : (Cond.fieldLink own index R0 n d).before a0 Z = true ∨ (Cond.fieldLinkNest own index R0 n d host).before a0 Z = true) (via : Via Z R0 O n d) (F : Fld Z h a O n d v)
    (k : Go p l e R s m args below meth c n0 K N Q h ck cn (mkF m pc' Ls (v :: st))) : Go p l e R s m args below meth c n0 K N Q h ck cn (mkF m pc Ls (.ref a :: st)) := fun T locs X eT hN => by
  obtain ⟨hd, rfl⟩ := hd
  obtain ⟨T', X', e', st'⟩ := Jvm.RoadKit.getF X C.1 C.2.2.2.1 C.2.2.2.2.1 w via eT F (g := mkF m pc Ls (.ref a :: st)) rfl rfl (hb C.2.1 hd)
  exact Go.move hN X' e' hN st' k
theorem g_getS (C : Cx p s m meth c Z code maxL own ret) {pc pc' : Nat} {Ls : Array Slot} {st : List Value} {R0 O n d host : String} {index : Nat} {v : Value} (hd : I1 code pc (.getstatic index) 3 pc') (w : (Cond.fieldLink own index R0 n d).before a0 Z = true ∨ (Cond.fieldLinkNest own index R0 n d host).before a0 Z = true) (via : Via Z R0 O n d) (F : Sta Z h O n d v)
    (k : Go p l e R s m args below meth c n0 K N Q h ck cn (mkF m pc' Ls (v :: st))) : Go p l e R s m args below meth c n0 K N Q h ck cn (mkF m pc Ls st) := fun T locs X eT hN => by
  obtain ⟨hd, rfl⟩ := hd
  obtain ⟨T', X', e', st'⟩ := Jvm.RoadKit.getS2 X C.1 C.2.2.2.1 C.2.2.2.2.1 w via eT F (g := mkF m pc Ls st) rfl (hb C.2.1 hd)
  exact Go.move hN X' e' hN st' k
theorem g_putF (C : Cx p s m meth c Z code maxL own ret) {pc pc' : Nat} {Ls : Array Slot} {st : List Value} {R0 O n d host Cl : String} {index kk : Nat} {ty : FieldType} {a : Addr} {v old : Value} (hd : I1 code pc (.putfield index) 3 pc') (w : (Cond.fieldLink own index R0 n d).before a0 Z = true ∨ (Cond.fieldLinkNest own index R0 n d host).before a0 Z = true) (via : Via Z R0 O n d) (F : Fld Z h a O n d old) (E : Exa Z h a Cl)
    (L : (Cond.lays Cl O n d).before a0 Z = true ∨ ((Cond.laysFinal Cl O n d).before a0 Z = true ∧ own = O ∧ meth.name = "<init>")) (wi : (Cond.instantiable Cl kk).before a0 Z = true) (hty : parseFieldDescriptor d = some ty) (hn : narrow ty v = v) (hf : fits ty v = true) (ha : n0 ≤ a)
    (k : ∀ h', Wr h h' a (Jvm.RoadKit.slotOf Z O n d) v → Go p l e R s m args below meth c n0 K N Q h' ck cn (mkF m pc' Ls st)) : Go p l e R s m args below meth c n0 K N Q h ck cn (mkF m pc Ls (v :: .ref a :: st)) := fun T locs X eT hN => by
  obtain ⟨hd, rfl⟩ := hd
  obtain ⟨T', h', X', e', W, st'⟩ := Jvm.RoadKit.putF X C.1 C.2.2.2.1 C.2.2.2.2.1 w via eT F E L wi hty hn hf (g := mkF m pc Ls (v :: .ref a :: st)) rfl rfl (hb C.2.1 hd)
  exact Go.move hN X' e' (Fr.snoc X' hN ha) st' (k h' W)
theorem g_putFN (C : Cx p s m meth c Z code maxL own ret) {pc pc' : Nat} {Ls : Array Slot} {st : List Value} {R0 O n d Cl : String} {index kk : Nat} {ty : FieldType} {a : Addr} {v v' old : Value} (hd : I1 code pc (.putfield index) 3 pc') (w : (Cond.fieldLink own index R0 n d).before a0 Z = true) (via : Via Z R0 O n d) (F : Fld Z h a O n d old) (E : Exa Z h a Cl)
    (L : (Cond.lays Cl O n d).before a0 Z = true ∨ ((Cond.laysFinal Cl O n d).before a0 Z = true ∧ own = O ∧ meth.name = "<init>")) (wi : (Cond.instantiable Cl kk).before a0 Z = true) (hty : parseFieldDescriptor d = some ty) (hn : narrow ty v = v') (hf : fits ty v' = true) (ha : n0 ≤ a)
    (k : ∀ h', Wr h h' a (Jvm.RoadKit.slotOf Z O n d) v' → Go p l e R s m args below meth c n0 K N Q h' ck cn (mkF m pc' Ls st)) : Go p l e R s m args below meth c n0 K N Q h ck cn (mkF m pc Ls (v :: .ref a :: st)) := fun T locs X eT hN => by
  obtain ⟨hd, rfl⟩ := hd
  obtain ⟨T', h', X', e', W, st'⟩ := Jvm.RoadKit.putFN X C.1 C.2.2.2.1 C.2.2.2.2.1 w via eT F E L wi hty hn hf (g := mkF m pc Ls (v :: .ref a :: st)) rfl rfl (hb C.2.1 hd)
  exact Go.move hN X' e' (Fr.snoc X' hN ha) st' (k h' W)
theorem g_newO (C : Cx p s m meth c Z code maxL own ret) {pc pc' : Nat} {Ls : Array Slot} {st : List Value} {Cl : String} {index n : Nat} (hd : I1 code pc (.new index) 3 pc') (w : (Cond.classLink own index Cl).before a0 Z = true) (wi : (Cond.instantiable Cl n).before a0 Z = true) (wz : (Cond.initialized Cl).before a0 Z = true) (hc : ck + 1 ≤ R.cells) (hl : cn + n ≤ R.slots) {ck' cn' : Nat} (hck : ck + 1 = ck') (hcn : cn + n = cn')
    (k : ∀ (h' : Heap) (a : Addr), a = h.size → Ext h h' → Exa Z h' a Cl → (∀ {O nm d : String} {ty : FieldType}, Laid Z a0 Cl O nm d → parseFieldDescriptor d = some ty → Fld Z h' a O nm d (defaultValue ty)) → Go p l e R s m args below meth c n0 K N Q h' ck' cn' (mkF m pc' Ls (.ref a :: st))) : Go p l e R s m args below meth c n0 K N Q h ck cn (mkF m pc Ls st) := fun T locs X eT hN => by
  obtain ⟨hd, rfl⟩ := hd
  subst hck hcn
  obtain ⟨T', h', X', e', E, A, D, -, st'⟩ := Jvm.RoadKit.newO X C.1 C.2.2.2.1 C.2.2.2.2.1 w wi wz eT (g := mkF m pc Ls st) rfl (hb C.2.1 hd) hc hl
  exact Go.move hN X' e' hN st' (k h' _ rfl E A D)
theorem g_initO (C : Cx p s m meth c Z code maxL own ret) {pc pc' : Nat} {Ls : Array Slot} {st : List Value} {a : Addr} {idx : Nat} (hd : I1 code pc (.invokespecial idx) 3 pc') (w1 : (Cond.methodLink own idx Lib.objectInit).before a0 Z = true) (w2 : (Cond.instanceMethod Lib.objectInit).before a0 Z = true) (w3 : (Cond.code Lib.objectInit ⟨#[0xb1]⟩ 1 none).before a0 Z = true) (hsz : Ls.size = maxL)
    (hf : 1 ≤ R.frames) (W : Nat) (hW : 2 * 0 + (st.map fun v => v.category).sum ≤ W) (hl : W + 12 ≤ R.locals) (k : Go p l e R s m args below meth c n0 K N Q h ck cn (mkF m pc' Ls st)) : Go p l e R s m args below meth c n0 K N Q h ck cn (mkF m pc Ls (.ref a :: st)) := fun T locs X eT hN => by
  obtain ⟨hd, rfl⟩ := hd
  obtain ⟨T', X', e', st'⟩ := Jvm.RoadKit.initO X C.1 C.2.2.2.1 C.2.2.2.2.1 w1 w2 w3 eT (g := mkF m pc Ls (.ref a :: st)) rfl (hsz.trans C.2.2.1.symm) rfl (hb C.2.1 hd) hf (W := W) hW hl
  exact Go.move hN X' e' hN st' k
theorem g_castY (C : Cx p s m meth c Z code maxL own ret) {pc pc' : Nat} {Ls : Array Slot} {st : List Value} {Kl : String} {index : Nat} {a : Addr} (hd : I1 code pc (.checkcast index) 3 pc') (w : (Cond.classLink own index Kl).before a0 Z = true) (F : Ins Z h a Kl true) (k : Go p l e R s m args below meth c n0 K N Q h ck cn (mkF m pc' Ls (.ref a :: st))) : Go p l e R s m args below meth c n0 K N Q h ck cn (mkF m pc Ls (.ref a :: st)) := fun T locs X eT hN => by
  obtain ⟨hd, rfl⟩ := hd
  obtain ⟨T', X', e', st'⟩ := Jvm.RoadKit.castY X C.1 C.2.2.2.1 C.2.2.2.2.1 w eT F (g := mkF m pc Ls (.ref a :: st)) rfl rfl (hb C.2.1 hd)
  exact Go.move hN X' e' hN st' k
theorem g_castNull (C : Cx p s m meth c Z code maxL own ret) {pc pc' : Nat} {Ls : Array Slot} {st : List Value} {index : Nat} (hd : I1 code pc (.checkcast index) 3 pc') (k : Go p l e R s m args below meth c n0 K N Q h ck cn (mkF m pc' Ls (.null :: st))) : Go p l e R s m args below meth c n0 K N Q h ck cn (mkF m pc Ls (.null :: st)) := by
  obtain ⟨hd, rfl⟩ := hd
  exact Go.step (fun T locs X _ t k => X.checkcastNull C.1 (g := mkF m pc Ls (.null :: st)) rfl rfl (hb C.2.1 hd) _ k) k
theorem g_instY (C : Cx p s m meth c Z code maxL own ret) {pc pc' : Nat} {Ls : Array Slot} {st : List Value} {Kl : String} {index : Nat} {a : Addr} (hd : I1 code pc (.instanceof index) 3 pc') (w : (Cond.classLink own index Kl).before a0 Z = true) (F : Ins Z h a Kl true) (k : Go p l e R s m args below meth c n0 K N Q h ck cn (mkF m pc' Ls (.int 1 :: st))) : Go p l e R s m args below meth c n0 K N Q h ck cn (mkF m pc Ls (.ref a :: st)) := fun T locs X eT hN => by
  obtain ⟨hd, rfl⟩ := hd
  obtain ⟨T', X', e', st'⟩ := Jvm.RoadKit.instY X C.1 C.2.2.2.1 C.2.2.2.2.1 w eT F (g := mkF m pc Ls (.ref a :: st)) rfl rfl (hb C.2.1 hd)
  exact Go.move hN X' e' hN st' k
theorem g_instNull (C : Cx p s m meth c Z code maxL own ret) {pc pc' : Nat} {Ls : Array Slot} {st : List Value} {index : Nat} (hd : I1 code pc (.instanceof index) 3 pc') (k : Go p l e R s m args below meth c n0 K N Q h ck cn (mkF m pc' Ls (.int 0 :: st))) : Go p l e R s m args below meth c n0 K N Q h ck cn (mkF m pc Ls (.null :: st)) := by
  obtain ⟨hd, rfl⟩ := hd
  exact Go.step (fun T locs X _ t k => X.instanceofNull C.1 (g := mkF m pc Ls (.null :: st)) rfl rfl (hb C.2.1 hd) _ k) k
/-- an array of n places: what each holds -/
def AV (Z : State) (h : Heap) (a : Addr) (ty : FieldType) (n : Nat) (f : Nat → Value) : Prop := ∃ c : Cell, Arr Z h a c ty ∧ c.slots.size = n ∧ n < 2 ^ 31 ∧ ∀ i, i < n → c.slots[i]? = some (f i)
theorem AV.lt {a : Addr} {ty : FieldType} {n : Nat} {f : Nat → Value} (F : AV Z h a ty n f) : a < h.size := by obtain ⟨c, A, -⟩ := F; exact A.lt
theorem AV.ext {h' : Heap} {a : Addr} {ty : FieldType} {n : Nat} {f : Nat → Value} (F : AV Z h a ty n f) (E : Ext h h') : AV Z h' a ty n f := by obtain ⟨c, A, r⟩ := F; exact ⟨c, A.ext E, r⟩
theorem AV.other {h' : Heap} {a b : Addr} {sl : Nat} {v : Value} {ty : FieldType} {n : Nat} {f : Nat → Value} (F : AV Z h b ty n f) (W : Wr h h' a sl v) (q : b ≠ a) : AV Z h' b ty n f := by obtain ⟨c, A, r⟩ := F; exact ⟨c, A.other W q, r⟩
theorem AV.keep {h' : Heap} {ws : List Addr} {a : Addr} {ty : FieldType} {n : Nat} {f : Nat → Value} (F : AV Z h a ty n f) (K : Keep h h' ws) (q : a ∉ ws) : AV Z h' a ty n f := by obtain ⟨c, A, r⟩ := F; exact ⟨c, ⟨K.2.1 a c A.1 q, A.2⟩, r⟩
theorem AV.congr {a : Addr} {ty : FieldType} {n : Nat} {f g : Nat → Value} (F : AV Z h a ty n f) (q : ∀ i, i < n → f i = g i) : AV Z h a ty n g := by obtain ⟨c, A, r1, r2, r3⟩ := F; exact ⟨c, A, r1, r2, fun i hi => by rw [← q i hi]; exact r3 i hi⟩
theorem AV.ofNew {a : Addr} {ty : FieldType} {cA : ClassId} {z : Int32} (A : Arr Z h a (newA cA ty z) ty) (q : ¬ z < 0) : AV Z h a ty z.toNatClampNeg (fun _ => defaultValue ty) :=
  ⟨_, A, sz_new _ _ _, (back32 q).2, fun i hi => by simp [newA, hi]⟩
theorem AV.set {h' : Heap} {a : Addr} {ty : FieldType} {n : Nat} {f : Nat → Value} {j : Nat} {v : Value} (F : AV Z h a ty n f) (W : Wr h h' a j v) : AV Z h' a ty n (fun i => if i = j then v else f i) := by
  obtain ⟨c, A, r1, r2, r3⟩ := F
  obtain ⟨cell, w1, w2, w3, w4⟩ := W
  cases w1.symm.trans A.1
  refine ⟨c.setSlot j v, A.same ⟨c, w1, w2, w3, w4⟩, by rw [sz_set, r1], r2, fun i hi => ?_⟩
  by_cases q : i = j
  · subst q; simp [Cell.setSlot, w3]
  · simp only [q, if_false]; rw [← r3 i hi]; exact Array.getElem?_setIfInBounds_ne (Ne.symm q)
/-- the place lies inside -/
def Inb (j : Int32) (n : Nat) : Prop := ¬ j < 0 ∧ j.toNatClampNeg < n
theorem Inb.not {j : Int32} {n : Nat} (q : Inb j n) : ¬ (j < 0 ∨ n ≤ j.toNatClampNeg) := fun r => r.elim q.1 (fun z => Nat.not_lt.mpr z q.2)
theorem inb_int {j : Int32} {n : Nat} (h1 : 0 ≤ j.toInt) (h2 : j.toInt < n) : Inb j n := ⟨by simp only [Int32.lt_iff_toInt_lt, Int32.reduceToInt]; omega, by simp only [Int32.toNatClampNeg]; omega⟩
theorem g_newP (C : Cx p s m meth c Z code maxL own ret) {pc pc' : Nat} {Ls : Array Slot} {st : List Value} {aty : ArrayType} {n : Int32} (hd : I1 code pc (.newarray aty) 2 pc') (w : (Cond.arrayClass (newarray.typeOf aty)).before a0 Z = true) (hn : ¬ n < 0) (cap : Nat) (hcap : n.toNatClampNeg ≤ cap) (hb8 : cap * 8 ≤ 536870912) (hc : ck + 1 ≤ R.cells) (hl : cn + cap ≤ R.slots) {ck' cn' : Nat} (hck : ck + 1 = ck') (hcn : cn + cap = cn')
    (k : ∀ (h' : Heap) (a : Addr), a = h.size → Ext h h' → AV Z h' a (newarray.typeOf aty) n.toNatClampNeg (fun _ => defaultValue (newarray.typeOf aty)) → Go p l e R s m args below meth c n0 K N Q h' ck' cn' (mkF m pc' Ls (.ref a :: st))) : Go p l e R s m args below meth c n0 K N Q h ck cn (mkF m pc Ls (.int n :: st)) := fun T locs X eT hN => by
  obtain ⟨hd, rfl⟩ := hd
  subst hck hcn
  obtain ⟨T', h', cA, X', e', E, A, st'⟩ := Jvm.RoadKit.newP X C.1 C.2.2.2.1 w eT (g := mkF m pc Ls (.int n :: st)) rfl (hb C.2.1 hd) rfl hn hcap hb8 hc hl
  exact Go.move hN X' e' hN st' (k h' _ rfl E (AV.ofNew A hn))
theorem g_alen (C : Cx p s m meth c Z code maxL own ret) {pc pc' : Nat} {Ls : Array Slot} {st : List Value} {a : Addr} {ty : FieldType} {n : Nat} {f : Nat → Value} (z : Int32) (hd : I1 code pc .arraylength 1 pc') (F : AV Z h a ty n f) (hz : n.toInt32 = z) (k : Go p l e R s m args below meth c n0 K N Q h ck cn (mkF m pc' Ls (.int z :: st))) : Go p l e R s m args below meth c n0 K N Q h ck cn (mkF m pc Ls (.ref a :: st)) := by
  obtain ⟨hd, rfl⟩ := hd
  obtain ⟨cl, A, r1, r2, r3⟩ := F
  subst hz
  exact Go.step (fun T locs X eT t k => X.arraylength C.1 (by rw [eT]; exact A.1) (State.isArrayOf_alike C.2.2.2.1.alike A.2.1) (g := mkF m pc Ls (.ref a :: st)) rfl rfl (hb C.2.1 hd) _ (by rw [r1]; exact k)) k
theorem g_iald (C : Cx p s m meth c Z code maxL own ret) {pc pc' : Nat} {Ls : Array Slot} {st : List Value} {a : Addr} {j : Int32} {n : Nat} {f : Nat → Value} (v : Value) (hd : I1 code pc .iaload 1 pc') (F : AV Z h a .int n f) (hj : Inb j n) (hv : f j.toNatClampNeg = v) (k : Go p l e R s m args below meth c n0 K N Q h ck cn (mkF m pc' Ls (v :: st))) : Go p l e R s m args below meth c n0 K N Q h ck cn (mkF m pc Ls (.int j :: .ref a :: st)) := by
  obtain ⟨hd, rfl⟩ := hd
  obtain ⟨cl, A, r1, r2, r3⟩ := F
  subst hv
  exact Go.step (fun T locs X eT t k => X.iaload C.1 (by rw [eT]; exact A.1) (State.isArrayOf_alike C.2.2.2.1.alike A.2.1) A.2.2 (by rw [r1]; exact hj.not) (r3 _ hj.2) (g := mkF m pc Ls (.int j :: .ref a :: st)) rfl rfl (hb C.2.1 hd) _ k) k
theorem g_lald (C : Cx p s m meth c Z code maxL own ret) {pc pc' : Nat} {Ls : Array Slot} {st : List Value} {a : Addr} {j : Int32} {n : Nat} {f : Nat → Value} (v : Value) (hd : I1 code pc .laload 1 pc') (F : AV Z h a .long n f) (hj : Inb j n) (hv : f j.toNatClampNeg = v) (k : Go p l e R s m args below meth c n0 K N Q h ck cn (mkF m pc' Ls (v :: st))) : Go p l e R s m args below meth c n0 K N Q h ck cn (mkF m pc Ls (.int j :: .ref a :: st)) := by
  obtain ⟨hd, rfl⟩ := hd
  obtain ⟨cl, A, r1, r2, r3⟩ := F
  subst hv
  exact Go.step (fun T locs X eT t k => X.laload C.1 (by rw [eT]; exact A.1) (State.isArrayOf_alike C.2.2.2.1.alike A.2.1) A.2.2 (by rw [r1]; exact hj.not) (r3 _ hj.2) (g := mkF m pc Ls (.int j :: .ref a :: st)) rfl rfl (hb C.2.1 hd) _ k) k
theorem g_cald (C : Cx p s m meth c Z code maxL own ret) {pc pc' : Nat} {Ls : Array Slot} {st : List Value} {a : Addr} {j : Int32} {n : Nat} {f : Nat → Value} (v : Value) (hd : I1 code pc .caload 1 pc') (F : AV Z h a .char n f) (hj : Inb j n) (hv : f j.toNatClampNeg = v) (k : Go p l e R s m args below meth c n0 K N Q h ck cn (mkF m pc' Ls (v :: st))) : Go p l e R s m args below meth c n0 K N Q h ck cn (mkF m pc Ls (.int j :: .ref a :: st)) := by
  obtain ⟨hd, rfl⟩ := hd
  obtain ⟨cl, A, r1, r2, r3⟩ := F
  subst hv
  exact Go.step (fun T locs X eT t k => X.caload C.1 (by rw [eT]; exact A.1) (State.isArrayOf_alike C.2.2.2.1.alike A.2.1) A.2.2 (by rw [r1]; exact hj.not) (r3 _ hj.2) (g := mkF m pc Ls (.int j :: .ref a :: st)) rfl rfl (hb C.2.1 hd) _ k) k
theorem g_sald (C : Cx p s m meth c Z code maxL own ret) {pc pc' : Nat} {Ls : Array Slot} {st : List Value} {a : Addr} {j : Int32} {n : Nat} {f : Nat → Value} (v : Value) (hd : I1 code pc .saload 1 pc') (F : AV Z h a .short n f) (hj : Inb j n) (hv : f j.toNatClampNeg = v) (k : Go p l e R s m args below meth c n0 K N Q h ck cn (mkF m pc' Ls (v :: st))) : Go p l e R s m args below meth c n0 K N Q h ck cn (mkF m pc Ls (.int j :: .ref a :: st)) := by
  obtain ⟨hd, rfl⟩ := hd
  obtain ⟨cl, A, r1, r2, r3⟩ := F
  subst hv
  exact Go.step (fun T locs X eT t k => X.saload C.1 (by rw [eT]; exact A.1) (State.isArrayOf_alike C.2.2.2.1.alike A.2.1) A.2.2 (by rw [r1]; exact hj.not) (r3 _ hj.2) (g := mkF m pc Ls (.int j :: .ref a :: st)) rfl rfl (hb C.2.1 hd) _ k) k
theorem g_bald (C : Cx p s m meth c Z code maxL own ret) {pc pc' : Nat} {Ls : Array Slot} {st : List Value} {a : Addr} {j : Int32} {n : Nat} {f : Nat → Value} (v : Value) (hd : I1 code pc .baload 1 pc') (F : AV Z h a .byte n f) (hj : Inb j n) (hv : f j.toNatClampNeg = v) (k : Go p l e R s m args below meth c n0 K N Q h ck cn (mkF m pc' Ls (v :: st))) : Go p l e R s m args below meth c n0 K N Q h ck cn (mkF m pc Ls (.int j :: .ref a :: st)) := by
  obtain ⟨hd, rfl⟩ := hd
  obtain ⟨cl, A, r1, r2, r3⟩ := F
  subst hv
  exact Go.step (fun T locs X eT t k => X.baloadBytes C.1 (by rw [eT]; exact A.1) (State.isArrayOf_alike C.2.2.2.1.alike A.2.1) A.2.2 (by rw [r1]; exact hj.not) (r3 _ hj.2) (g := mkF m pc Ls (.int j :: .ref a :: st)) rfl rfl (hb C.2.1 hd) _ k) k
theorem g_zald (C : Cx p s m meth c Z code maxL own ret) {pc pc' : Nat} {Ls : Array Slot} {st : List Value} {a : Addr} {j : Int32} {n : Nat} {f : Nat → Value} (v : Value) (hd : I1 code pc .baload 1 pc') (F : AV Z h a .boolean n f) (hj : Inb j n) (hv : f j.toNatClampNeg = v) (k : Go p l e R s m args below meth c n0 K N Q h ck cn (mkF m pc' Ls (v :: st))) : Go p l e R s m args below meth c n0 K N Q h ck cn (mkF m pc Ls (.int j :: .ref a :: st)) := by
  obtain ⟨hd, rfl⟩ := hd
  obtain ⟨cl, A, r1, r2, r3⟩ := F
  subst hv
  exact Go.step (fun T locs X eT t k => X.baloadBooleans C.1 (by rw [eT]; exact A.1) (State.isArrayOf_alike C.2.2.2.1.alike A.2.1) A.2.2 (by rw [r1]; exact hj.not) (r3 _ hj.2) (g := mkF m pc Ls (.int j :: .ref a :: st)) rfl rfl (hb C.2.1 hd) _ k) k
theorem g_aald (C : Cx p s m meth c Z code maxL own ret) {pc pc' : Nat} {Ls : Array Slot} {st : List Value} {a : Addr} {j : Int32} {ty : FieldType} {n : Nat} {f : Nat → Value} (v : Value) (hd : I1 code pc .aaload 1 pc') (F : AV Z h a ty n f) (hj : Inb j n) (hv : f j.toNatClampNeg = v) (ht : ty.isReference = true) (k : Go p l e R s m args below meth c n0 K N Q h ck cn (mkF m pc' Ls (v :: st))) : Go p l e R s m args below meth c n0 K N Q h ck cn (mkF m pc Ls (.int j :: .ref a :: st)) := by
  obtain ⟨hd, rfl⟩ := hd
  obtain ⟨cl, A, r1, r2, r3⟩ := F
  subst hv
  exact Go.step (fun T locs X eT t k => X.aaload C.1 (by rw [eT]; exact A.1) (State.isArrayOf_alike C.2.2.2.1.alike A.2.1) ht A.2.2 (by rw [r1]; exact hj.not) (r3 _ hj.2) (g := mkF m pc Ls (.int j :: .ref a :: st)) rfl rfl (hb C.2.1 hd) _ k) k
theorem g_iast (C : Cx p s m meth c Z code maxL own ret) {pc pc' : Nat} {Ls : Array Slot} {st : List Value} {a : Addr} {j : Int32} {x : Int32} {n : Nat} {f : Nat → Value} (hd : I1 code pc .iastore 1 pc') (F : AV Z h a .int n f) (hj : Inb j n) (ha : n0 ≤ a)
    (k : ∀ h', Wr h h' a j.toNatClampNeg (.int x) → AV Z h' a .int n (fun i => if i = j.toNatClampNeg then .int x else f i) → Go p l e R s m args below meth c n0 K N Q h' ck cn (mkF m pc' Ls st)) : Go p l e R s m args below meth c n0 K N Q h ck cn (mkF m pc Ls (.int x :: .int j :: .ref a :: st)) := fun T locs X eT hN => by
  obtain ⟨hd, rfl⟩ := hd
  have F' := F
  obtain ⟨cl, A, r1, r2, r3⟩ := F
  obtain ⟨T', h', X', e', W, st'⟩ := Jvm.RoadKit.stI X C.1 C.2.2.2.1 eT A (by rw [r1]; exact hj.not) (g := mkF m pc Ls (.int x :: .int j :: .ref a :: st)) rfl rfl (hb C.2.1 hd)
  exact Go.move hN X' e' (Fr.snoc X' hN ha) st' (k h' W (F'.set W))
theorem g_last (C : Cx p s m meth c Z code maxL own ret) {pc pc' : Nat} {Ls : Array Slot} {st : List Value} {a : Addr} {j : Int32} {x : Int64} {n : Nat} {f : Nat → Value} (hd : I1 code pc .lastore 1 pc') (F : AV Z h a .long n f) (hj : Inb j n) (ha : n0 ≤ a)
    (k : ∀ h', Wr h h' a j.toNatClampNeg (.long x) → AV Z h' a .long n (fun i => if i = j.toNatClampNeg then .long x else f i) → Go p l e R s m args below meth c n0 K N Q h' ck cn (mkF m pc' Ls st)) : Go p l e R s m args below meth c n0 K N Q h ck cn (mkF m pc Ls (.long x :: .int j :: .ref a :: st)) := fun T locs X eT hN => by
  obtain ⟨hd, rfl⟩ := hd
  have F' := F
  obtain ⟨cl, A, r1, r2, r3⟩ := F
  obtain ⟨T', h', X', e', W, st'⟩ := Jvm.RoadKit.stJ X C.1 C.2.2.2.1 eT A (by rw [r1]; exact hj.not) (g := mkF m pc Ls (.long x :: .int j :: .ref a :: st)) rfl rfl (hb C.2.1 hd)
  exact Go.move hN X' e' (Fr.snoc X' hN ha) st' (k h' W (F'.set W))
theorem g_cast (C : Cx p s m meth c Z code maxL own ret) {pc pc' : Nat} {Ls : Array Slot} {st : List Value} {a : Addr} {j : Int32} {x : Int32} {n : Nat} {f : Nat → Value} (hd : I1 code pc .castore 1 pc') (F : AV Z h a .char n f) (hj : Inb j n) (ha : n0 ≤ a)
    (k : ∀ h', Wr h h' a j.toNatClampNeg (.int (nar .char x)) → AV Z h' a .char n (fun i => if i = j.toNatClampNeg then .int (nar .char x) else f i) → Go p l e R s m args below meth c n0 K N Q h' ck cn (mkF m pc' Ls st)) : Go p l e R s m args below meth c n0 K N Q h ck cn (mkF m pc Ls (.int x :: .int j :: .ref a :: st)) := fun T locs X eT hN => by
  obtain ⟨hd, rfl⟩ := hd
  have F' := F
  obtain ⟨cl, A, r1, r2, r3⟩ := F
  obtain ⟨T', h', X', e', W, st'⟩ := Jvm.RoadKit.stC X C.1 C.2.2.2.1 eT A (by rw [r1]; exact hj.not) (g := mkF m pc Ls (.int x :: .int j :: .ref a :: st)) rfl rfl (hb C.2.1 hd)
  exact Go.move hN X' e' (Fr.snoc X' hN ha) st' (k h' W (F'.set W))
theorem g_sast (C : Cx p s m meth c Z code maxL own ret) {pc pc' : Nat} {Ls : Array Slot} {st : List Value} {a : Addr} {j : Int32} {x : Int32} {n : Nat} {f : Nat → Value} (hd : I1 code pc .sastore 1 pc') (F : AV Z h a .short n f) (hj : Inb j n) (ha : n0 ≤ a)
    (k : ∀ h', Wr h h' a j.toNatClampNeg (.int (nar .short x)) → AV Z h' a .short n (fun i => if i = j.toNatClampNeg then .int (nar .short x) else f i) → Go p l e R s m args below meth c n0 K N Q h' ck cn (mkF m pc' Ls st)) : Go p l e R s m args below meth c n0 K N Q h ck cn (mkF m pc Ls (.int x :: .int j :: .ref a :: st)) := fun T locs X eT hN => by
  obtain ⟨hd, rfl⟩ := hd
  have F' := F
  obtain ⟨cl, A, r1, r2, r3⟩ := F
  obtain ⟨T', h', X', e', W, st'⟩ := Jvm.RoadKit.stS X C.1 C.2.2.2.1 eT A (by rw [r1]; exact hj.not) (g := mkF m pc Ls (.int x :: .int j :: .ref a :: st)) rfl rfl (hb C.2.1 hd)
  exact Go.move hN X' e' (Fr.snoc X' hN ha) st' (k h' W (F'.set W))
theorem g_bast (C : Cx p s m meth c Z code maxL own ret) {pc pc' : Nat} {Ls : Array Slot} {st : List Value} {a : Addr} {j : Int32} {x : Int32} {n : Nat} {f : Nat → Value} (hd : I1 code pc .bastore 1 pc') (F : AV Z h a .byte n f) (hj : Inb j n) (ha : n0 ≤ a)
    (k : ∀ h', Wr h h' a j.toNatClampNeg (.int (nar .byte x)) → AV Z h' a .byte n (fun i => if i = j.toNatClampNeg then .int (nar .byte x) else f i) → Go p l e R s m args below meth c n0 K N Q h' ck cn (mkF m pc' Ls st)) : Go p l e R s m args below meth c n0 K N Q h ck cn (mkF m pc Ls (.int x :: .int j :: .ref a :: st)) := fun T locs X eT hN => by
  obtain ⟨hd, rfl⟩ := hd
  have F' := F
  obtain ⟨cl, A, r1, r2, r3⟩ := F
  obtain ⟨T', h', X', e', W, st'⟩ := Jvm.RoadKit.stB X C.1 C.2.2.2.1 eT A (by rw [r1]; exact hj.not) (g := mkF m pc Ls (.int x :: .int j :: .ref a :: st)) rfl rfl (hb C.2.1 hd)
  exact Go.move hN X' e' (Fr.snoc X' hN ha) st' (k h' W (F'.set W))
theorem g_zast (C : Cx p s m meth c Z code maxL own ret) {pc pc' : Nat} {Ls : Array Slot} {st : List Value} {a : Addr} {j : Int32} {x : Int32} {n : Nat} {f : Nat → Value} (hd : I1 code pc .bastore 1 pc') (F : AV Z h a .boolean n f) (hj : Inb j n) (ha : n0 ≤ a)
    (k : ∀ h', Wr h h' a j.toNatClampNeg (.int (nar .boolean x)) → AV Z h' a .boolean n (fun i => if i = j.toNatClampNeg then .int (nar .boolean x) else f i) → Go p l e R s m args below meth c n0 K N Q h' ck cn (mkF m pc' Ls st)) : Go p l e R s m args below meth c n0 K N Q h ck cn (mkF m pc Ls (.int x :: .int j :: .ref a :: st)) := fun T locs X eT hN => by
  obtain ⟨hd, rfl⟩ := hd
  have F' := F
  obtain ⟨cl, A, r1, r2, r3⟩ := F
  obtain ⟨T', h', X', e', W, st'⟩ := Jvm.RoadKit.stZ X C.1 C.2.2.2.1 eT A (by rw [r1]; exact hj.not) (g := mkF m pc Ls (.int x :: .int j :: .ref a :: st)) rfl rfl (hb C.2.1 hd)
  exact Go.move hN X' e' (Fr.snoc X' hN ha) st' (k h' W (F'.set W))
theorem g_callS (C : Cx p s m meth c Z code maxL own ret) {pc pc' : Nat} {Ls : Array Slot} {y : MethodName} {ycode : ByteArray} {ymax : Nat} {yret : Option FieldType} {rm : Room} {as' : Array Value} {Q' : Option Value → Heap → Prop} {index : Nat} (hC : Ctr l Z y ycode ymax yret rm as' h n0 Q') (hd : I1 code pc (.invokestatic index) 3 pc') (w1 : (Cond.methodLink own index y).before a0 Z = true) (w2 : (Cond.static y).before a0 Z = true) (w3 : (Cond.initialized y.cls).before a0 Z = true) (w4 : (Cond.code y ycode ymax yret).before a0 Z = true) (hy : y.cls ≠ "java/lang/invoke/MethodHandle" ∧ y.cls ≠ "java/lang/invoke/VarHandle")
    {argsL st rest : List Value} (hst : st = argsL.reverse ++ rest) (has : argsL.toArray = as') {ps : List FieldType} {r : Option FieldType} (hpd : parseMethodDescriptor y.desc = some ⟨ps, r⟩) (hlen : argsL.length = ps.length) (hsz : Ls.size = maxL) (W : Nat) (hW : 2 * 0 + (rest.map fun v => v.category).sum ≤ W)
    (hf : rm.frames + 1 ≤ R.frames) (hl : W + (ymax + 11) + rm.locals ≤ R.locals) (hc : ck + rm.cells ≤ R.cells) (hs : cn + rm.slots ≤ R.slots) {ck' cn' : Nat} (hck : ck + rm.cells = ck') (hcn : cn + rm.slots = cn')
    (k : ∀ v h', Q' v h' → Go p l e R s m args below meth c n0 K N Q h' ck' cn' (mkF m pc' Ls (v.toList ++ rest))) : Go p l e R s m args below meth c n0 K N Q h ck cn (mkF m pc Ls st) := fun T locs X eT hN => by
  obtain ⟨hd, rfl⟩ := hd
  subst hck hcn hst
  obtain ⟨v, _, ⟨T', L', k', n'⟩, -, X', ⟨Lc, hQ, l1, l2, l3⟩, st'⟩ := Jvm.LawKit.callS X C.1 C.2.2.2.2.1 (mvT C.2.2.2.1 w1) (mvT C.2.2.2.1 w2) (mvT C.2.2.2.1 w3) (mvT C.2.2.2.1 w4) hy (backOf (W := W) (Q := fun v h L => Q' v h ∧ Fr n0 L) (hC []) C.2.2.2.1 w4 w3 hf hl) (g := mkF m pc Ls (argsL.reverse ++ rest)) rfl (hsz.trans C.2.2.1.symm) (argsL := argsL) (rest := rest) (lenOf hpd hlen) rfl hW (hb C.2.1 hd) (fun _ _ => ⟨has, eT, hc, hs⟩)
  dsimp only [Pt.U, Pt.locs, Pt.cells, Pt.slots] at X' l1 l2 l3 st' hQ
  subst l1 l2 l3
  exact Go.move hN X' rfl (Fr.app hN hQ.2) st' (k v _ hQ.1)
theorem g_callI (C : Cx p s m meth c Z code maxL own ret) {pc pc' : Nat} {Ls : Array Slot} {y : MethodName} {ycode : ByteArray} {ymax : Nat} {yret : Option FieldType} {rm : Room} {as' : Array Value} {Q' : Option Value → Heap → Prop} {index : Nat} (hC : Ctr l Z y ycode ymax yret rm as' h n0 Q') {a : Addr} (hd : I1 code pc (.invokespecial index) 3 pc') (hy1 : y.name = "<init>") (w1 : (Cond.methodLink own index y).before a0 Z = true) (w2 : (Cond.instanceMethod y).before a0 Z = true) (w3 : (Cond.initialized y.cls).before a0 Z = true) (w4 : (Cond.code y ycode ymax none).before a0 Z = true) (hyr : yret = none) (hy : y.cls ≠ "java/lang/invoke/MethodHandle" ∧ y.cls ≠ "java/lang/invoke/VarHandle")
    {argsL st rest : List Value} (hst : st = argsL.reverse ++ .ref a :: rest) (has : (.ref a :: argsL).toArray = as') {ps : List FieldType} {r : Option FieldType} (hpd : parseMethodDescriptor y.desc = some ⟨ps, r⟩) (hlen : argsL.length = ps.length) (hsz : Ls.size = maxL) (W : Nat) (hW : 2 * 0 + (rest.map fun v => v.category).sum ≤ W)
    (hf : rm.frames + 1 ≤ R.frames) (hl : W + (ymax + 11) + rm.locals ≤ R.locals) (hc : ck + rm.cells ≤ R.cells) (hs : cn + rm.slots ≤ R.slots) {ck' cn' : Nat} (hck : ck + rm.cells = ck') (hcn : cn + rm.slots = cn')
    (k : ∀ v h', Q' v h' → Go p l e R s m args below meth c n0 K N Q h' ck' cn' (mkF m pc' Ls (v.toList ++ rest))) : Go p l e R s m args below meth c n0 K N Q h ck cn (mkF m pc Ls st) := fun T locs X eT hN => by
  obtain ⟨hd, rfl⟩ := hd
  subst hck hcn hst
  subst hyr
  obtain ⟨v, _, ⟨T', L', k', n'⟩, -, X', ⟨Lc, hQ, l1, l2, l3⟩, st'⟩ := X.specialBack C.1 hy1 C.2.2.2.2.1 (mvT C.2.2.2.1 w1) (mvT C.2.2.2.1 w2) (mvT C.2.2.2.1 w4) hy (backOf (W := W) (Q := fun v h L => Q' v h ∧ Fr n0 L) (hC []) C.2.2.2.1 w4 w3 hf hl) (g := mkF m pc Ls (argsL.reverse ++ .ref a :: rest)) rfl (hsz.trans C.2.2.1.symm) (Steps.refl _) (a := a) (argsL := argsL) (rest := rest) (lenOf hpd hlen) rfl hW (hb C.2.1 hd) (fun _ _ => ⟨has, eT, hc, hs⟩)
  dsimp only [Pt.U, Pt.locs, Pt.cells, Pt.slots] at X' l1 l2 l3 st' hQ
  subst l1 l2 l3
  exact Go.move hN X' rfl (Fr.app hN hQ.2) (fun _ z => st'.trans z) (k v _ hQ.1)
theorem g_callV (C : Cx p s m meth c Z code maxL own ret) {pc pc' : Nat} {Ls : Array Slot} {y : MethodName} {ycode : ByteArray} {ymax : Nat} {yret : Option FieldType} {rm : Room} {as' : Array Value} {Q' : Option Value → Heap → Prop} {index : Nat} (hC : Ctr l Z y ycode ymax yret rm as' h n0 Q') {a : Addr} {x : MethodName} {Cl : String} (hd : I1 code pc (.invokevirtual index) 3 pc') (w1 : (Cond.methodLink own index x).before a0 Z = true) (w2 : (Cond.declares x).before a0 Z = true) (hnf : ∀ s : State, Z.Warmed39 s.vm → NotFace s x) (w5 : (Cond.selects Cl x y).before a0 Z = true) (w6 : (Cond.instanceMethod y).before a0 Z = true) (w3 : (Cond.initialized y.cls).before a0 Z = true) (w4 : (Cond.code y ycode ymax yret).before a0 Z = true) (hy : x.cls ≠ "java/lang/invoke/MethodHandle" ∧ x.cls ≠ "java/lang/invoke/VarHandle") (E : Exa Z h a Cl)
    {argsL st rest : List Value} (hst : st = argsL.reverse ++ .ref a :: rest) (has : (.ref a :: argsL).toArray = as') {ps : List FieldType} {r : Option FieldType} (hpd : parseMethodDescriptor x.desc = some ⟨ps, r⟩) (hlen : argsL.length = ps.length) (hsz : Ls.size = maxL) (W : Nat) (hW : 2 * 0 + (rest.map fun v => v.category).sum ≤ W)
    (hf : rm.frames + 1 ≤ R.frames) (hl : W + (ymax + 11) + rm.locals ≤ R.locals) (hc : ck + rm.cells ≤ R.cells) (hs : cn + rm.slots ≤ R.slots) {ck' cn' : Nat} (hck : ck + rm.cells = ck') (hcn : cn + rm.slots = cn')
    (k : ∀ v h', Q' v h' → Go p l e R s m args below meth c n0 K N Q h' ck' cn' (mkF m pc' Ls (v.toList ++ rest))) : Go p l e R s m args below meth c n0 K N Q h ck cn (mkF m pc Ls st) := fun T locs X eT hN => by
  obtain ⟨hd, rfl⟩ := hd
  subst hck hcn hst
  obtain ⟨cq, kq, q1, q2, q3⟩ := isOf C.2.2.2.1 eT E
  obtain ⟨v, _, ⟨T', L', k', n'⟩, -, X', ⟨Lc, hQ, l1, l2, l3⟩, st'⟩ := X.virtualBack C.1 (y := x) (z := y) C.2.2.2.2.1 (mvT C.2.2.2.1 w1) (mvT C.2.2.2.1 w2) (hnf s C.2.2.2.1) (mvT C.2.2.2.1 w5) (mvT C.2.2.2.1 w6) hy (backOf (W := W) (Q := fun v h L => Q' v h ∧ Fr n0 L) (hC []) C.2.2.2.1 w4 w3 hf hl) q1 q3 (g := mkF m pc Ls (argsL.reverse ++ .ref a :: rest)) rfl (hsz.trans C.2.2.1.symm) (Steps.refl _) (argsL := argsL) (rest := rest) (lenOf hpd hlen) rfl hW (hb C.2.1 hd) (fun _ _ => ⟨has, eT, hc, hs⟩)
  dsimp only [Pt.U, Pt.locs, Pt.cells, Pt.slots] at X' l1 l2 l3 st' hQ
  subst l1 l2 l3
  exact Go.move hN X' rfl (Fr.app hN hQ.2) (fun _ z => st'.trans z) (k v _ hQ.1)
theorem g_callP (C : Cx p s m meth c Z code maxL own ret) {pc pc' : Nat} {Ls : Array Slot} {y : MethodName} {ycode : ByteArray} {ymax : Nat} {yret : Option FieldType} {rm : Room} {as' : Array Value} {Q' : Option Value → Heap → Prop} {index : Nat} (hC : Ctr l Z y ycode ymax yret rm as' h n0 Q') {a : Addr} {Cl : String} (hd : I1 code pc (.invokevirtual index) 3 pc') (w1 : (Cond.methodLink own index y).before a0 Z = true) (w2 : (Cond.instanceMethod y).before a0 Z = true) (w5 : (Cond.selects y.cls y y).before a0 Z = true) (w6 : (Cond.privateMethod y).before a0 Z = true) (w3 : (Cond.initialized y.cls).before a0 Z = true) (w4 : (Cond.code y ycode ymax yret).before a0 Z = true) (hy : y.cls ≠ "java/lang/invoke/MethodHandle" ∧ y.cls ≠ "java/lang/invoke/VarHandle") (E : Exa Z h a Cl)
    {argsL st rest : List Value} (hst : st = argsL.reverse ++ .ref a :: rest) (has : (.ref a :: argsL).toArray = as') {ps : List FieldType} {r : Option FieldType} (hpd : parseMethodDescriptor y.desc = some ⟨ps, r⟩) (hlen : argsL.length = ps.length) (hsz : Ls.size = maxL) (W : Nat) (hW : 2 * 0 + (rest.map fun v => v.category).sum ≤ W)
    (hf : rm.frames + 1 ≤ R.frames) (hl : W + (ymax + 11) + rm.locals ≤ R.locals) (hc : ck + rm.cells ≤ R.cells) (hs : cn + rm.slots ≤ R.slots) {ck' cn' : Nat} (hck : ck + rm.cells = ck') (hcn : cn + rm.slots = cn')
    (k : ∀ v h', Q' v h' → Go p l e R s m args below meth c n0 K N Q h' ck' cn' (mkF m pc' Ls (v.toList ++ rest))) : Go p l e R s m args below meth c n0 K N Q h ck cn (mkF m pc Ls st) := fun T locs X eT hN => by
  obtain ⟨hd, rfl⟩ := hd
  subst hck hcn hst
  obtain ⟨cq, q1, q2⟩ := E.cell
  obtain ⟨v, _, ⟨T', L', k', n'⟩, -, X', ⟨Lc, hQ, l1, l2, l3⟩, st'⟩ := X.privateBack C.1 (y := y) C.2.2.2.2.1 (mvT C.2.2.2.1 w1) (mvT C.2.2.2.1 w2) (mvT C.2.2.2.1 w5) (Cond.privateMethod_at (mvP C.2.2.2.1 w6 (args := #[]))) (mvT C.2.2.2.1 w4) hy (backOf (W := W) (Q := fun v h L => Q' v h ∧ Fr n0 L) (hC []) C.2.2.2.1 w4 w3 hf hl) (g := mkF m pc Ls (argsL.reverse ++ .ref a :: rest)) rfl (hsz.trans C.2.2.1.symm) (Steps.refl _) (a := a) (by rw [eT]; exact q1) q2 (argsL := argsL) (rest := rest) (lenOf hpd hlen) rfl hW (hb C.2.1 hd) (fun _ _ => ⟨has, eT, hc, hs⟩)
  dsimp only [Pt.U, Pt.locs, Pt.cells, Pt.slots] at X' l1 l2 l3 st' hQ
  subst l1 l2 l3
  exact Go.move hN X' rfl (Fr.app hN hQ.2) (fun _ z => st'.trans z) (k v _ hQ.1)
end
end Jvm.OwnGo
namespace Jvm.OwnGo
open Jvm.RoadKit
theorem nar_b (x : Int32) : nar .boolean x = x &&& 1 := rfl
theorem nbT {P : Prop} [Decidable P] : nar .boolean (if P then (1 : Int32) else (0 : Int32)) = 1 ↔ P := by
  by_cases h : P
  · simp only [if_pos h]; exact ⟨fun _ => h, fun _ => rfl⟩
  · simp only [if_neg h]; exact ⟨fun q => absurd q (by decide), fun q => absurd q h⟩
theorem own_nat {i : Nat} (h : i < 2147483648) : i.toInt32.toInt = i := len_toInt h
theorem own_cl {i : Nat} (h : i < 2147483648) : i.toInt32.toNatClampNeg = i := by simp only [Int32.toNatClampNeg, own_nat h]; omega
theorem own_lt {i n : Nat} (hi : i < 2147483648) (hn : n < 2147483648) : i.toInt32 < n.toInt32 ↔ i < n := by
  rw [Int32.lt_iff_toInt_lt, own_nat hi, own_nat hn]; omega
theorem own_inN {i n : Nat} (hi : i < 2147483648) (h : i < n) : Inb i.toInt32 n := inb_int (by rw [own_nat hi]; omega) (by rw [own_nat hi]; omega)
theorem own_rd {α : Type} (F : Nat → α) {i : Nat} (h : i < 2147483648) : F i.toInt32.toNatClampNeg = F i := by rw [own_cl h]
theorem own_succ {i : Nat} (h : i < 2147483647) : i.toInt32 + (1 : Int32) = (i + 1).toInt32 := by
  rw [← Int32.toInt_inj]
  have h1 := c_iadd i.toInt32 1
  have h2 := rng32 (i.toInt32 + 1)
  have h3 : (1 : Int32).toInt = 1 := rfl
  rw [own_nat (by omega), h3] at h1
  rw [own_nat (by omega)]
  omega
theorem AV.small {Z : State} {h : Heap} {a : Addr} {ty : ClassFile.FieldType} {n : Nat} {f : Nat → Value} (V : AV Z h a ty n f) : n < 2147483648 := by
  obtain ⟨c, -, -, r, -⟩ := V; exact r
theorem own_inb {Z : State} {h : Heap} {a : Addr} {ty : ClassFile.FieldType} {n : Nat} {f : Nat → Value} (V : AV Z h a ty n f) {j : Int32} (h0 : ¬ (j < (0 : Int32))) (h1 : j < n.toInt32) : Inb j n := by
  have hn := V.small
  have e0 : (0 : Int32).toInt = 0 := rfl
  rw [Int32.lt_iff_toInt_lt] at h0 h1
  rw [own_nat hn] at h1
  exact inb_int (by omega) (by omega)
end Jvm.OwnGo
namespace Jvm.Pilot.@@N@@
open Jvm Jvm.ClassFile Sem Op Lib Jvm.Free Jvm.Stand Jvm.LawKit Jvm.RoadKit Bundle Jvm.Pilot.@@N@@.Jvm.D
open Jvm.OwnGo
theorem own_sum {p0 p1 : Int32} (hp : 0 ≤ p0.toInt ∧ p0.toInt ≤ 3 ∧ 0 ≤ p1.toInt ∧ p1.toInt ≤ 3) : ¬ (p0 + p1 < 0) ∧ (p0 + p1).toNatClampNeg ≤ 6 := by
  have h1 := c_iadd p0 p1
  have h2 := rng32 (p0 + p1)
  have e0 : (0 : Int32).toInt = 0 := rfl
  refine ⟨?_, ?_⟩
  · rw [Int32.lt_iff_toInt_lt]; omega
  · simp only [Int32.toNatClampNeg]; omega
theorem iN_0 : I1 jdk_29_method_70_code 0 (.lload_n 0) 1 1 := ⟨(by decide +kernel), rfl⟩
theorem iN_1 : I1 jdk_29_method_70_code 1 (.lload_n 2) 1 2 := ⟨(by decide +kernel), rfl⟩
theorem iN_2 : I1 jdk_29_method_70_code 2 (.lcmp) 1 3 := ⟨(by decide +kernel), rfl⟩
theorem iN_3 : B1 jdk_29_method_70_code 3 (.ifCond .gt 7) 7 10 6 := ⟨(by decide +kernel), rfl, by decide, by decide⟩
theorem iN_6 : I1 jdk_29_method_70_code 6 (.lload_n 0) 1 7 := ⟨(by decide +kernel), rfl⟩
theorem iN_7 : B1 jdk_29_method_70_code 7 (.goto 4) 4 11 10 := ⟨(by decide +kernel), rfl, by decide, by decide⟩
theorem iN_10 : I1 jdk_29_method_70_code 10 (.lload_n 2) 1 11 := ⟨(by decide +kernel), rfl⟩
theorem iN_11 : I1 jdk_29_method_70_code 11 (.lreturn) 1 12 := ⟨(by decide +kernel), rfl⟩
def vN_0 (q0 : Int64) (q1 : Int64) : Int64 := (if q1 < q0 then q1 else q0)
theorem efN (m : MethodId) (q0 : Int64) (q1 : Int64) : entryFrame m #[(.long q0), (.long q1)] 4 = mkF m 0 #[.val (.long q0), .second, .val (.long q1), .second] [] := by first | (simp [entryFrame, mkF, argsToLocals, Value.category]; done) | rfl
def QN (Z : State) (q0 : Int64) (q1 : Int64) (h0 : Heap) (n0 : Nat) (v : Option Value) (h : Heap) : Prop := v = some (.long (vN_0 q0 q1)) ∧ h = h0
set_option maxRecDepth 65536 in
set_option maxHeartbeats 40000000 in
theorem rmN (l : Launch) (Z : State) (aZ : Array Value) (hw : ∀ d ∈ tables_1, d.before aZ Z = true) (q0 : Int64) (q1 : Int64) (h0 : Heap) (n0 : Nat) (Z0 : n0 ≤ h0.size) :
    Ctr l Z (⟨"java/lang/Math", "min", "(JJ)J"⟩ : MethodName) jdk_29_method_70_code 4 (some .long) ({ frames := 0, cells := 0, slots := 0, locals := 0 } : Room) #[(.long q0), (.long q1)] h0 n0 (QN Z q0 q1 h0 n0) := by
  refine Ctr.of_go (Jvm.Free.JP.mathPlain rfl (by decide +kernel)) (fun m => efN m q0 q1) ?_
  intro p e s m below meth c hnm C
  refine g_lloadN C iN_0 rfl ?_
  refine g_lloadN C iN_1 rfl ?_
  refine g_lcmp C iN_2 ?_
  refine Go.join (mkF m 11 #[.val (.long q0), .second, .val (.long q1), .second] [(.long (vN_0 q0 q1))]) ?_ (fun J => ?_)
  · exact g_retLong C iN_11 rfl (by decide) (by decide) ⟨rfl, rfl⟩
  · refine g_ifl_gt C iN_3 (fun hc3_1 => ?_) (fun hc3_1 => ?_)
    · refine g_lloadN C iN_10 rfl ?_
      have e0 : (vN_0 q0 q1) = q1 := by simp only [vN_0, if_pos hc3_1]
      exact Go.cast J (by rw [e0])
    · refine g_lloadN C iN_6 rfl ?_
      refine g_goto C iN_7 ?_
      have e0 : (vN_0 q0 q1) = q0 := by simp only [vN_0, if_neg hc3_1]
      exact Go.cast J (by rw [e0])
theorem iX_0 : I1 jdk_29_method_66_code 0 (.lload_n 0) 1 1 := ⟨(by decide +kernel), rfl⟩
theorem iX_1 : I1 jdk_29_method_66_code 1 (.lload_n 2) 1 2 := ⟨(by decide +kernel), rfl⟩
theorem iX_2 : I1 jdk_29_method_66_code 2 (.lcmp) 1 3 := ⟨(by decide +kernel), rfl⟩
theorem iX_3 : B1 jdk_29_method_66_code 3 (.ifCond .lt 7) 7 10 6 := ⟨(by decide +kernel), rfl, by decide, by decide⟩
theorem iX_6 : I1 jdk_29_method_66_code 6 (.lload_n 0) 1 7 := ⟨(by decide +kernel), rfl⟩
theorem iX_7 : B1 jdk_29_method_66_code 7 (.goto 4) 4 11 10 := ⟨(by decide +kernel), rfl, by decide, by decide⟩
theorem iX_10 : I1 jdk_29_method_66_code 10 (.lload_n 2) 1 11 := ⟨(by decide +kernel), rfl⟩
theorem iX_11 : I1 jdk_29_method_66_code 11 (.lreturn) 1 12 := ⟨(by decide +kernel), rfl⟩
def vX_0 (q0 : Int64) (q1 : Int64) : Int64 := (if q0 < q1 then q1 else q0)
theorem efX (m : MethodId) (q0 : Int64) (q1 : Int64) : entryFrame m #[(.long q0), (.long q1)] 4 = mkF m 0 #[.val (.long q0), .second, .val (.long q1), .second] [] := by first | (simp [entryFrame, mkF, argsToLocals, Value.category]; done) | rfl
def QX (Z : State) (q0 : Int64) (q1 : Int64) (h0 : Heap) (n0 : Nat) (v : Option Value) (h : Heap) : Prop := v = some (.long (vX_0 q0 q1)) ∧ h = h0
set_option maxRecDepth 65536 in
set_option maxHeartbeats 40000000 in
theorem rmX (l : Launch) (Z : State) (aZ : Array Value) (hw : ∀ d ∈ tables_1, d.before aZ Z = true) (q0 : Int64) (q1 : Int64) (h0 : Heap) (n0 : Nat) (Z0 : n0 ≤ h0.size) :
    Ctr l Z (⟨"java/lang/Math", "max", "(JJ)J"⟩ : MethodName) jdk_29_method_66_code 4 (some .long) ({ frames := 0, cells := 0, slots := 0, locals := 0 } : Room) #[(.long q0), (.long q1)] h0 n0 (QX Z q0 q1 h0 n0) := by
  refine Ctr.of_go (Jvm.Free.JP.mathPlain rfl (by decide +kernel)) (fun m => efX m q0 q1) ?_
  intro p e s m below meth c hnm C
  refine g_lloadN C iX_0 rfl ?_
  refine g_lloadN C iX_1 rfl ?_
  refine g_lcmp C iX_2 ?_
  refine Go.join (mkF m 11 #[.val (.long q0), .second, .val (.long q1), .second] [(.long (vX_0 q0 q1))]) ?_ (fun J => ?_)
  · exact g_retLong C iX_11 rfl (by decide) (by decide) ⟨rfl, rfl⟩
  · refine g_ifl_lt C iX_3 (fun hc3_1 => ?_) (fun hc3_1 => ?_)
    · refine g_lloadN C iX_10 rfl ?_
      have e0 : (vX_0 q0 q1) = q1 := by simp only [vX_0, if_pos hc3_1]
      exact Go.cast J (by rw [e0])
    · refine g_lloadN C iX_6 rfl ?_
      refine g_goto C iX_7 ?_
      have e0 : (vX_0 q0 q1) = q0 := by simp only [vX_0, if_neg hc3_1]
      exact Go.cast J (by rw [e0])
theorem iY_0 : I1 jdk_29_method_69_code 0 (.iload_n 0) 1 1 := ⟨(by decide +kernel), rfl⟩
theorem iY_1 : I1 jdk_29_method_69_code 1 (.iload_n 1) 1 2 := ⟨(by decide +kernel), rfl⟩
theorem iY_2 : B1 jdk_29_method_69_code 2 (.if_icmp .gt 7) 7 9 5 := ⟨(by decide +kernel), rfl, by decide, by decide⟩
theorem iY_5 : I1 jdk_29_method_69_code 5 (.iload_n 0) 1 6 := ⟨(by decide +kernel), rfl⟩
theorem iY_6 : B1 jdk_29_method_69_code 6 (.goto 4) 4 10 9 := ⟨(by decide +kernel), rfl, by decide, by decide⟩
theorem iY_9 : I1 jdk_29_method_69_code 9 (.iload_n 1) 1 10 := ⟨(by decide +kernel), rfl⟩
theorem iY_10 : I1 jdk_29_method_69_code 10 (.ireturn) 1 11 := ⟨(by decide +kernel), rfl⟩
def vY_0 (p0 : Int32) (p1 : Int32) : Int32 := (if p1 < p0 then p1 else p0)
theorem efY (m : MethodId) (p0 : Int32) (p1 : Int32) : entryFrame m #[(.int p0), (.int p1)] 2 = mkF m 0 #[.val (.int p0), .val (.int p1)] [] := by first | (simp [entryFrame, mkF, argsToLocals, Value.category]; done) | rfl
def QY (Z : State) (p0 : Int32) (p1 : Int32) (h0 : Heap) (n0 : Nat) (v : Option Value) (h : Heap) : Prop := v = some (.int (vY_0 p0 p1)) ∧ h = h0
set_option maxRecDepth 65536 in
set_option maxHeartbeats 40000000 in
theorem rmY (l : Launch) (Z : State) (aZ : Array Value) (hw : ∀ d ∈ tables_1, d.before aZ Z = true) (p0 : Int32) (p1 : Int32) (h0 : Heap) (n0 : Nat) (Z0 : n0 ≤ h0.size) :
    Ctr l Z (⟨"java/lang/Math", "min", "(II)I"⟩ : MethodName) jdk_29_method_69_code 2 (some .int) ({ frames := 0, cells := 0, slots := 0, locals := 0 } : Room) #[(.int p0), (.int p1)] h0 n0 (QY Z p0 p1 h0 n0) := by
  refine Ctr.of_go (Jvm.Free.JP.mathPlain rfl (by decide +kernel)) (fun m => efY m p0 p1) ?_
  intro p e s m below meth c hnm C
  refine g_iloadN C iY_0 rfl ?_
  refine g_iloadN C iY_1 rfl ?_
  refine Go.join (mkF m 10 #[.val (.int p0), .val (.int p1)] [(.int (vY_0 p0 p1))]) ?_ (fun J => ?_)
  · exact g_retInt C iY_10 rfl (by decide) (by decide) ⟨rfl, rfl⟩
  · refine g_icmp_gt C iY_2 (fun hc2_1 => ?_) (fun hc2_1 => ?_)
    · refine g_iloadN C iY_9 rfl ?_
      have e0 : (vY_0 p0 p1) = p1 := by simp only [vY_0, if_pos hc2_1]
      exact Go.cast J (by rw [e0])
    · refine g_iloadN C iY_5 rfl ?_
      refine g_goto C iY_6 ?_
      have e0 : (vY_0 p0 p1) = p0 := by simp only [vY_0, if_neg hc2_1]
      exact Go.cast J (by rw [e0])
theorem pn0 : plainFor (⟨"com/example/linkweave/linkweave/OverlapCommonPinLaw", "set", "([JIIJJ)V"⟩ : MethodName) = true := by decide +kernel
theorem iS_0 : I1 method_4_code 0 (.iload_n 1) 1 1 := ⟨(by decide +kernel), rfl⟩
theorem iS_1 : I1 method_4_code 1 (.aload_n 0) 1 2 := ⟨(by decide +kernel), rfl⟩
theorem iS_2 : I1 method_4_code 2 (.arraylength) 1 3 := ⟨(by decide +kernel), rfl⟩
theorem iS_3 : B1 method_4_code 3 (.if_icmp .ge 20) 20 23 6 := ⟨(by decide +kernel), rfl, by decide, by decide⟩
theorem iS_6 : I1 method_4_code 6 (.iload_n 1) 1 7 := ⟨(by decide +kernel), rfl⟩
theorem iS_7 : I1 method_4_code 7 (.iload_n 2) 1 8 := ⟨(by decide +kernel), rfl⟩
theorem iS_8 : B1 method_4_code 8 (.if_icmp .ge 10) 10 18 11 := ⟨(by decide +kernel), rfl, by decide, by decide⟩
theorem iS_11 : I1 method_4_code 11 (.aload_n 0) 1 12 := ⟨(by decide +kernel), rfl⟩
theorem iS_12 : I1 method_4_code 12 (.iload_n 1) 1 13 := ⟨(by decide +kernel), rfl⟩
theorem iS_13 : I1 method_4_code 13 (.lload_n 3) 1 14 := ⟨(by decide +kernel), rfl⟩
theorem iS_14 : I1 method_4_code 14 (.lastore) 1 15 := ⟨(by decide +kernel), rfl⟩
theorem iS_15 : B1 method_4_code 15 (.goto 8) 8 23 18 := ⟨(by decide +kernel), rfl, by decide, by decide⟩
theorem iS_18 : I1 method_4_code 18 (.aload_n 0) 1 19 := ⟨(by decide +kernel), rfl⟩
theorem iS_19 : I1 method_4_code 19 (.iload_n 1) 1 20 := ⟨(by decide +kernel), rfl⟩
theorem iS_20 : I1 method_4_code 20 (.lload 5) 2 22 := ⟨(by decide +kernel), rfl⟩
theorem iS_22 : I1 method_4_code 22 (.lastore) 1 23 := ⟨(by decide +kernel), rfl⟩
theorem iS_23 : I1 method_4_code 23 (.return_) 1 24 := ⟨(by decide +kernel), rfl⟩
def arr_S_a0 (p1 : Int32) (p2 : Int32) (q3 : Int64) (q4 : Int64) (n_a0 : Nat) (f_a0 : Nat → Int64) (i : Nat) : Int64 := (if p1 < (n_a0.toInt32) then (if p1 < p2 then (if i = (p1).toNatClampNeg then q3 else f_a0 i) else (if i = (p1).toNatClampNeg then q4 else f_a0 i)) else f_a0 i)
theorem efS (m : MethodId) (a0 : Addr) (p1 : Int32) (p2 : Int32) (q3 : Int64) (q4 : Int64) : entryFrame m #[(.ref a0), (.int p1), (.int p2), (.long q3), (.long q4)] 7 = mkF m 0 #[.val (.ref a0), .val (.int p1), .val (.int p2), .val (.long q3), .second, .val (.long q4), .second] [] := by first | (simp [entryFrame, mkF, argsToLocals, Value.category]; done) | rfl
def QS (Z : State) (a0 : Addr) (p1 : Int32) (p2 : Int32) (q3 : Int64) (q4 : Int64) (n_a0 : Nat) (f_a0 : Nat → Int64) (h0 : Heap) (n0 : Nat) (v : Option Value) (h : Heap) : Prop := v = none ∧ Keep h0 h [a0] ∧ AV Z h a0 .long n_a0 (fun i => .long ((arr_S_a0 p1 p2 q3 q4 n_a0 f_a0) i))
set_option maxRecDepth 65536 in
set_option maxHeartbeats 40000000 in
theorem rmS (l : Launch) (Z : State) (aZ : Array Value) (hw : ∀ d ∈ tables_1, d.before aZ Z = true) (a0 : Addr) (p1 : Int32) (p2 : Int32) (q3 : Int64) (q4 : Int64) (n_a0 : Nat) (f_a0 : Nat → Int64) (h0 : Heap) (n0 : Nat) (Z0 : n0 ≤ h0.size) (hk : ¬ (p1 < (0 : Int32))) (V_a0 : AV Z h0 a0 .long n_a0 (fun i => .long (f_a0 i))) (g_a0 : n0 ≤ a0) :
    Ctr l Z (⟨"com/example/linkweave/linkweave/OverlapCommonPinLaw", "set", "([JIIJJ)V"⟩ : MethodName) method_4_code 7 none ({ frames := 0, cells := 0, slots := 0, locals := 0 } : Room) #[(.ref a0), (.int p1), (.int p2), (.long q3), (.long q4)] h0 n0 (QS Z a0 p1 p2 q3 q4 n_a0 f_a0 h0 n0) := by
  refine Ctr.of_go pn0 (fun m => efS m a0 p1 p2 q3 q4) ?_
  intro p e s m below meth c hnm C
  refine g_iloadN C iS_0 rfl ?_
  refine g_aloadN C iS_1 rfl rfl ?_
  refine g_alen C (n_a0.toInt32) iS_2 V_a0 rfl ?_
  refine g_icmp_ge C iS_3 (fun hc3_1 => ?_) (fun hc3_1 => ?_)
  · refine g_iloadN C iS_6 rfl ?_
    refine g_iloadN C iS_7 rfl ?_
    refine g_icmp_ge C iS_8 (fun hc8_1 => ?_) (fun hc8_1 => ?_)
    · refine g_aloadN C iS_11 rfl rfl ?_
      refine g_iloadN C iS_12 rfl ?_
      refine g_lloadN C iS_13 rfl ?_
      refine g_last C iS_14 V_a0 (own_inb V_a0 hk hc3_1) g_a0 (fun h1 W1 V1 => ?_)
      have Vw1 : AV Z h1 a0 .long n_a0 (fun i => if i = (p1).toNatClampNeg then (.long q3) else (fun i => .long (f_a0 i)) i) := V1
      have K1 := Keep.wr (Keep.refl h0 [a0]) W1 (Or.inl (List.mem_of_getElem? (i := 0) rfl))
      have Z1 : n0 ≤ h1.size := Nat.le_trans Z0 (Keep.of_wr W1).1
      refine g_goto C iS_15 ?_
      exact g_retV C iS_23 rfl (by decide) (by decide) ⟨rfl, K1, AV.congr Vw1 (fun i _ => by first | (simp only [arr_S_a0, if_pos hc3_1, if_pos hc8_1]; done) | (simp only [arr_S_a0, if_pos hc3_1, if_pos hc8_1]; first | rfl | ((repeat' split) <;> rfl)))⟩
    · refine g_aloadN C iS_18 rfl rfl ?_
      refine g_iloadN C iS_19 rfl ?_
      refine g_lload C iS_20 rfl ?_
      refine g_last C iS_22 V_a0 (own_inb V_a0 hk hc3_1) g_a0 (fun h2 W2 V2 => ?_)
      have Vw2 : AV Z h2 a0 .long n_a0 (fun i => if i = (p1).toNatClampNeg then (.long q4) else (fun i => .long (f_a0 i)) i) := V2
      have K2 := Keep.wr (Keep.refl h0 [a0]) W2 (Or.inl (List.mem_of_getElem? (i := 0) rfl))
      have Z2 : n0 ≤ h2.size := Nat.le_trans Z0 (Keep.of_wr W2).1
      exact g_retV C iS_23 rfl (by decide) (by decide) ⟨rfl, K2, AV.congr Vw2 (fun i _ => by first | (simp only [arr_S_a0, if_pos hc3_1, if_neg hc8_1]; done) | (simp only [arr_S_a0, if_pos hc3_1, if_neg hc8_1]; first | rfl | ((repeat' split) <;> rfl)))⟩
  · exact g_retV C iS_23 rfl (by decide) (by decide) ⟨rfl, (Keep.refl h0 [a0]), AV.congr V_a0 (fun i _ => by first | (simp only [arr_S_a0, if_neg hc3_1]; done) | (simp only [arr_S_a0, if_neg hc3_1]; first | rfl | ((repeat' split) <;> rfl)))⟩
theorem pd0 : parseMethodDescriptor "([JIIJJ)V" = some ⟨[(.array .long), .int, .int, .long, .long], none⟩ := by decide +kernel
theorem pn1 : plainFor (⟨"com/example/linkweave/linkweave/OverlapCommonPinLaw", "build", "(IIJJ)[J"⟩ : MethodName) = true := by decide +kernel
theorem iB_0 : I1 method_3_code 0 (.iload_n 0) 1 1 := ⟨(by decide +kernel), rfl⟩
theorem iB_1 : I1 method_3_code 1 (.iload_n 1) 1 2 := ⟨(by decide +kernel), rfl⟩
theorem iB_2 : I1 method_3_code 2 (.iadd) 1 3 := ⟨(by decide +kernel), rfl⟩
theorem iB_3 : I1 method_3_code 3 (.newarray .long) 2 5 := ⟨(by decide +kernel), rfl⟩
theorem iB_5 : I1 method_3_code 5 (.astore 6) 2 7 := ⟨(by decide +kernel), rfl⟩
theorem iB_7 : I1 method_3_code 7 (.aload 6) 2 9 := ⟨(by decide +kernel), rfl⟩
theorem iB_9 : I1 method_3_code 9 (.iconst 0) 1 10 := ⟨(by decide +kernel), rfl⟩
theorem iB_10 : I1 method_3_code 10 (.iload_n 0) 1 11 := ⟨(by decide +kernel), rfl⟩
theorem iB_11 : I1 method_3_code 11 (.lload_n 2) 1 12 := ⟨(by decide +kernel), rfl⟩
theorem iB_12 : I1 method_3_code 12 (.lload 4) 2 14 := ⟨(by decide +kernel), rfl⟩
theorem iB_14 : I1 method_3_code 14 (.invokestatic 31) 3 17 := ⟨(by decide +kernel), rfl⟩
theorem iB_17 : I1 method_3_code 17 (.aload 6) 2 19 := ⟨(by decide +kernel), rfl⟩
theorem iB_19 : I1 method_3_code 19 (.iconst 1) 1 20 := ⟨(by decide +kernel), rfl⟩
theorem iB_20 : I1 method_3_code 20 (.iload_n 0) 1 21 := ⟨(by decide +kernel), rfl⟩
theorem iB_21 : I1 method_3_code 21 (.lload_n 2) 1 22 := ⟨(by decide +kernel), rfl⟩
theorem iB_22 : I1 method_3_code 22 (.lload 4) 2 24 := ⟨(by decide +kernel), rfl⟩
theorem iB_24 : I1 method_3_code 24 (.invokestatic 31) 3 27 := ⟨(by decide +kernel), rfl⟩
theorem iB_27 : I1 method_3_code 27 (.aload 6) 2 29 := ⟨(by decide +kernel), rfl⟩
theorem iB_29 : I1 method_3_code 29 (.iconst 2) 1 30 := ⟨(by decide +kernel), rfl⟩
theorem iB_30 : I1 method_3_code 30 (.iload_n 0) 1 31 := ⟨(by decide +kernel), rfl⟩
theorem iB_31 : I1 method_3_code 31 (.lload_n 2) 1 32 := ⟨(by decide +kernel), rfl⟩
theorem iB_32 : I1 method_3_code 32 (.lload 4) 2 34 := ⟨(by decide +kernel), rfl⟩
theorem iB_34 : I1 method_3_code 34 (.invokestatic 31) 3 37 := ⟨(by decide +kernel), rfl⟩
theorem iB_37 : I1 method_3_code 37 (.aload 6) 2 39 := ⟨(by decide +kernel), rfl⟩
theorem iB_39 : I1 method_3_code 39 (.iconst 3) 1 40 := ⟨(by decide +kernel), rfl⟩
theorem iB_40 : I1 method_3_code 40 (.iload_n 0) 1 41 := ⟨(by decide +kernel), rfl⟩
theorem iB_41 : I1 method_3_code 41 (.lload_n 2) 1 42 := ⟨(by decide +kernel), rfl⟩
theorem iB_42 : I1 method_3_code 42 (.lload 4) 2 44 := ⟨(by decide +kernel), rfl⟩
theorem iB_44 : I1 method_3_code 44 (.invokestatic 31) 3 47 := ⟨(by decide +kernel), rfl⟩
theorem iB_47 : I1 method_3_code 47 (.aload 6) 2 49 := ⟨(by decide +kernel), rfl⟩
theorem iB_49 : I1 method_3_code 49 (.iconst 4) 1 50 := ⟨(by decide +kernel), rfl⟩
theorem iB_50 : I1 method_3_code 50 (.iload_n 0) 1 51 := ⟨(by decide +kernel), rfl⟩
theorem iB_51 : I1 method_3_code 51 (.lload_n 2) 1 52 := ⟨(by decide +kernel), rfl⟩
theorem iB_52 : I1 method_3_code 52 (.lload 4) 2 54 := ⟨(by decide +kernel), rfl⟩
theorem iB_54 : I1 method_3_code 54 (.invokestatic 31) 3 57 := ⟨(by decide +kernel), rfl⟩
theorem iB_57 : I1 method_3_code 57 (.aload 6) 2 59 := ⟨(by decide +kernel), rfl⟩
theorem iB_59 : I1 method_3_code 59 (.iconst 5) 1 60 := ⟨(by decide +kernel), rfl⟩
theorem iB_60 : I1 method_3_code 60 (.iload_n 0) 1 61 := ⟨(by decide +kernel), rfl⟩
theorem iB_61 : I1 method_3_code 61 (.lload_n 2) 1 62 := ⟨(by decide +kernel), rfl⟩
theorem iB_62 : I1 method_3_code 62 (.lload 4) 2 64 := ⟨(by decide +kernel), rfl⟩
theorem iB_64 : I1 method_3_code 64 (.invokestatic 31) 3 67 := ⟨(by decide +kernel), rfl⟩
theorem iB_67 : I1 method_3_code 67 (.aload 6) 2 69 := ⟨(by decide +kernel), rfl⟩
theorem iB_69 : I1 method_3_code 69 (.areturn) 1 70 := ⟨(by decide +kernel), rfl⟩
def vB_0 (p0 : Int32) (p1 : Int32) (q2 : Int64) (q3 : Int64) : Nat → Int64 := (fun i => (0 : Int64))
def arr_B_rb (p0 : Int32) (p1 : Int32) (q2 : Int64) (q3 : Int64) (i : Nat) : Int64 := (arr_S_a0 (5 : Int32) p0 q2 q3 (p0 + p1).toNatClampNeg (arr_S_a0 (4 : Int32) p0 q2 q3 (p0 + p1).toNatClampNeg (arr_S_a0 (3 : Int32) p0 q2 q3 (p0 + p1).toNatClampNeg (arr_S_a0 (2 : Int32) p0 q2 q3 (p0 + p1).toNatClampNeg (arr_S_a0 (1 : Int32) p0 q2 q3 (p0 + p1).toNatClampNeg (arr_S_a0 (0 : Int32) p0 q2 q3 (p0 + p1).toNatClampNeg (vB_0 p0 p1 q2 q3))))))) i
theorem efB (m : MethodId) (p0 : Int32) (p1 : Int32) (q2 : Int64) (q3 : Int64) : entryFrame m #[(.int p0), (.int p1), (.long q2), (.long q3)] 7 = mkF m 0 #[.val (.int p0), .val (.int p1), .val (.long q2), .second, .val (.long q3), .second, .unset] [] := by first | (simp [entryFrame, mkF, argsToLocals, Value.category]; done) | rfl
def QB (Z : State) (p0 : Int32) (p1 : Int32) (q2 : Int64) (q3 : Int64) (h0 : Heap) (n0 : Nat) (v : Option Value) (h : Heap) : Prop := ∃ rb : Addr, v = some (.ref rb) ∧ n0 ≤ rb ∧ h0.size ≤ rb ∧ Keep h0 h [] ∧ AV Z h rb .long (p0 + p1).toNatClampNeg (fun i => .long ((arr_B_rb p0 p1 q2 q3) i))
set_option maxRecDepth 65536 in
set_option maxHeartbeats 40000000 in
theorem rmB (l : Launch) (Z : State) (aZ : Array Value) (hw : ∀ d ∈ tables_1, d.before aZ Z = true) (p0 : Int32) (p1 : Int32) (q2 : Int64) (q3 : Int64) (h0 : Heap) (n0 : Nat) (Z0 : n0 ≤ h0.size) (hp : 0 ≤ p0.toInt ∧ p0.toInt ≤ 3 ∧ 0 ≤ p1.toInt ∧ p1.toInt ≤ 3) :
    Ctr l Z (⟨"com/example/linkweave/linkweave/OverlapCommonPinLaw", "build", "(IIJJ)[J"⟩ : MethodName) method_3_code 7 (some (.array .long)) ({ frames := 1, cells := 1, slots := 6, locals := 18 } : Room) #[(.int p0), (.int p1), (.long q2), (.long q3)] h0 n0 (QB Z p0 p1 q2 q3 h0 n0) := by
  refine Ctr.of_go pn1 (fun m => efB m p0 p1 q2 q3) ?_
  intro p e s m below meth c hnm C
  refine g_iloadN C iB_0 rfl ?_
  refine g_iloadN C iB_1 rfl ?_
  refine g_iadd C iB_2 ?_
  refine g_newP C iB_3 (hw _ (List.mem_of_getElem? (i := 11) rfl)) (own_sum hp).1 6 (own_sum hp).2 (by decide) (by decide) (by decide) rfl rfl (fun h3 b3 g3 E3 A3 => ?_)
  have ge3 : n0 ≤ b3 := Nat.le_trans Z0 (Nat.le_of_eq g3.symm)
  have fr3 : h0.size ≤ b3 := Nat.le_trans (Keep.refl h0 []).1 (Nat.le_of_eq g3.symm)
  have K3 := Keep.ext (Keep.refl h0 []) E3
  have Z3 : n0 ≤ h3.size := Nat.le_trans Z0 E3.1
  have V3 : AV Z h3 b3 .long (p0 + p1).toNatClampNeg (fun _ => (.long (0 : Int64))) := A3
  refine g_astore C (Ls' := #[.val (.int p0), .val (.int p1), .val (.long q2), .second, .val (.long q3), .second, .val (.ref b3)]) iB_5 rfl rfl ?_
  refine g_aload C iB_7 rfl rfl ?_
  refine g_iconst C (0 : Int32) iB_9 rfl ?_
  refine g_iloadN C iB_10 rfl ?_
  refine g_lloadN C iB_11 rfl ?_
  refine g_lload C iB_12 rfl ?_
  refine g_callS C (rmS l Z aZ hw b3 (0 : Int32) p0 q2 q3 (p0 + p1).toNatClampNeg (vB_0 p0 p1 q2 q3) h3 n0 Z3 (by decide) (AV.congr V3 (fun i _ => by first | rfl | ((repeat' split) <;> rfl) | (simp only [vB_0]; done) | (simp only [vB_0]; (repeat' split) <;> rfl))) ge3) iB_14 (hw _ (List.mem_of_getElem? (i := 12) rfl)) (hw _ (List.mem_of_getElem? (i := 13) rfl)) (hw _ (List.mem_of_getElem? (i := 9) rfl)) (hw _ (List.mem_of_getElem? (i := 14) rfl)) (by decide) (argsL := [(.ref b3), (.int (0 : Int32)), (.int p0), (.long q2), (.long q3)]) (rest := []) rfl rfl pd0 rfl rfl 0 (Nat.le_of_eq rfl) (by decide) (by decide) (by decide) (by decide) rfl rfl ?_
  rintro _ h4 ⟨rfl, KC4, P4_0⟩
  refine Go.none' ?_
  have KK4 := KC4
  have K4 := Keep.trans K3 KC4 (allS (Or.inr fr3) all0)
  have Z4 : n0 ≤ h4.size := Nat.le_trans Z3 KC4.1
  refine g_aload C iB_17 rfl rfl ?_
  refine g_iconst C (1 : Int32) iB_19 rfl ?_
  refine g_iloadN C iB_20 rfl ?_
  refine g_lloadN C iB_21 rfl ?_
  refine g_lload C iB_22 rfl ?_
  refine g_callS C (rmS l Z aZ hw b3 (1 : Int32) p0 q2 q3 (p0 + p1).toNatClampNeg (arr_S_a0 (0 : Int32) p0 q2 q3 (p0 + p1).toNatClampNeg (vB_0 p0 p1 q2 q3)) h4 n0 Z4 (by decide) P4_0 ge3) iB_24 (hw _ (List.mem_of_getElem? (i := 12) rfl)) (hw _ (List.mem_of_getElem? (i := 13) rfl)) (hw _ (List.mem_of_getElem? (i := 9) rfl)) (hw _ (List.mem_of_getElem? (i := 14) rfl)) (by decide) (argsL := [(.ref b3), (.int (1 : Int32)), (.int p0), (.long q2), (.long q3)]) (rest := []) rfl rfl pd0 rfl rfl 0 (Nat.le_of_eq rfl) (by decide) (by decide) (by decide) (by decide) rfl rfl ?_
  rintro _ h5 ⟨rfl, KC5, P5_0⟩
  refine Go.none' ?_
  have KK5 := KC5
  have K5 := Keep.trans K4 KC5 (allS (Or.inr fr3) all0)
  have Z5 : n0 ≤ h5.size := Nat.le_trans Z4 KC5.1
  refine g_aload C iB_27 rfl rfl ?_
  refine g_iconst C (2 : Int32) iB_29 rfl ?_
  refine g_iloadN C iB_30 rfl ?_
  refine g_lloadN C iB_31 rfl ?_
  refine g_lload C iB_32 rfl ?_
  refine g_callS C (rmS l Z aZ hw b3 (2 : Int32) p0 q2 q3 (p0 + p1).toNatClampNeg (arr_S_a0 (1 : Int32) p0 q2 q3 (p0 + p1).toNatClampNeg (arr_S_a0 (0 : Int32) p0 q2 q3 (p0 + p1).toNatClampNeg (vB_0 p0 p1 q2 q3))) h5 n0 Z5 (by decide) P5_0 ge3) iB_34 (hw _ (List.mem_of_getElem? (i := 12) rfl)) (hw _ (List.mem_of_getElem? (i := 13) rfl)) (hw _ (List.mem_of_getElem? (i := 9) rfl)) (hw _ (List.mem_of_getElem? (i := 14) rfl)) (by decide) (argsL := [(.ref b3), (.int (2 : Int32)), (.int p0), (.long q2), (.long q3)]) (rest := []) rfl rfl pd0 rfl rfl 0 (Nat.le_of_eq rfl) (by decide) (by decide) (by decide) (by decide) rfl rfl ?_
  rintro _ h6 ⟨rfl, KC6, P6_0⟩
  refine Go.none' ?_
  have KK6 := KC6
  have K6 := Keep.trans K5 KC6 (allS (Or.inr fr3) all0)
  have Z6 : n0 ≤ h6.size := Nat.le_trans Z5 KC6.1
  refine g_aload C iB_37 rfl rfl ?_
  refine g_iconst C (3 : Int32) iB_39 rfl ?_
  refine g_iloadN C iB_40 rfl ?_
  refine g_lloadN C iB_41 rfl ?_
  refine g_lload C iB_42 rfl ?_
  refine g_callS C (rmS l Z aZ hw b3 (3 : Int32) p0 q2 q3 (p0 + p1).toNatClampNeg (arr_S_a0 (2 : Int32) p0 q2 q3 (p0 + p1).toNatClampNeg (arr_S_a0 (1 : Int32) p0 q2 q3 (p0 + p1).toNatClampNeg (arr_S_a0 (0 : Int32) p0 q2 q3 (p0 + p1).toNatClampNeg (vB_0 p0 p1 q2 q3)))) h6 n0 Z6 (by decide) P6_0 ge3) iB_44 (hw _ (List.mem_of_getElem? (i := 12) rfl)) (hw _ (List.mem_of_getElem? (i := 13) rfl)) (hw _ (List.mem_of_getElem? (i := 9) rfl)) (hw _ (List.mem_of_getElem? (i := 14) rfl)) (by decide) (argsL := [(.ref b3), (.int (3 : Int32)), (.int p0), (.long q2), (.long q3)]) (rest := []) rfl rfl pd0 rfl rfl 0 (Nat.le_of_eq rfl) (by decide) (by decide) (by decide) (by decide) rfl rfl ?_
  rintro _ h7 ⟨rfl, KC7, P7_0⟩
  refine Go.none' ?_
  have KK7 := KC7
  have K7 := Keep.trans K6 KC7 (allS (Or.inr fr3) all0)
  have Z7 : n0 ≤ h7.size := Nat.le_trans Z6 KC7.1
  refine g_aload C iB_47 rfl rfl ?_
  refine g_iconst C (4 : Int32) iB_49 rfl ?_
  refine g_iloadN C iB_50 rfl ?_
  refine g_lloadN C iB_51 rfl ?_
  refine g_lload C iB_52 rfl ?_
  refine g_callS C (rmS l Z aZ hw b3 (4 : Int32) p0 q2 q3 (p0 + p1).toNatClampNeg (arr_S_a0 (3 : Int32) p0 q2 q3 (p0 + p1).toNatClampNeg (arr_S_a0 (2 : Int32) p0 q2 q3 (p0 + p1).toNatClampNeg (arr_S_a0 (1 : Int32) p0 q2 q3 (p0 + p1).toNatClampNeg (arr_S_a0 (0 : Int32) p0 q2 q3 (p0 + p1).toNatClampNeg (vB_0 p0 p1 q2 q3))))) h7 n0 Z7 (by decide) P7_0 ge3) iB_54 (hw _ (List.mem_of_getElem? (i := 12) rfl)) (hw _ (List.mem_of_getElem? (i := 13) rfl)) (hw _ (List.mem_of_getElem? (i := 9) rfl)) (hw _ (List.mem_of_getElem? (i := 14) rfl)) (by decide) (argsL := [(.ref b3), (.int (4 : Int32)), (.int p0), (.long q2), (.long q3)]) (rest := []) rfl rfl pd0 rfl rfl 0 (Nat.le_of_eq rfl) (by decide) (by decide) (by decide) (by decide) rfl rfl ?_
  rintro _ h8 ⟨rfl, KC8, P8_0⟩
  refine Go.none' ?_
  have KK8 := KC8
  have K8 := Keep.trans K7 KC8 (allS (Or.inr fr3) all0)
  have Z8 : n0 ≤ h8.size := Nat.le_trans Z7 KC8.1
  refine g_aload C iB_57 rfl rfl ?_
  refine g_iconst C (5 : Int32) iB_59 rfl ?_
  refine g_iloadN C iB_60 rfl ?_
  refine g_lloadN C iB_61 rfl ?_
  refine g_lload C iB_62 rfl ?_
  refine g_callS C (rmS l Z aZ hw b3 (5 : Int32) p0 q2 q3 (p0 + p1).toNatClampNeg (arr_S_a0 (4 : Int32) p0 q2 q3 (p0 + p1).toNatClampNeg (arr_S_a0 (3 : Int32) p0 q2 q3 (p0 + p1).toNatClampNeg (arr_S_a0 (2 : Int32) p0 q2 q3 (p0 + p1).toNatClampNeg (arr_S_a0 (1 : Int32) p0 q2 q3 (p0 + p1).toNatClampNeg (arr_S_a0 (0 : Int32) p0 q2 q3 (p0 + p1).toNatClampNeg (vB_0 p0 p1 q2 q3)))))) h8 n0 Z8 (by decide) P8_0 ge3) iB_64 (hw _ (List.mem_of_getElem? (i := 12) rfl)) (hw _ (List.mem_of_getElem? (i := 13) rfl)) (hw _ (List.mem_of_getElem? (i := 9) rfl)) (hw _ (List.mem_of_getElem? (i := 14) rfl)) (by decide) (argsL := [(.ref b3), (.int (5 : Int32)), (.int p0), (.long q2), (.long q3)]) (rest := []) rfl rfl pd0 rfl rfl 0 (Nat.le_of_eq rfl) (by decide) (by decide) (by decide) (by decide) rfl rfl ?_
  rintro _ h9 ⟨rfl, KC9, P9_0⟩
  refine Go.none' ?_
  have KK9 := KC9
  have K9 := Keep.trans K8 KC9 (allS (Or.inr fr3) all0)
  have Z9 : n0 ≤ h9.size := Nat.le_trans Z8 KC9.1
  refine g_aload C iB_67 rfl rfl ?_
  exact g_retRef C (t := (.array .long)) iB_69 rfl rfl rfl (by decide) (by decide) ⟨_, rfl, ge3, fr3, K9, AV.congr P9_0 (fun i _ => by first | (simp only [arr_B_rb]; done) | (simp only [arr_B_rb]; first | rfl | ((repeat' split) <;> rfl)))⟩
/-- the loop, in plain numbers -/
def comF : Nat → Nat → Nat → (Nat → Int64) → (Nat → Int64) → Nat → Nat → Nat → Nat
  | 0, _, _, _, _, _, _, cc => cc
  | k + 1, na, nb, f, g, i, j, cc => if i < na then (if j < nb then (if f i < g j then comF k na nb f g (i + 1) j cc else if g j < f i then comF k na nb f g i (j + 1) cc else comF k na nb f g (i + 1) (j + 1) (cc + 1)) else cc) else cc
def QC (Z : State) (a0 a1 : Addr) (n_a0 : Nat) (f_a0 : Nat → Int64) (n_a1 : Nat) (f_a1 : Nat → Int64) (h0 : Heap) (n0 : Nat) (v : Option Value) (h : Heap) : Prop := v = some (.int (comF (n_a0 + n_a1 + 1) n_a0 n_a1 f_a0 f_a1 0 0 0).toInt32) ∧ h = h0
theorem iC_7 : I1 prog_24_method_5_code 7 (.iload_n 3) 1 8 := ⟨(by decide +kernel), rfl⟩
theorem iC_8 : I1 prog_24_method_5_code 8 (.aload_n 0) 1 9 := ⟨(by decide +kernel), rfl⟩
theorem iC_9 : I1 prog_24_method_5_code 9 (.arraylength) 1 10 := ⟨(by decide +kernel), rfl⟩
theorem iC_10 : B1 prog_24_method_5_code 10 (.if_icmp .ge 56) 56 66 13 := ⟨(by decide +kernel), rfl, by decide, by decide⟩
theorem iC_13 : I1 prog_24_method_5_code 13 (.iload 4) 2 15 := ⟨(by decide +kernel), rfl⟩
theorem iC_15 : I1 prog_24_method_5_code 15 (.aload_n 1) 1 16 := ⟨(by decide +kernel), rfl⟩
theorem iC_16 : I1 prog_24_method_5_code 16 (.arraylength) 1 17 := ⟨(by decide +kernel), rfl⟩
theorem iC_17 : B1 prog_24_method_5_code 17 (.if_icmp .ge 49) 49 66 20 := ⟨(by decide +kernel), rfl, by decide, by decide⟩
theorem iC_20 : I1 prog_24_method_5_code 20 (.aload_n 0) 1 21 := ⟨(by decide +kernel), rfl⟩
theorem iC_21 : I1 prog_24_method_5_code 21 (.iload_n 3) 1 22 := ⟨(by decide +kernel), rfl⟩
theorem iC_22 : I1 prog_24_method_5_code 22 (.laload) 1 23 := ⟨(by decide +kernel), rfl⟩
theorem iC_23 : I1 prog_24_method_5_code 23 (.aload_n 1) 1 24 := ⟨(by decide +kernel), rfl⟩
theorem iC_24 : I1 prog_24_method_5_code 24 (.iload 4) 2 26 := ⟨(by decide +kernel), rfl⟩
theorem iC_26 : I1 prog_24_method_5_code 26 (.laload) 1 27 := ⟨(by decide +kernel), rfl⟩
theorem iC_27 : I1 prog_24_method_5_code 27 (.lcmp) 1 28 := ⟨(by decide +kernel), rfl⟩
theorem iC_28 : B1 prog_24_method_5_code 28 (.ifCond .ge 9) 9 37 31 := ⟨(by decide +kernel), rfl, by decide, by decide⟩
theorem iC_31 : I1 prog_24_method_5_code 31 (.iinc 3 1) 3 34 := ⟨(by decide +kernel), rfl⟩
theorem iC_34 : B1 prog_24_method_5_code 34 (.goto (-27)) (-27) 7 37 := ⟨(by decide +kernel), rfl, by decide, by decide⟩
theorem iC_37 : I1 prog_24_method_5_code 37 (.aload_n 0) 1 38 := ⟨(by decide +kernel), rfl⟩
theorem iC_38 : I1 prog_24_method_5_code 38 (.iload_n 3) 1 39 := ⟨(by decide +kernel), rfl⟩
theorem iC_39 : I1 prog_24_method_5_code 39 (.laload) 1 40 := ⟨(by decide +kernel), rfl⟩
theorem iC_40 : I1 prog_24_method_5_code 40 (.aload_n 1) 1 41 := ⟨(by decide +kernel), rfl⟩
theorem iC_41 : I1 prog_24_method_5_code 41 (.iload 4) 2 43 := ⟨(by decide +kernel), rfl⟩
theorem iC_43 : I1 prog_24_method_5_code 43 (.laload) 1 44 := ⟨(by decide +kernel), rfl⟩
theorem iC_44 : I1 prog_24_method_5_code 44 (.lcmp) 1 45 := ⟨(by decide +kernel), rfl⟩
theorem iC_45 : B1 prog_24_method_5_code 45 (.ifCond .le 9) 9 54 48 := ⟨(by decide +kernel), rfl, by decide, by decide⟩
theorem iC_48 : I1 prog_24_method_5_code 48 (.iinc 4 1) 3 51 := ⟨(by decide +kernel), rfl⟩
theorem iC_51 : B1 prog_24_method_5_code 51 (.goto (-44)) (-44) 7 54 := ⟨(by decide +kernel), rfl, by decide, by decide⟩
theorem iC_54 : I1 prog_24_method_5_code 54 (.iinc 2 1) 3 57 := ⟨(by decide +kernel), rfl⟩
theorem iC_57 : I1 prog_24_method_5_code 57 (.iinc 3 1) 3 60 := ⟨(by decide +kernel), rfl⟩
theorem iC_60 : I1 prog_24_method_5_code 60 (.iinc 4 1) 3 63 := ⟨(by decide +kernel), rfl⟩
theorem iC_63 : B1 prog_24_method_5_code 63 (.goto (-56)) (-56) 7 66 := ⟨(by decide +kernel), rfl, by decide, by decide⟩
theorem iC_66 : I1 prog_24_method_5_code 66 (.iload_n 2) 1 67 := ⟨(by decide +kernel), rfl⟩
theorem iC_67 : I1 prog_24_method_5_code 67 (.ireturn) 1 68 := ⟨(by decide +kernel), rfl⟩
set_option maxRecDepth 65536 in
set_option maxHeartbeats 40000000 in
theorem loopC (l : Launch) (Z : State) (a0 a1 : Addr) (na : Nat) (f : Nat → Int64) (nb : Nat) (g : Nat → Int64) (h0 : Heap) (n0 : Nat) (V0 : AV Z h0 a0 .long na (fun i => .long (f i))) (V1 : AV Z h0 a1 .long nb (fun i => .long (g i))) (hs : na + nb < 1000000)
    {p : Program} {e : Env} {s : State} {m : MethodId} {below : List Frame} {meth : Method} {c : Code} (C : Cx p s m meth c Z prog_24_method_5_code 5 "com/example/linkweave/linkweave/Overlap" (some .int)) :
    ∀ (k i j cc : Nat), (na - i) + (nb - j) < k → i ≤ na → j ≤ nb → cc ≤ i → Go p l e ({ frames := 0, cells := 0, slots := 0, locals := 0 } : Room) s m #[(.ref a0), (.ref a1)] below meth c n0 0 0 (fun v h => v = some (.int (comF k na nb f g i j cc).toInt32) ∧ h = h0) h0 0 0 (mkF m 7 #[.val (.ref a0), .val (.ref a1), .val (.int cc.toInt32), .val (.int i.toInt32), .val (.int j.toInt32)] []) := by
  intro k
  induction k with
  | zero => intro i j cc hk; exact absurd hk (Nat.not_lt_zero _)
  | succ k ih =>
    intro i j cc hk hi hj hcc
    have hi0 : i < 2147483648 := by omega
    have hj0 : j < 2147483648 := by omega
    have hna0 : na < 2147483648 := by omega
    have hnb0 : nb < 2147483648 := by omega
    refine g_iloadN C iC_7 rfl ?_
    refine g_aloadN C iC_8 rfl rfl ?_
    refine g_alen C (na.toInt32) iC_9 V0 rfl ?_
    refine g_icmp_ge C iC_10 (fun hc10_1 => ?_) (fun hc10_1 => ?_)
    · refine g_iload C iC_13 rfl ?_
      refine g_aloadN C iC_15 rfl rfl ?_
      refine g_alen C (nb.toInt32) iC_16 V1 rfl ?_
      refine g_icmp_ge C iC_17 (fun hc17_1 => ?_) (fun hc17_1 => ?_)
      · refine g_aloadN C iC_20 rfl rfl ?_
        refine g_iloadN C iC_21 rfl ?_
        refine g_lald C (.long (f i)) iC_22 V0 (own_inN hi0 ((own_lt hi0 hna0).mp hc10_1)) (own_rd (fun i => Value.long (f i)) hi0) ?_
        refine g_aloadN C iC_23 rfl rfl ?_
        refine g_iload C iC_24 rfl ?_
        refine g_lald C (.long (g j)) iC_26 V1 (own_inN hj0 ((own_lt hj0 hnb0).mp hc17_1)) (own_rd (fun i => Value.long (g i)) hj0) ?_
        refine g_lcmp C iC_27 ?_
        refine g_ifl_ge C iC_28 (fun hc28_1 => ?_) (fun hc28_1 => ?_)
        · refine g_iinc C (Ls' := #[.val (.ref a0), .val (.ref a1), .val (.int (cc.toInt32)), .val (.int ((i.toInt32) + (1 : Int32))), .val (.int (j.toInt32))]) iC_31 rfl rfl ?_
          refine g_goto C iC_34 ?_
          have hI := (own_lt hi0 hna0).mp hc10_1
          have hJ := (own_lt hj0 hnb0).mp hc17_1
          have e : comF (k + 1) na nb f g i j cc = comF k na nb f g (i + 1) (j) (cc) := by simp only [comF, if_pos hI, if_pos hJ, if_pos hc28_1]
          rw [e]
          exact Go.cast (ih (i + 1) (j) (cc) (by omega) (by omega) (by omega) (by omega)) (by rw [own_succ (i := i) (by omega)])
        · refine g_aloadN C iC_37 rfl rfl ?_
          refine g_iloadN C iC_38 rfl ?_
          refine g_lald C (.long (f i)) iC_39 V0 (own_inN hi0 ((own_lt hi0 hna0).mp hc10_1)) (own_rd (fun i => Value.long (f i)) hi0) ?_
          refine g_aloadN C iC_40 rfl rfl ?_
          refine g_iload C iC_41 rfl ?_
          refine g_lald C (.long (g j)) iC_43 V1 (own_inN hj0 ((own_lt hj0 hnb0).mp hc17_1)) (own_rd (fun i => Value.long (g i)) hj0) ?_
          refine g_lcmp C iC_44 ?_
          refine g_ifl_le C iC_45 (fun hc45_1 => ?_) (fun hc45_1 => ?_)
          · refine g_iinc C (Ls' := #[.val (.ref a0), .val (.ref a1), .val (.int (cc.toInt32)), .val (.int (i.toInt32)), .val (.int ((j.toInt32) + (1 : Int32)))]) iC_48 rfl rfl ?_
            refine g_goto C iC_51 ?_
            have hI := (own_lt hi0 hna0).mp hc10_1
            have hJ := (own_lt hj0 hnb0).mp hc17_1
            have e : comF (k + 1) na nb f g i j cc = comF k na nb f g (i) (j + 1) (cc) := by simp only [comF, if_pos hI, if_pos hJ, if_neg hc28_1, if_pos hc45_1]
            rw [e]
            exact Go.cast (ih (i) (j + 1) (cc) (by omega) (by omega) (by omega) (by omega)) (by rw [own_succ (i := j) (by omega)])
          · refine g_iinc C (Ls' := #[.val (.ref a0), .val (.ref a1), .val (.int ((cc.toInt32) + (1 : Int32))), .val (.int (i.toInt32)), .val (.int (j.toInt32))]) iC_54 rfl rfl ?_
            refine g_iinc C (Ls' := #[.val (.ref a0), .val (.ref a1), .val (.int ((cc.toInt32) + (1 : Int32))), .val (.int ((i.toInt32) + (1 : Int32))), .val (.int (j.toInt32))]) iC_57 rfl rfl ?_
            refine g_iinc C (Ls' := #[.val (.ref a0), .val (.ref a1), .val (.int ((cc.toInt32) + (1 : Int32))), .val (.int ((i.toInt32) + (1 : Int32))), .val (.int ((j.toInt32) + (1 : Int32)))]) iC_60 rfl rfl ?_
            refine g_goto C iC_63 ?_
            have hI := (own_lt hi0 hna0).mp hc10_1
            have hJ := (own_lt hj0 hnb0).mp hc17_1
            have e : comF (k + 1) na nb f g i j cc = comF k na nb f g (i + 1) (j + 1) (cc + 1) := by simp only [comF, if_pos hI, if_pos hJ, if_neg hc28_1, if_neg hc45_1]
            rw [e]
            exact Go.cast (ih (i + 1) (j + 1) (cc + 1) (by omega) (by omega) (by omega) (by omega)) (by rw [own_succ (i := cc) (by omega), own_succ (i := i) (by omega), own_succ (i := j) (by omega)])
      · refine g_iloadN C iC_66 rfl ?_
        have hI := (own_lt hi0 hna0).mp hc10_1
        have hJ : ¬ j < nb := fun q => hc17_1 ((own_lt hj0 hnb0).mpr q)
        have e : comF (k + 1) na nb f g i j cc = cc := by simp only [comF, if_pos hI, if_neg hJ]
        rw [e]
        exact g_retInt C iC_67 rfl (by decide) (by decide) ⟨rfl, rfl⟩
    · refine g_iloadN C iC_66 rfl ?_
      have hI : ¬ i < na := fun q => hc10_1 ((own_lt hi0 hna0).mpr q)
      have e : comF (k + 1) na nb f g i j cc = cc := by simp only [comF, if_neg hI]
      rw [e]
      exact g_retInt C iC_67 rfl (by decide) (by decide) ⟨rfl, rfl⟩
theorem iC_0 : I1 prog_24_method_5_code 0 (.iconst 0) 1 1 := ⟨(by decide +kernel), rfl⟩
theorem iC_1 : I1 prog_24_method_5_code 1 (.istore_n 2) 1 2 := ⟨(by decide +kernel), rfl⟩
theorem iC_2 : I1 prog_24_method_5_code 2 (.iconst 0) 1 3 := ⟨(by decide +kernel), rfl⟩
theorem iC_3 : I1 prog_24_method_5_code 3 (.istore_n 3) 1 4 := ⟨(by decide +kernel), rfl⟩
theorem iC_4 : I1 prog_24_method_5_code 4 (.iconst 0) 1 5 := ⟨(by decide +kernel), rfl⟩
theorem iC_5 : I1 prog_24_method_5_code 5 (.istore 4) 2 7 := ⟨(by decide +kernel), rfl⟩
theorem pn2 : plainFor (⟨"com/example/linkweave/linkweave/Overlap", "common", "([J[J)I"⟩ : MethodName) = true := by decide +kernel
theorem efC (m : MethodId) (a0 a1 : Addr) : entryFrame m #[(.ref a0), (.ref a1)] 5 = mkF m 0 #[.val (.ref a0), .val (.ref a1), .unset, .unset, .unset] [] := by first | (simp [entryFrame, mkF, argsToLocals, Value.category]; done) | rfl
set_option maxRecDepth 65536 in
set_option maxHeartbeats 40000000 in
theorem rmC (l : Launch) (Z : State) (aZ : Array Value) (hw : ∀ d ∈ tables_1, d.before aZ Z = true) (a0 a1 : Addr) (n_a0 : Nat) (f_a0 : Nat → Int64) (n_a1 : Nat) (f_a1 : Nat → Int64) (h0 : Heap) (n0 : Nat) (Z0 : n0 ≤ h0.size) (hs : n_a0 + n_a1 < 1000000) (V_a0 : AV Z h0 a0 .long n_a0 (fun i => .long (f_a0 i))) (V_a1 : AV Z h0 a1 .long n_a1 (fun i => .long (f_a1 i))) :
    Ctr l Z (⟨"com/example/linkweave/linkweave/Overlap", "common", "([J[J)I"⟩ : MethodName) prog_24_method_5_code 5 (some .int) ({ frames := 0, cells := 0, slots := 0, locals := 0 } : Room) #[(.ref a0), (.ref a1)] h0 n0 (QC Z a0 a1 n_a0 f_a0 n_a1 f_a1 h0 n0) := by
  refine Ctr.of_go pn2 (fun m => efC m a0 a1) ?_
  intro p e s m below meth c hnm C
  refine g_iconst C (0 : Int32) iC_0 rfl ?_
  refine g_istoreN C (Ls' := #[.val (.ref a0), .val (.ref a1), .val (.int (0 : Int32)), .unset, .unset]) iC_1 rfl ?_
  refine g_iconst C (0 : Int32) iC_2 rfl ?_
  refine g_istoreN C (Ls' := #[.val (.ref a0), .val (.ref a1), .val (.int (0 : Int32)), .val (.int (0 : Int32)), .unset]) iC_3 rfl ?_
  refine g_iconst C (0 : Int32) iC_4 rfl ?_
  refine g_istore C (Ls' := #[.val (.ref a0), .val (.ref a1), .val (.int (0 : Int32)), .val (.int (0 : Int32)), .val (.int (0 : Int32))]) iC_5 rfl ?_
  exact loopC l Z a0 a1 n_a0 f_a0 n_a1 f_a1 h0 n0 V_a0 V_a1 hs C (n_a0 + n_a1 + 1) 0 0 0 (by omega) (Nat.zero_le _) (Nat.zero_le _) (Nat.le_refl _)
theorem own_set (kk : Nat) (k : Int32) (hk : k.toInt = kk) (n : Nat) (hn : n < 2147483648) (c0 : Int32) (hc : 0 ≤ c0.toInt) (lo hi : Int64) (f : Nat → Int64) (i : Nat) : arr_S_a0 k c0 lo hi n f i = if i = kk ∧ kk < n then (if kk < c0.toNatClampNeg then lo else hi) else f i := by
  have e1 : k < n.toInt32 ↔ kk < n := by rw [Int32.lt_iff_toInt_lt, own_nat hn, hk]; omega
  have e2 : k < c0 ↔ kk < c0.toNatClampNeg := by rw [Int32.lt_iff_toInt_lt, hk]; simp only [Int32.toNatClampNeg]; omega
  have e3 : k.toNatClampNeg = kk := by simp only [Int32.toNatClampNeg, hk]; omega
  simp only [arr_S_a0, e1, e2, e3]
  by_cases h1 : kk < n
  · by_cases h2 : i = kk
    · have h3 : i = kk ∧ kk < n := ⟨h2, h1⟩
      simp only [if_pos h1, if_pos h2, if_pos h3]
    · have h3 : ¬ (i = kk ∧ kk < n) := fun q => h2 q.1
      simp only [if_pos h1, if_neg h2, if_neg h3, ite_self]
  · have h3 : ¬ (i = kk ∧ kk < n) := fun q => h1 q.2
    simp only [if_neg h1, if_neg h3]
theorem own_arr (p0 p1 : Int32) (lo hi : Int64) (hp : 0 ≤ p0.toInt ∧ p0.toInt ≤ 3 ∧ 0 ≤ p1.toInt ∧ p1.toInt ≤ 3) (i : Nat) (h : i < (p0 + p1).toNatClampNeg) : arr_B_rb p0 p1 lo hi i = if i < p0.toNatClampNeg then lo else hi := by
  have hn := (own_sum hp).2
  have hn' : (p0 + p1).toNatClampNeg < 2147483648 := by omega
  simp only [arr_B_rb]
  rw [own_set 5 5 rfl _ hn' _ hp.1, own_set 4 4 rfl _ hn' _ hp.1, own_set 3 3 rfl _ hn' _ hp.1, own_set 2 2 rfl _ hn' _ hp.1, own_set 1 1 rfl _ hn' _ hp.1, own_set 0 0 rfl _ hn' _ hp.1]
  rcases (by omega : i = 0 ∨ i = 1 ∨ i = 2 ∨ i = 3 ∨ i = 4 ∨ i = 5) with rfl | rfl | rfl | rfl | rfl | rfl <;> simp [h]
theorem comF_congr (na nb : Nat) (f f' g g' : Nat → Int64) (hf : ∀ i, i < na → f i = f' i) (hg : ∀ j, j < nb → g j = g' j) : ∀ k i j cc, comF k na nb f g i j cc = comF k na nb f' g' i j cc := by
  intro k
  induction k with
  | zero => intro i j cc; rfl
  | succ k ih =>
    intro i j cc
    simp only [comF]
    by_cases h1 : i < na
    · by_cases h2 : j < nb
      · simp only [if_pos h1, if_pos h2, hf i h1, hg j h2, ih]
      · simp only [if_pos h1, if_neg h2]
    · simp only [if_neg h1]
theorem comF_eq (na nb a b : Nat) (lo hi : Int64) (hlt : lo < hi) (ha : a ≤ na) (hb : b ≤ nb) : ∀ k i j cc, i ≤ na → j ≤ nb → (na - i) + (nb - j) < k →
    comF k na nb (fun i => if i < a then lo else hi) (fun j => if j < b then lo else hi) i j cc = cc + min (a - i) (b - j) + min (na - max i a) (nb - max j b) := by
  intro k
  have n1 : ¬ lo < lo := Int64.lt_irrefl
  have n2 : ¬ hi < hi := Int64.lt_irrefl
  have n3 : ¬ hi < lo := Int64.lt_asymm hlt
  induction k with
  | zero => intro i j cc _ _ h; omega
  | succ k ih =>
    intro i j cc h1 h2 h3
    simp only [comF]
    by_cases g1 : i < na
    · by_cases g2 : j < nb
      · simp only [if_pos g1, if_pos g2]
        by_cases g3 : i < a <;> by_cases g4 : j < b
        · simp only [if_pos g3, if_pos g4, if_neg n1]
          rw [ih _ _ _ (by omega) (by omega) (by omega)]; omega
        · simp only [if_pos g3, if_neg g4, if_pos hlt]
          rw [ih _ _ _ (by omega) (by omega) (by omega)]; omega
        · simp only [if_neg g3, if_pos g4, if_neg n3, if_pos hlt]
          rw [ih _ _ _ (by omega) (by omega) (by omega)]; omega
        · simp only [if_neg g3, if_neg g4, if_neg n2]
          rw [ih _ _ _ (by omega) (by omega) (by omega)]; omega
      · simp only [if_pos g1, if_neg g2]; omega
    · simp only [if_neg g1]; omega
theorem own_one (a0 a1 b0 b1 : Int32) (lo hi : Int64) (hlt : lo < hi) (ha : 0 ≤ a0.toInt ∧ a0.toInt ≤ 3 ∧ 0 ≤ a1.toInt ∧ a1.toInt ≤ 3) (hb : 0 ≤ b0.toInt ∧ b0.toInt ≤ 3 ∧ 0 ≤ b1.toInt ∧ b1.toInt ≤ 3) :
    ((comF ((a0 + a1).toNatClampNeg + (b0 + b1).toNatClampNeg + 1) (a0 + a1).toNatClampNeg (b0 + b1).toNatClampNeg (arr_B_rb a0 a1 lo hi) (arr_B_rb b0 b1 lo hi) 0 0 0).toInt32).toInt = min a0.toInt b0.toInt + min a1.toInt b1.toInt := by
  have h1 := c_iadd a0 a1
  have h2 := rng32 (a0 + a1)
  have h3 := c_iadd b0 b1
  have h4 := rng32 (b0 + b1)
  have e1 : (a0 + a1).toNatClampNeg = a0.toNatClampNeg + a1.toNatClampNeg := by simp only [Int32.toNatClampNeg]; omega
  have e2 : (b0 + b1).toNatClampNeg = b0.toNatClampNeg + b1.toNatClampNeg := by simp only [Int32.toNatClampNeg]; omega
  have q : comF ((a0 + a1).toNatClampNeg + (b0 + b1).toNatClampNeg + 1) (a0 + a1).toNatClampNeg (b0 + b1).toNatClampNeg (arr_B_rb a0 a1 lo hi) (arr_B_rb b0 b1 lo hi) 0 0 0 = min a0.toNatClampNeg b0.toNatClampNeg + min a1.toNatClampNeg b1.toNatClampNeg := by
    rw [comF_congr _ _ _ _ _ _ (own_arr a0 a1 lo hi ha) (own_arr b0 b1 lo hi hb), comF_eq _ _ _ _ lo hi hlt (by omega) (by omega) _ _ _ _ (by omega) (by omega) (by omega)]
    omega
  rw [q, own_nat (by simp only [Int32.toNatClampNeg]; omega)]
  simp only [Int32.toNatClampNeg]; omega
theorem own_xor (p : Int64) : p ^^^ (1 : Int64) ≠ p := fun h => by
  have q : p ^^^ (p ^^^ (1 : Int64)) = p ^^^ p := congrArg (p ^^^ ·) h
  rw [← Int64.xor_assoc, Int64.xor_self, Int64.zero_xor] at q
  exact absurd q (by decide)
theorem own_m3 (x : Int32) : 0 ≤ (x &&& (3 : Int32)).toInt ∧ (x &&& (3 : Int32)).toInt ≤ 3 := c_and x 3 (by decide)
theorem pd1 : parseMethodDescriptor "(JJ)J" = some ⟨[.long, .long], some .long⟩ := by decide +kernel
theorem pd2 : parseMethodDescriptor "(IIJJ)[J" = some ⟨[.int, .int, .long, .long], some (.array .long)⟩ := by decide +kernel
theorem pd3 : parseMethodDescriptor "(II)I" = some ⟨[.int, .int], some .int⟩ := by decide +kernel
theorem pd4 : parseMethodDescriptor "([J[J)I" = some ⟨[(.array .long), (.array .long)], some .int⟩ := by decide +kernel
theorem pn3 : plainFor (⟨"com/example/linkweave/linkweave/OverlapCommonPinLaw", "law", "(JJI)Z"⟩ : MethodName) = true := by decide +kernel
theorem iM_0 : I1 code 0 (.lload_n 0) 1 1 := ⟨at_0, rfl⟩
theorem iM_1 : I1 code 1 (.lload_n 2) 1 2 := ⟨at_1, rfl⟩
theorem iM_2 : I1 code 2 (.lcmp) 1 3 := ⟨at_2, rfl⟩
theorem iM_3 : B1 code 3 (.ifCond .ne 9) 9 12 6 := ⟨at_3, rfl, by decide, by decide⟩
theorem iM_6 : I1 code 6 (.lload_n 0) 1 7 := ⟨at_6, rfl⟩
theorem iM_7 : I1 code 7 (.lconst 1) 1 8 := ⟨at_7, rfl⟩
theorem iM_8 : I1 code 8 (.lxor) 1 9 := ⟨at_8, rfl⟩
theorem iM_9 : B1 code 9 (.goto 4) 4 13 12 := ⟨at_9, rfl, by decide, by decide⟩
theorem iM_12 : I1 code 12 (.lload_n 2) 1 13 := ⟨at_12, rfl⟩
theorem iM_13 : I1 code 13 (.lstore 5) 2 15 := ⟨at_13, rfl⟩
theorem iM_15 : I1 code 15 (.lload_n 0) 1 16 := ⟨at_15, rfl⟩
theorem iM_16 : I1 code 16 (.lload 5) 2 18 := ⟨at_16, rfl⟩
theorem iM_18 : I1 code 18 (.invokestatic 7) 3 21 := ⟨at_18, rfl⟩
theorem iM_21 : I1 code 21 (.lstore 7) 2 23 := ⟨at_21, rfl⟩
theorem iM_23 : I1 code 23 (.lload_n 0) 1 24 := ⟨at_23, rfl⟩
theorem iM_24 : I1 code 24 (.lload 5) 2 26 := ⟨at_24, rfl⟩
theorem iM_26 : I1 code 26 (.invokestatic 13) 3 29 := ⟨at_26, rfl⟩
theorem iM_29 : I1 code 29 (.lstore 9) 2 31 := ⟨at_29, rfl⟩
theorem iM_31 : I1 code 31 (.iload 4) 2 33 := ⟨at_31, rfl⟩
theorem iM_33 : I1 code 33 (.iconst 3) 1 34 := ⟨at_33, rfl⟩
theorem iM_34 : I1 code 34 (.iand) 1 35 := ⟨at_34, rfl⟩
theorem iM_35 : I1 code 35 (.istore 11) 2 37 := ⟨at_35, rfl⟩
theorem iM_37 : I1 code 37 (.iload 4) 2 39 := ⟨at_37, rfl⟩
theorem iM_39 : I1 code 39 (.iconst 2) 1 40 := ⟨at_39, rfl⟩
theorem iM_40 : I1 code 40 (.iushr) 1 41 := ⟨at_40, rfl⟩
theorem iM_41 : I1 code 41 (.iconst 3) 1 42 := ⟨at_41, rfl⟩
theorem iM_42 : I1 code 42 (.iand) 1 43 := ⟨at_42, rfl⟩
theorem iM_43 : I1 code 43 (.istore 12) 2 45 := ⟨at_43, rfl⟩
theorem iM_45 : I1 code 45 (.iload 4) 2 47 := ⟨at_45, rfl⟩
theorem iM_47 : I1 code 47 (.iconst 4) 1 48 := ⟨at_47, rfl⟩
theorem iM_48 : I1 code 48 (.iushr) 1 49 := ⟨at_48, rfl⟩
theorem iM_49 : I1 code 49 (.iconst 3) 1 50 := ⟨at_49, rfl⟩
theorem iM_50 : I1 code 50 (.iand) 1 51 := ⟨at_50, rfl⟩
theorem iM_51 : I1 code 51 (.istore 13) 2 53 := ⟨at_51, rfl⟩
theorem iM_53 : I1 code 53 (.iload 4) 2 55 := ⟨at_53, rfl⟩
theorem iM_55 : I1 code 55 (.bipush 6) 2 57 := ⟨at_55, rfl⟩
theorem iM_57 : I1 code 57 (.iushr) 1 58 := ⟨at_57, rfl⟩
theorem iM_58 : I1 code 58 (.iconst 3) 1 59 := ⟨at_58, rfl⟩
theorem iM_59 : I1 code 59 (.iand) 1 60 := ⟨at_59, rfl⟩
theorem iM_60 : I1 code 60 (.istore 14) 2 62 := ⟨at_60, rfl⟩
theorem iM_62 : I1 code 62 (.iload 11) 2 64 := ⟨at_62, rfl⟩
theorem iM_64 : I1 code 64 (.iload 12) 2 66 := ⟨at_64, rfl⟩
theorem iM_66 : I1 code 66 (.lload 7) 2 68 := ⟨at_66, rfl⟩
theorem iM_68 : I1 code 68 (.lload 9) 2 70 := ⟨at_68, rfl⟩
theorem iM_70 : I1 code 70 (.invokestatic 16) 3 73 := ⟨at_70, rfl⟩
theorem iM_73 : I1 code 73 (.astore 15) 2 75 := ⟨at_73, rfl⟩
theorem iM_75 : I1 code 75 (.iload 13) 2 77 := ⟨at_75, rfl⟩
theorem iM_77 : I1 code 77 (.iload 14) 2 79 := ⟨at_77, rfl⟩
theorem iM_79 : I1 code 79 (.lload 7) 2 81 := ⟨at_79, rfl⟩
theorem iM_81 : I1 code 81 (.lload 9) 2 83 := ⟨at_81, rfl⟩
theorem iM_83 : I1 code 83 (.invokestatic 16) 3 86 := ⟨at_83, rfl⟩
theorem iM_86 : I1 code 86 (.astore 16) 2 88 := ⟨at_86, rfl⟩
theorem iM_88 : I1 code 88 (.iload 11) 2 90 := ⟨at_88, rfl⟩
theorem iM_90 : I1 code 90 (.iload 13) 2 92 := ⟨at_90, rfl⟩
theorem iM_92 : I1 code 92 (.invokestatic 22) 3 95 := ⟨at_92, rfl⟩
theorem iM_95 : I1 code 95 (.iload 12) 2 97 := ⟨at_95, rfl⟩
theorem iM_97 : I1 code 97 (.iload 14) 2 99 := ⟨at_97, rfl⟩
theorem iM_99 : I1 code 99 (.invokestatic 22) 3 102 := ⟨at_99, rfl⟩
theorem iM_102 : I1 code 102 (.iadd) 1 103 := ⟨at_102, rfl⟩
theorem iM_103 : I1 code 103 (.istore 17) 2 105 := ⟨at_103, rfl⟩
theorem iM_105 : I1 code 105 (.aload 15) 2 107 := ⟨at_105, rfl⟩
theorem iM_107 : I1 code 107 (.aload 16) 2 109 := ⟨at_107, rfl⟩
theorem iM_109 : I1 code 109 (.invokestatic 25) 3 112 := ⟨at_109, rfl⟩
theorem iM_112 : I1 code 112 (.istore 18) 2 114 := ⟨at_112, rfl⟩
theorem iM_114 : I1 code 114 (.aload 16) 2 116 := ⟨at_114, rfl⟩
theorem iM_116 : I1 code 116 (.aload 15) 2 118 := ⟨at_116, rfl⟩
theorem iM_118 : I1 code 118 (.invokestatic 25) 3 121 := ⟨at_118, rfl⟩
theorem iM_121 : I1 code 121 (.istore 19) 2 123 := ⟨at_121, rfl⟩
theorem iM_123 : I1 code 123 (.iload 18) 2 125 := ⟨at_123, rfl⟩
theorem iM_125 : I1 code 125 (.iload 17) 2 127 := ⟨at_125, rfl⟩
theorem iM_127 : B1 code 127 (.if_icmp .ne 14) 14 141 130 := ⟨at_127, rfl, by decide, by decide⟩
theorem iM_130 : I1 code 130 (.iload 19) 2 132 := ⟨at_130, rfl⟩
theorem iM_132 : I1 code 132 (.iload 17) 2 134 := ⟨at_132, rfl⟩
theorem iM_134 : B1 code 134 (.if_icmp .ne 7) 7 141 137 := ⟨at_134, rfl, by decide, by decide⟩
theorem iM_137 : I1 code 137 (.iconst 1) 1 138 := ⟨at_137, rfl⟩
theorem iM_138 : B1 code 138 (.goto 4) 4 142 141 := ⟨at_138, rfl, by decide, by decide⟩
theorem iM_141 : I1 code 141 (.iconst 0) 1 142 := ⟨at_141, rfl⟩
theorem iM_142 : I1 code 142 (.ireturn) 1 143 := ⟨at_142, rfl⟩
def vM_0 (q0 : Int64) (q1 : Int64) (p2 : Int32) : Int64 := (if q0 = q1 then (q0 ^^^ (1 : Int64)) else q1)
def vM_1 (q0 : Int64) (q1 : Int64) (p2 : Int32) : Int32 := (((p2.toUInt32 >>> ((2 : Int32) &&& 31).toUInt32).toInt32) &&& (3 : Int32))
def vM_2 (q0 : Int64) (q1 : Int64) (p2 : Int32) : Int32 := (((p2.toUInt32 >>> ((4 : Int32) &&& 31).toUInt32).toInt32) &&& (3 : Int32))
def vM_3 (q0 : Int64) (q1 : Int64) (p2 : Int32) : Int32 := (((p2.toUInt32 >>> ((6 : Int32) &&& 31).toUInt32).toInt32) &&& (3 : Int32))
def vM_4 (q0 : Int64) (q1 : Int64) (p2 : Int32) : Int32 := ((vY_0 (p2 &&& (3 : Int32)) (vM_2 q0 q1 p2)) + (vY_0 (vM_1 q0 q1 p2) (vM_3 q0 q1 p2)))
def vM_5 (q0 : Int64) (q1 : Int64) (p2 : Int32) : Int32 := ((comF (((p2 &&& (3 : Int32)) + (vM_1 q0 q1 p2)).toNatClampNeg + ((vM_2 q0 q1 p2) + (vM_3 q0 q1 p2)).toNatClampNeg + 1) ((p2 &&& (3 : Int32)) + (vM_1 q0 q1 p2)).toNatClampNeg ((vM_2 q0 q1 p2) + (vM_3 q0 q1 p2)).toNatClampNeg (arr_B_rb (p2 &&& (3 : Int32)) (vM_1 q0 q1 p2) (vN_0 q0 (vM_0 q0 q1 p2)) (vX_0 q0 (vM_0 q0 q1 p2))) (arr_B_rb (vM_2 q0 q1 p2) (vM_3 q0 q1 p2) (vN_0 q0 (vM_0 q0 q1 p2)) (vX_0 q0 (vM_0 q0 q1 p2))) 0 0 0).toInt32)
def vM_6 (q0 : Int64) (q1 : Int64) (p2 : Int32) : Int32 := ((comF (((vM_2 q0 q1 p2) + (vM_3 q0 q1 p2)).toNatClampNeg + ((p2 &&& (3 : Int32)) + (vM_1 q0 q1 p2)).toNatClampNeg + 1) ((vM_2 q0 q1 p2) + (vM_3 q0 q1 p2)).toNatClampNeg ((p2 &&& (3 : Int32)) + (vM_1 q0 q1 p2)).toNatClampNeg (arr_B_rb (vM_2 q0 q1 p2) (vM_3 q0 q1 p2) (vN_0 q0 (vM_0 q0 q1 p2)) (vX_0 q0 (vM_0 q0 q1 p2))) (arr_B_rb (p2 &&& (3 : Int32)) (vM_1 q0 q1 p2) (vN_0 q0 (vM_0 q0 q1 p2)) (vX_0 q0 (vM_0 q0 q1 p2))) 0 0 0).toInt32)
def vM_7 (q0 : Int64) (q1 : Int64) (p2 : Int32) : Int32 := (if (vM_6 q0 q1 p2) = (vM_4 q0 q1 p2) then (1 : Int32) else (0 : Int32))
def vM_8 (q0 : Int64) (q1 : Int64) (p2 : Int32) : Int32 := (if (vM_5 q0 q1 p2) = (vM_4 q0 q1 p2) then (if (vM_6 q0 q1 p2) = (vM_4 q0 q1 p2) then (1 : Int32) else (0 : Int32)) else (0 : Int32))
theorem own_pa (q0 q1 : Int64) (p2 : Int32) : 0 ≤ (p2 &&& (3 : Int32)).toInt ∧ (p2 &&& (3 : Int32)).toInt ≤ 3 ∧ 0 ≤ (vM_1 q0 q1 p2).toInt ∧ (vM_1 q0 q1 p2).toInt ≤ 3 := ⟨(own_m3 _).1, (own_m3 _).2, (own_m3 _).1, (own_m3 _).2⟩
theorem own_pb (q0 q1 : Int64) (p2 : Int32) : 0 ≤ (vM_2 q0 q1 p2).toInt ∧ (vM_2 q0 q1 p2).toInt ≤ 3 ∧ 0 ≤ (vM_3 q0 q1 p2).toInt ∧ (vM_3 q0 q1 p2).toInt ≤ 3 := ⟨(own_m3 _).1, (own_m3 _).2, (own_m3 _).1, (own_m3 _).2⟩
theorem own_sa (q0 q1 : Int64) (p2 : Int32) : ((p2 &&& (3 : Int32)) + (vM_1 q0 q1 p2)).toNatClampNeg + ((vM_2 q0 q1 p2) + (vM_3 q0 q1 p2)).toNatClampNeg < 1000000 := by
  have h1 := (own_sum (own_pa q0 q1 p2)).2
  have h2 := (own_sum (own_pb q0 q1 p2)).2
  omega
theorem own_lohi (q0 q1 : Int64) (p2 : Int32) : vN_0 q0 (vM_0 q0 q1 p2) < vX_0 q0 (vM_0 q0 q1 p2) := by
  have h : vM_0 q0 q1 p2 ≠ q0 := by
    simp only [vM_0]
    by_cases h : q0 = q1
    · rw [if_pos h]; exact own_xor q0
    · rw [if_neg h]; exact fun q => h q.symm
  generalize vM_0 q0 q1 p2 = r at h
  have h' : r.toInt ≠ q0.toInt := fun q => h (Int64.toInt_inj.mp q)
  simp only [vN_0, vX_0, Int64.lt_iff_toInt_lt]
  split <;> split <;> omega
theorem leafM_0 (q0 : Int64) (q1 : Int64) (p2 : Int32) : nar .boolean (vM_8 q0 q1 p2) = 1 := by
  have h1 := own_one _ _ _ _ _ _ (own_lohi q0 q1 p2) (own_pa q0 q1 p2) (own_pb q0 q1 p2)
  have h2 := own_one _ _ _ _ _ _ (own_lohi q0 q1 p2) (own_pb q0 q1 p2) (own_pa q0 q1 p2)
  have ha := own_pa q0 q1 p2
  have hb := own_pb q0 q1 p2
  have hm : ∀ x y : Int32, (vY_0 x y).toInt = min x.toInt y.toInt := by
    intro x y; simp only [vY_0, Int32.lt_iff_toInt_lt]; split <;> omega
  have h4 : (vM_4 q0 q1 p2).toInt = min (p2 &&& (3 : Int32)).toInt (vM_2 q0 q1 p2).toInt + min (vM_1 q0 q1 p2).toInt (vM_3 q0 q1 p2).toInt := by
    have g1 := c_iadd (vY_0 (p2 &&& (3 : Int32)) (vM_2 q0 q1 p2)) (vY_0 (vM_1 q0 q1 p2) (vM_3 q0 q1 p2))
    have g2 := rng32 (vM_4 q0 q1 p2)
    rw [hm, hm] at g1
    simp only [vM_4] at g2 ⊢
    omega
  have e5 : vM_5 q0 q1 p2 = vM_4 q0 q1 p2 := by rw [← Int32.toInt_inj, h4]; exact h1
  have e6 : vM_6 q0 q1 p2 = vM_4 q0 q1 p2 := by rw [← Int32.toInt_inj, h4]; refine Eq.trans h2 ?_; omega
  simp only [vM_8, e5, e6, if_true]; rfl
theorem efM (m : MethodId) (q0 : Int64) (q1 : Int64) (p2 : Int32) : entryFrame m #[(.long q0), (.long q1), (.int p2)] maxLocals = mkF m 0 #[.val (.long q0), .second, .val (.long q1), .second, .val (.int p2), .unset, .unset, .unset, .unset, .unset, .unset, .unset, .unset, .unset, .unset, .unset, .unset, .unset, .unset, .unset] [] := by first | (simp [entryFrame, mkF, argsToLocals, Value.category, maxLocals]; done) | rfl
def QM (Z : State) (q0 : Int64) (q1 : Int64) (p2 : Int32) (h0 : Heap) (n0 : Nat) (v : Option Value) (h : Heap) : Prop := v = some (.int 1)
set_option maxRecDepth 65536 in
set_option maxHeartbeats 40000000 in
theorem rmM (l : Launch) (Z : State) (aZ : Array Value) (hw : ∀ d ∈ tables_1, d.before aZ Z = true) (q0 : Int64) (q1 : Int64) (p2 : Int32) (h0 : Heap) (n0 : Nat) (Z0 : n0 ≤ h0.size) :
    Ctr l Z x code maxLocals ret room_1 #[(.long q0), (.long q1), (.int p2)] h0 n0 (QM Z q0 q1 p2 h0 n0) := by
  refine Ctr.of_go pn3 (fun m => efM m q0 q1 p2) ?_
  intro p e s m below meth c hnm C
  refine g_lloadN C iM_0 rfl ?_
  refine g_lloadN C iM_1 rfl ?_
  refine g_lcmp C iM_2 ?_
  refine Go.join (mkF m 13 #[.val (.long q0), .second, .val (.long q1), .second, .val (.int p2), .unset, .unset, .unset, .unset, .unset, .unset, .unset, .unset, .unset, .unset, .unset, .unset, .unset, .unset, .unset] [(.long (vM_0 q0 q1 p2))]) ?_ (fun J => ?_)
  · refine g_lstore C (Ls' := #[.val (.long q0), .second, .val (.long q1), .second, .val (.int p2), .val (.long (vM_0 q0 q1 p2)), .second, .unset, .unset, .unset, .unset, .unset, .unset, .unset, .unset, .unset, .unset, .unset, .unset, .unset]) iM_13 rfl ?_
    refine g_lloadN C iM_15 rfl ?_
    refine g_lload C iM_16 rfl ?_
    refine g_callS C (rmN l Z aZ hw q0 (vM_0 q0 q1 p2) h0 n0 Z0) iM_18 (hw _ (List.mem_of_getElem? (i := 0) rfl)) (hw _ (List.mem_of_getElem? (i := 1) rfl)) (hw _ (List.mem_of_getElem? (i := 2) rfl)) (hw _ (List.mem_of_getElem? (i := 3) rfl)) (by decide) (argsL := [(.long q0), (.long (vM_0 q0 q1 p2))]) (rest := []) rfl rfl pd1 rfl rfl 0 (Nat.le_of_eq rfl) (by decide) (by decide) (by decide) (by decide) rfl rfl ?_
    rintro _ _ ⟨rfl, he10⟩
    refine Go.heap he10.symm ?_
    refine Go.some' ?_
    refine g_lstore C (Ls' := #[.val (.long q0), .second, .val (.long q1), .second, .val (.int p2), .val (.long (vM_0 q0 q1 p2)), .second, .val (.long (vN_0 q0 (vM_0 q0 q1 p2))), .second, .unset, .unset, .unset, .unset, .unset, .unset, .unset, .unset, .unset, .unset, .unset]) iM_21 rfl ?_
    refine g_lloadN C iM_23 rfl ?_
    refine g_lload C iM_24 rfl ?_
    refine g_callS C (rmX l Z aZ hw q0 (vM_0 q0 q1 p2) h0 n0 Z0) iM_26 (hw _ (List.mem_of_getElem? (i := 4) rfl)) (hw _ (List.mem_of_getElem? (i := 5) rfl)) (hw _ (List.mem_of_getElem? (i := 2) rfl)) (hw _ (List.mem_of_getElem? (i := 6) rfl)) (by decide) (argsL := [(.long q0), (.long (vM_0 q0 q1 p2))]) (rest := []) rfl rfl pd1 rfl rfl 0 (Nat.le_of_eq rfl) (by decide) (by decide) (by decide) (by decide) rfl rfl ?_
    rintro _ _ ⟨rfl, he11⟩
    refine Go.heap he11.symm ?_
    refine Go.some' ?_
    refine g_lstore C (Ls' := #[.val (.long q0), .second, .val (.long q1), .second, .val (.int p2), .val (.long (vM_0 q0 q1 p2)), .second, .val (.long (vN_0 q0 (vM_0 q0 q1 p2))), .second, .val (.long (vX_0 q0 (vM_0 q0 q1 p2))), .second, .unset, .unset, .unset, .unset, .unset, .unset, .unset, .unset, .unset]) iM_29 rfl ?_
    refine g_iload C iM_31 rfl ?_
    refine g_iconst C (3 : Int32) iM_33 rfl ?_
    refine g_iand C iM_34 ?_
    refine g_istore C (Ls' := #[.val (.long q0), .second, .val (.long q1), .second, .val (.int p2), .val (.long (vM_0 q0 q1 p2)), .second, .val (.long (vN_0 q0 (vM_0 q0 q1 p2))), .second, .val (.long (vX_0 q0 (vM_0 q0 q1 p2))), .second, .val (.int (p2 &&& (3 : Int32))), .unset, .unset, .unset, .unset, .unset, .unset, .unset, .unset]) iM_35 rfl ?_
    refine g_iload C iM_37 rfl ?_
    refine g_iconst C (2 : Int32) iM_39 rfl ?_
    refine g_iushr C iM_40 ?_
    refine g_iconst C (3 : Int32) iM_41 rfl ?_
    refine g_iand C iM_42 ?_
    refine g_istore C (Ls' := #[.val (.long q0), .second, .val (.long q1), .second, .val (.int p2), .val (.long (vM_0 q0 q1 p2)), .second, .val (.long (vN_0 q0 (vM_0 q0 q1 p2))), .second, .val (.long (vX_0 q0 (vM_0 q0 q1 p2))), .second, .val (.int (p2 &&& (3 : Int32))), .val (.int (vM_1 q0 q1 p2)), .unset, .unset, .unset, .unset, .unset, .unset, .unset]) iM_43 rfl ?_
    refine g_iload C iM_45 rfl ?_
    refine g_iconst C (4 : Int32) iM_47 rfl ?_
    refine g_iushr C iM_48 ?_
    refine g_iconst C (3 : Int32) iM_49 rfl ?_
    refine g_iand C iM_50 ?_
    refine g_istore C (Ls' := #[.val (.long q0), .second, .val (.long q1), .second, .val (.int p2), .val (.long (vM_0 q0 q1 p2)), .second, .val (.long (vN_0 q0 (vM_0 q0 q1 p2))), .second, .val (.long (vX_0 q0 (vM_0 q0 q1 p2))), .second, .val (.int (p2 &&& (3 : Int32))), .val (.int (vM_1 q0 q1 p2)), .val (.int (vM_2 q0 q1 p2)), .unset, .unset, .unset, .unset, .unset, .unset]) iM_51 rfl ?_
    refine g_iload C iM_53 rfl ?_
    refine g_bipush C (6 : Int32) iM_55 rfl ?_
    refine g_iushr C iM_57 ?_
    refine g_iconst C (3 : Int32) iM_58 rfl ?_
    refine g_iand C iM_59 ?_
    refine g_istore C (Ls' := #[.val (.long q0), .second, .val (.long q1), .second, .val (.int p2), .val (.long (vM_0 q0 q1 p2)), .second, .val (.long (vN_0 q0 (vM_0 q0 q1 p2))), .second, .val (.long (vX_0 q0 (vM_0 q0 q1 p2))), .second, .val (.int (p2 &&& (3 : Int32))), .val (.int (vM_1 q0 q1 p2)), .val (.int (vM_2 q0 q1 p2)), .val (.int (vM_3 q0 q1 p2)), .unset, .unset, .unset, .unset, .unset]) iM_60 rfl ?_
    refine g_iload C iM_62 rfl ?_
    refine g_iload C iM_64 rfl ?_
    refine g_lload C iM_66 rfl ?_
    refine g_lload C iM_68 rfl ?_
    refine g_callS C (rmB l Z aZ hw (p2 &&& (3 : Int32)) (vM_1 q0 q1 p2) (vN_0 q0 (vM_0 q0 q1 p2)) (vX_0 q0 (vM_0 q0 q1 p2)) h0 n0 Z0 (own_pa q0 q1 p2)) iM_70 (hw _ (List.mem_of_getElem? (i := 7) rfl)) (hw _ (List.mem_of_getElem? (i := 8) rfl)) (hw _ (List.mem_of_getElem? (i := 9) rfl)) (hw _ (List.mem_of_getElem? (i := 10) rfl)) (by decide) (argsL := [(.int (p2 &&& (3 : Int32))), (.int (vM_1 q0 q1 p2)), (.long (vN_0 q0 (vM_0 q0 q1 p2))), (.long (vX_0 q0 (vM_0 q0 q1 p2)))]) (rest := []) rfl rfl pd2 rfl rfl 0 (Nat.le_of_eq rfl) (by decide) (by decide) (by decide) (by decide) rfl rfl ?_
    rintro _ h12 ⟨r12, rfl, ge12, fh12, KC12, P12_0⟩
    refine Go.some' ?_
    have KK12 := KC12
    have fr12 : h0.size ≤ r12 := Nat.le_trans (Keep.refl h0 []).1 fh12
    have K12 := Keep.trans (Keep.refl h0 []) KC12 all0
    have Z12 : n0 ≤ h12.size := Nat.le_trans Z0 KC12.1
    refine g_astore C (Ls' := #[.val (.long q0), .second, .val (.long q1), .second, .val (.int p2), .val (.long (vM_0 q0 q1 p2)), .second, .val (.long (vN_0 q0 (vM_0 q0 q1 p2))), .second, .val (.long (vX_0 q0 (vM_0 q0 q1 p2))), .second, .val (.int (p2 &&& (3 : Int32))), .val (.int (vM_1 q0 q1 p2)), .val (.int (vM_2 q0 q1 p2)), .val (.int (vM_3 q0 q1 p2)), .val (.ref r12), .unset, .unset, .unset, .unset]) iM_73 rfl rfl ?_
    refine g_iload C iM_75 rfl ?_
    refine g_iload C iM_77 rfl ?_
    refine g_lload C iM_79 rfl ?_
    refine g_lload C iM_81 rfl ?_
    refine g_callS C (rmB l Z aZ hw (vM_2 q0 q1 p2) (vM_3 q0 q1 p2) (vN_0 q0 (vM_0 q0 q1 p2)) (vX_0 q0 (vM_0 q0 q1 p2)) h12 n0 Z12 (own_pb q0 q1 p2)) iM_83 (hw _ (List.mem_of_getElem? (i := 7) rfl)) (hw _ (List.mem_of_getElem? (i := 8) rfl)) (hw _ (List.mem_of_getElem? (i := 9) rfl)) (hw _ (List.mem_of_getElem? (i := 10) rfl)) (by decide) (argsL := [(.int (vM_2 q0 q1 p2)), (.int (vM_3 q0 q1 p2)), (.long (vN_0 q0 (vM_0 q0 q1 p2))), (.long (vX_0 q0 (vM_0 q0 q1 p2)))]) (rest := []) rfl rfl pd2 rfl rfl 0 (Nat.le_of_eq rfl) (by decide) (by decide) (by decide) (by decide) rfl rfl ?_
    rintro _ h13 ⟨r13, rfl, ge13, fh13, KC13, P13_0⟩
    refine Go.some' ?_
    have KK13 := KC13
    have ne_r12_r13 : r12 ≠ r13 := Nat.ne_of_lt (Nat.lt_of_lt_of_le P12_0.lt fh13)
    have fr13 : h0.size ≤ r13 := Nat.le_trans K12.1 fh13
    have P12_0_cC13 := AV.keep P12_0 KC13 nin0
    have K13 := Keep.trans K12 KC13 all0
    have Z13 : n0 ≤ h13.size := Nat.le_trans Z12 KC13.1
    refine g_astore C (Ls' := #[.val (.long q0), .second, .val (.long q1), .second, .val (.int p2), .val (.long (vM_0 q0 q1 p2)), .second, .val (.long (vN_0 q0 (vM_0 q0 q1 p2))), .second, .val (.long (vX_0 q0 (vM_0 q0 q1 p2))), .second, .val (.int (p2 &&& (3 : Int32))), .val (.int (vM_1 q0 q1 p2)), .val (.int (vM_2 q0 q1 p2)), .val (.int (vM_3 q0 q1 p2)), .val (.ref r12), .val (.ref r13), .unset, .unset, .unset]) iM_86 rfl rfl ?_
    refine g_iload C iM_88 rfl ?_
    refine g_iload C iM_90 rfl ?_
    refine g_callS C (rmY l Z aZ hw (p2 &&& (3 : Int32)) (vM_2 q0 q1 p2) h13 n0 Z13) iM_92 (hw _ (List.mem_of_getElem? (i := 15) rfl)) (hw _ (List.mem_of_getElem? (i := 16) rfl)) (hw _ (List.mem_of_getElem? (i := 2) rfl)) (hw _ (List.mem_of_getElem? (i := 17) rfl)) (by decide) (argsL := [(.int (p2 &&& (3 : Int32))), (.int (vM_2 q0 q1 p2))]) (rest := []) rfl rfl pd3 rfl rfl 0 (Nat.le_of_eq rfl) (by decide) (by decide) (by decide) (by decide) rfl rfl ?_
    rintro _ _ ⟨rfl, he14⟩
    refine Go.heap he14.symm ?_
    refine Go.some' ?_
    refine g_iload C iM_95 rfl ?_
    refine g_iload C iM_97 rfl ?_
    refine g_callS C (rmY l Z aZ hw (vM_1 q0 q1 p2) (vM_3 q0 q1 p2) h13 n0 Z13) iM_99 (hw _ (List.mem_of_getElem? (i := 15) rfl)) (hw _ (List.mem_of_getElem? (i := 16) rfl)) (hw _ (List.mem_of_getElem? (i := 2) rfl)) (hw _ (List.mem_of_getElem? (i := 17) rfl)) (by decide) (argsL := [(.int (vM_1 q0 q1 p2)), (.int (vM_3 q0 q1 p2))]) (rest := [(.int (vY_0 (p2 &&& (3 : Int32)) (vM_2 q0 q1 p2)))]) rfl rfl pd3 rfl rfl 1 (Nat.le_of_eq rfl) (by decide) (by decide) (by decide) (by decide) rfl rfl ?_
    rintro _ _ ⟨rfl, he15⟩
    refine Go.heap he15.symm ?_
    refine Go.some' ?_
    refine g_iadd C iM_102 ?_
    refine g_istore C (Ls' := #[.val (.long q0), .second, .val (.long q1), .second, .val (.int p2), .val (.long (vM_0 q0 q1 p2)), .second, .val (.long (vN_0 q0 (vM_0 q0 q1 p2))), .second, .val (.long (vX_0 q0 (vM_0 q0 q1 p2))), .second, .val (.int (p2 &&& (3 : Int32))), .val (.int (vM_1 q0 q1 p2)), .val (.int (vM_2 q0 q1 p2)), .val (.int (vM_3 q0 q1 p2)), .val (.ref r12), .val (.ref r13), .val (.int (vM_4 q0 q1 p2)), .unset, .unset]) iM_103 rfl ?_
    refine g_aload C iM_105 rfl rfl ?_
    refine g_aload C iM_107 rfl rfl ?_
    refine g_callS C (rmC l Z aZ hw r12 r13 ((p2 &&& (3 : Int32)) + (vM_1 q0 q1 p2)).toNatClampNeg (arr_B_rb (p2 &&& (3 : Int32)) (vM_1 q0 q1 p2) (vN_0 q0 (vM_0 q0 q1 p2)) (vX_0 q0 (vM_0 q0 q1 p2))) ((vM_2 q0 q1 p2) + (vM_3 q0 q1 p2)).toNatClampNeg (arr_B_rb (vM_2 q0 q1 p2) (vM_3 q0 q1 p2) (vN_0 q0 (vM_0 q0 q1 p2)) (vX_0 q0 (vM_0 q0 q1 p2))) h13 n0 Z13 (own_sa q0 q1 p2) P12_0_cC13 P13_0) iM_109 (hw _ (List.mem_of_getElem? (i := 18) rfl)) (hw _ (List.mem_of_getElem? (i := 19) rfl)) (hw _ (List.mem_of_getElem? (i := 20) rfl)) (hw _ (List.mem_of_getElem? (i := 21) rfl)) (by decide) (argsL := [(.ref r12), (.ref r13)]) (rest := []) rfl rfl pd4 rfl rfl 0 (Nat.le_of_eq rfl) (by decide) (by decide) (by decide) (by decide) rfl rfl ?_
    rintro _ _ ⟨rfl, he16⟩
    refine Go.heap he16.symm ?_
    refine Go.some' ?_
    refine g_istore C (Ls' := #[.val (.long q0), .second, .val (.long q1), .second, .val (.int p2), .val (.long (vM_0 q0 q1 p2)), .second, .val (.long (vN_0 q0 (vM_0 q0 q1 p2))), .second, .val (.long (vX_0 q0 (vM_0 q0 q1 p2))), .second, .val (.int (p2 &&& (3 : Int32))), .val (.int (vM_1 q0 q1 p2)), .val (.int (vM_2 q0 q1 p2)), .val (.int (vM_3 q0 q1 p2)), .val (.ref r12), .val (.ref r13), .val (.int (vM_4 q0 q1 p2)), .val (.int (vM_5 q0 q1 p2)), .unset]) iM_112 rfl ?_
    refine g_aload C iM_114 rfl rfl ?_
    refine g_aload C iM_116 rfl rfl ?_
    refine g_callS C (rmC l Z aZ hw r13 r12 ((vM_2 q0 q1 p2) + (vM_3 q0 q1 p2)).toNatClampNeg (arr_B_rb (vM_2 q0 q1 p2) (vM_3 q0 q1 p2) (vN_0 q0 (vM_0 q0 q1 p2)) (vX_0 q0 (vM_0 q0 q1 p2))) ((p2 &&& (3 : Int32)) + (vM_1 q0 q1 p2)).toNatClampNeg (arr_B_rb (p2 &&& (3 : Int32)) (vM_1 q0 q1 p2) (vN_0 q0 (vM_0 q0 q1 p2)) (vX_0 q0 (vM_0 q0 q1 p2))) h13 n0 Z13 (by have := own_sa q0 q1 p2; omega) P13_0 P12_0_cC13) iM_118 (hw _ (List.mem_of_getElem? (i := 18) rfl)) (hw _ (List.mem_of_getElem? (i := 19) rfl)) (hw _ (List.mem_of_getElem? (i := 20) rfl)) (hw _ (List.mem_of_getElem? (i := 21) rfl)) (by decide) (argsL := [(.ref r13), (.ref r12)]) (rest := []) rfl rfl pd4 rfl rfl 0 (Nat.le_of_eq rfl) (by decide) (by decide) (by decide) (by decide) rfl rfl ?_
    rintro _ _ ⟨rfl, he17⟩
    refine Go.heap he17.symm ?_
    refine Go.some' ?_
    refine g_istore C (Ls' := #[.val (.long q0), .second, .val (.long q1), .second, .val (.int p2), .val (.long (vM_0 q0 q1 p2)), .second, .val (.long (vN_0 q0 (vM_0 q0 q1 p2))), .second, .val (.long (vX_0 q0 (vM_0 q0 q1 p2))), .second, .val (.int (p2 &&& (3 : Int32))), .val (.int (vM_1 q0 q1 p2)), .val (.int (vM_2 q0 q1 p2)), .val (.int (vM_3 q0 q1 p2)), .val (.ref r12), .val (.ref r13), .val (.int (vM_4 q0 q1 p2)), .val (.int (vM_5 q0 q1 p2)), .val (.int (vM_6 q0 q1 p2))]) iM_121 rfl ?_
    refine g_iload C iM_123 rfl ?_
    refine g_iload C iM_125 rfl ?_
    refine Go.join (mkF m 142 #[.val (.long q0), .second, .val (.long q1), .second, .val (.int p2), .val (.long (vM_0 q0 q1 p2)), .second, .val (.long (vN_0 q0 (vM_0 q0 q1 p2))), .second, .val (.long (vX_0 q0 (vM_0 q0 q1 p2))), .second, .val (.int (p2 &&& (3 : Int32))), .val (.int (vM_1 q0 q1 p2)), .val (.int (vM_2 q0 q1 p2)), .val (.int (vM_3 q0 q1 p2)), .val (.ref r12), .val (.ref r13), .val (.int (vM_4 q0 q1 p2)), .val (.int (vM_5 q0 q1 p2)), .val (.int (vM_6 q0 q1 p2))] [(.int (vM_8 q0 q1 p2))]) ?_ (fun J => ?_)
    · exact g_retNar C (t := .boolean) iM_142 rfl (by simp) (by decide) (by decide) (show _ = _ from congrArg (fun z => some (Value.int z)) (leafM_0 q0 q1 p2))
    · refine g_icmp_ne C iM_127 (fun hc127_1 => ?_) (fun hc127_1 => ?_)
      · refine g_iload C iM_130 rfl ?_
        refine g_iload C iM_132 rfl ?_
        refine g_icmp_ne C iM_134 (fun hc134_1 => ?_) (fun hc134_1 => ?_)
        · refine g_iconst C (1 : Int32) iM_137 rfl ?_
          refine g_goto C iM_138 ?_
          have e0 : (vM_8 q0 q1 p2) = (1 : Int32) := by simp only [vM_8, if_pos hc127_1, if_pos hc134_1]
          exact Go.cast J (by rw [e0])
        · refine g_iconst C (0 : Int32) iM_141 rfl ?_
          have e0 : (vM_8 q0 q1 p2) = (0 : Int32) := by simp only [vM_8, if_pos hc127_1, if_neg hc134_1]
          exact Go.cast J (by rw [e0])
      · refine g_iconst C (0 : Int32) iM_141 rfl ?_
        have e0 : (vM_8 q0 q1 p2) = (0 : Int32) := by simp only [vM_8, if_neg hc127_1]
        exact Go.cast J (by rw [e0])
  · refine g_ifl_ne C iM_3 (fun hc3_1 => ?_) (fun hc3_1 => ?_)
    · refine g_lloadN C iM_6 rfl ?_
      refine g_lconst C (1 : Int64) iM_7 rfl ?_
      refine g_lxor C iM_8 ?_
      refine g_goto C iM_9 ?_
      have e0 : (vM_0 q0 q1 p2) = (q0 ^^^ (1 : Int64)) := by simp only [vM_0, if_pos hc3_1]
      exact Go.cast J (by rw [e0])
    · refine g_lloadN C iM_12 rfl ?_
      have e0 : (vM_0 q0 q1 p2) = q1 := by simp only [vM_0, if_neg hc3_1]
      exact Go.cast J (by rw [e0])
set_option maxRecDepth 65536 in
set_option maxHeartbeats 40000000 in
theorem comes_1 {Post : Tables → Env → Array Value → State → Outcome → State → Prop} (hpost : ∀ tb e args s v u, (limb_1_1.after args s (.returned v) u = true ∧ limb_1_2.after args s (.returned v) u = true ∧ True) → FrameEnd s (.returned v) u (Jvm.fieldLocs frame_1_writes args s ++ Jvm.arrayLocs frame_1_arrays args s ++ Jvm.staticLocs frame_1_statics s) 16 128 → Post tb e args s (.returned v) u) :
    ArmFor flags0 classFile x code maxLocals ret World_1 tables_1 room_1 Calls_1 rest_1 Pre_1 Post := by
  intro l hfl _ _ p e ha hc hk s m args below hf hA hF happ hP
  obtain ⟨hcalls, hrest, hpre⟩ := hP
  obtain ⟨-, -, -, hnamed, -, -, -, hat⟩ := (Spec.applies_iff hf).mp happ
  obtain ⟨hg, hn⟩ := and_e (Cond.before_iff.mp (show (Jvm.Cond.and given_1 narrow_1).before args s = true from hpre))
  obtain ⟨gg1, gg2⟩ := and_e hg
  obtain ⟨gg3, gg4⟩ := and_e gg2
  obtain ⟨gg5, gg6⟩ := and_e gg4
  obtain ⟨w0, w1, w2, rfl⟩ : ∃ w0 w1 w2 : Value, args = #[w0, w1, w2] := by
    have hs : args.size = 3 := by simpa [Cond.value, given_1] using gg1
    obtain ⟨L⟩ := args
    match L, hs with
    | [w0, w1, w2], _ => exact ⟨w0, w1, w2, rfl⟩
  have hw := fun d (hd : d ∈ tables_1) => atoms_spec (ws := Jvm.Cond.code x code maxLocals ret :: tables_1) hat d (List.mem_cons_of_mem _ hd)
  have hfit : Fit s := fun {y c} hc i hi => by
    obtain ⟨ha, rfl⟩ := Array.getElem?_eq_some_iff.mp hc
    have q := List.all_eq_true.mp ((Array.all_eq_true_iff_forall_mem.mp hF) _ (Array.getElem_mem ha)) i (List.mem_range.mpr hi)
    simpa [Array.getElem?_eq_getElem hi] using q
  obtain ⟨i0, ei0⟩ := isL_v gg3
  obtain rfl : w0 = (.long i0) := Option.some.inj ei0
  obtain ⟨i1, ei1⟩ := isL_v gg5
  obtain rfl : w1 = (.long i1) := Option.some.inj ei1
  obtain ⟨i2, ei2⟩ := is_v gg6
  obtain rfl : w2 = (.int i2) := Option.some.inj ei2
  obtain ⟨n, o, h1, h2, h3, _, L, rfl, ⟨rfl, N⟩, hq⟩ := rmM l s _ hw i0 i1 i2 s.heap s.heap.size (Nat.le_refl _) tables_1 p e ha hc hk s m _ below hf ((Spec.applies_iff_loose hf).mp happ).1 ⟨rfl, State.Warmed39.refl s, rfl⟩ trivial
  refine ⟨n, _, h1, h2, h3, hpost _ _ _ _ _ _ ⟨Cond.after_iff.mpr rfl, Cond.after_iff.mpr (eq_i res_at (Term.int_eval (1)) rfl), trivial⟩ ⟨hq.1, hq.2.1, (hq.2.2.sift fun y hy => Or.inr (N y hy)).mono (by decide) (by decide)⟩⟩
theorem main_1_1 : Claimed_1_1 := comes_1 fun _ _ _ _ _ _ h hF => ⟨h.1, hF⟩
theorem main_1_2 : Claimed_1_2 := comes_1 fun _ _ _ _ _ _ h hF => ⟨h.2.1, hF⟩
end Jvm.Pilot.@@N@@
namespace Jvm.Pilot.@@N@@
open Jvm Jvm.ClassFile Sem Op Lib Jvm.Free Jvm.Stand Jvm.Pilot.@@N@@.Jvm.D
/-! MADE BY PROGRAM (witnessworld.py) out of the Statement's table words and the real class files: 15 classes; the members and pool entries that the words name. The judged class is class 1, her method 1. -/
namespace start1
open Jvm.ClassFile
def u (s : String) : CpInfo := .utf8 (stringToUtf16 s)
/-- a pool by its gaps: so many unusable entries, then the entry; so many at the end -/
def gap : Nat → List CpInfo → List CpInfo
  | 0, r => r
  | n + 1, r => .unusable :: gap n r
def poolList (es : List (Nat × CpInfo)) (last : Nat) : List CpInfo := es.foldr (fun e r => gap e.1 (e.2 :: r)) (gap last [])
def pool (es : List (Nat × CpInfo)) (last : Nat) : Array CpInfo := ⟨poolList es last⟩
def fileOf (pool : Array CpInfo) (this : Nat) (attrs : Array Attribute := #[]) (ms : Array MethodInfo := #[]) (fl : Nat := 33) (sup : Nat := 0) (ifs : Array Nat := #[]) (fds : Array FieldInfo := #[]) : ClassFile where
  minorVersion := 0
  majorVersion := 65
  constantPool := pool
  accessFlags := fl
  thisClass := this
  superClass := sup
  interfaces := ifs
  fields := fds
  methods := ms
  attributes := attrs
def plain (name : String) (sup : Option ClassId) : Class where
  name := name
  kind := .ordinary
  loader := none
  accessFlags := 33
  super := sup
  interfaces := #[]
  cf := none
  fields := #[]
  methods := #[]
  instanceTypes := #[]
  staticTypes := #[]
  resolved := #[]
  callSites := []
  init := .initialized
  statics := none
  mirror := none

def pool0 : Array CpInfo := pool [(5, u "<init>"), (0, u "()V"), (1, .class_ 10), (1, u "java/lang/Object")] 113

def k0m0 : Method := { name := "<init>", desc := "()V", sig := { parameters := [], returnType := none }, accessFlags := 1, code := none }
/-- java/lang/Object -/
def k0 : Class := { plain "java/lang/Object" none with
  accessFlags := 33
  interfaces := #[]
  cf := some (fileOf pool0 8 #[] #[{ accessFlags := 1, nameIndex := 5, descriptorIndex := 6, attributes := #[] }] 33 0 #[] #[])
  fields := #[]
  methods := #[k0m0]
  instanceTypes := #[]
  staticTypes := #[]
  resolved := Array.replicate 124 none
  statics := none }

def pool1 : Array CpInfo := pool [(2, .class_ 4), (1, u "java/lang/Object"), (0, u "<init>"), (0, u "()V"), (0, .methodref 8 9), (0, .class_ 10), (0, .nameAndType 11 12), (0, u "java/lang/Math"), (0, u "min"), (0, u "(JJ)J"), (0, .methodref 8 14), (0, .nameAndType 15 12), (0, u "max"), (0, .methodref 17 18), (0, .class_ 19), (0, .nameAndType 20 21), (0, u "com/example/linkweave/linkweave/OverlapCommonPinLaw"), (0, u "build"), (0, u "(IIJJ)[J"), (0, .methodref 8 23), (0, .nameAndType 11 24), (0, u "(II)I"), (0, .methodref 26 27), (0, .class_ 28), (0, .nameAndType 29 30), (0, u "com/example/linkweave/linkweave/Overlap"), (0, u "common"), (0, u "([J[J)I"), (0, .methodref 17 32), (0, .nameAndType 33 34), (0, u "set"), (0, u "([JIIJJ)V"), (2, u "law"), (0, u "(JJI)Z")] 5

def k1m0 : Method := { name := "<init>", desc := "()V", sig := { parameters := [], returnType := none }, accessFlags := 1, code := none }
def k1c1 : Code := { maxStack := 6, maxLocals := 20, code := code, exceptionTable := #[], attributes := #[] }
def k1m1 : Method := { name := "law", desc := "(JJI)Z", sig := { parameters := [.long, .long, .int], returnType := some .boolean }, accessFlags := 9, code := some k1c1 }
def k1c2 : Code := { maxStack := 7, maxLocals := 7, code := method_3_code, exceptionTable := #[], attributes := #[] }
def k1m2 : Method := { name := "build", desc := "(IIJJ)[J", sig := { parameters := [.int, .int, .long, .long], returnType := some (.array .long) }, accessFlags := 10, code := some k1c2 }
def k1c3 : Code := { maxStack := 4, maxLocals := 7, code := method_4_code, exceptionTable := #[], attributes := #[] }
def k1m3 : Method := { name := "set", desc := "([JIIJJ)V", sig := { parameters := [(.array .long), .int, .int, .long, .long], returnType := none }, accessFlags := 10, code := some k1c3 }
/-- com/example/linkweave/linkweave/OverlapCommonPinLaw -/
def k1 : Class := { plain "com/example/linkweave/linkweave/OverlapCommonPinLaw" (some 0) with
  accessFlags := 49
  interfaces := #[]
  cf := some (fileOf pool1 17 #[] #[{ accessFlags := 1, nameIndex := 5, descriptorIndex := 6, attributes := #[] }, { accessFlags := 9, nameIndex := 37, descriptorIndex := 38, attributes := #[] }, { accessFlags := 10, nameIndex := 20, descriptorIndex := 21, attributes := #[] }, { accessFlags := 10, nameIndex := 33, descriptorIndex := 34, attributes := #[] }] 49 2 #[] #[])
  fields := #[]
  methods := #[k1m0, k1m1, k1m2, k1m3]
  instanceTypes := #[]
  staticTypes := #[]
  resolved := Array.replicate 44 none
  statics := none }

def pool2 : Array CpInfo := pool [(1, .class_ 2), (0, u "java/lang/Math"), (1, .class_ 6), (1, u "java/lang/Object"), (0, u "<init>"), (0, u "()V"), (89, .class_ 100), (1, u "java/lang/Math$RandomNumberGeneratorHolder"), (20, u "(JJ)J"), (50, u "negativeZeroFloatBits"), (0, u "J"), (2, u "negativeZeroDoubleBits"), (21, u "max"), (2, u "min"), (43, u "$assertionsDisabled"), (0, u "Z"), (88, u "(II)I"), (2, u "twoToTheDoubleScaleDown"), (0, u "D"), (4, u "twoToTheDoubleScaleUp"), (9, u "E"), (3, u "PI"), (2, u "TAU"), (2, u "DEGREES_TO_RADIANS"), (0, u "RADIANS_TO_DEGREES")] 94

def k2m0 : Method := { name := "<init>", desc := "()V", sig := { parameters := [], returnType := none }, accessFlags := 2, code := none }
def k2c1 : Code := { maxStack := 4, maxLocals := 4, code := jdk_29_method_66_code, exceptionTable := #[], attributes := #[] }
def k2m1 : Method := { name := "max", desc := "(JJ)J", sig := { parameters := [.long, .long], returnType := some .long }, accessFlags := 9, code := some k2c1 }
def k2c2 : Code := { maxStack := 2, maxLocals := 2, code := jdk_29_method_69_code, exceptionTable := #[], attributes := #[] }
def k2m2 : Method := { name := "min", desc := "(II)I", sig := { parameters := [.int, .int], returnType := some .int }, accessFlags := 9, code := some k2c2 }
def k2c3 : Code := { maxStack := 4, maxLocals := 4, code := jdk_29_method_70_code, exceptionTable := #[], attributes := #[] }
def k2m3 : Method := { name := "min", desc := "(JJ)J", sig := { parameters := [.long, .long], returnType := some .long }, accessFlags := 9, code := some k2c3 }
/-- java/lang/Math -/
def k2 : Class := { plain "java/lang/Math" (some 0) with
  accessFlags := 49
  interfaces := #[]
  cf := some (fileOf pool2 1 #[.nestMembers #[98]] #[{ accessFlags := 2, nameIndex := 7, descriptorIndex := 8, attributes := #[] }, { accessFlags := 9, nameIndex := 198, descriptorIndex := 121, attributes := #[] }, { accessFlags := 9, nameIndex := 201, descriptorIndex := 335, attributes := #[] }, { accessFlags := 9, nameIndex := 201, descriptorIndex := 121, attributes := #[] }] 49 4 #[] #[{ accessFlags := 25, nameIndex := 354, descriptorIndex := 339, attributes := #[] }, { accessFlags := 25, nameIndex := 358, descriptorIndex := 339, attributes := #[] }, { accessFlags := 25, nameIndex := 361, descriptorIndex := 339, attributes := #[] }, { accessFlags := 26, nameIndex := 364, descriptorIndex := 339, attributes := #[] }, { accessFlags := 26, nameIndex := 365, descriptorIndex := 339, attributes := #[] }, { accessFlags := 26, nameIndex := 172, descriptorIndex := 173, attributes := #[] }, { accessFlags := 26, nameIndex := 176, descriptorIndex := 173, attributes := #[] }, { accessFlags := 8, nameIndex := 344, descriptorIndex := 339, attributes := #[] }, { accessFlags := 8, nameIndex := 338, descriptorIndex := 339, attributes := #[] }, { accessFlags := 4120, nameIndex := 245, descriptorIndex := 246, attributes := #[] }])
  fields := #[{ name := "E", type := .double, accessFlags := 25, slot := 0, constantValue := 0 }, { name := "PI", type := .double, accessFlags := 25, slot := 1, constantValue := 0 }, { name := "TAU", type := .double, accessFlags := 25, slot := 2, constantValue := 0 }, { name := "DEGREES_TO_RADIANS", type := .double, accessFlags := 26, slot := 3, constantValue := 0 }, { name := "RADIANS_TO_DEGREES", type := .double, accessFlags := 26, slot := 4, constantValue := 0 }, { name := "negativeZeroFloatBits", type := .long, accessFlags := 26, slot := 5, constantValue := 0 }, { name := "negativeZeroDoubleBits", type := .long, accessFlags := 26, slot := 6, constantValue := 0 }, { name := "twoToTheDoubleScaleUp", type := .double, accessFlags := 8, slot := 7, constantValue := 0 }, { name := "twoToTheDoubleScaleDown", type := .double, accessFlags := 8, slot := 8, constantValue := 0 }, { name := "$assertionsDisabled", type := .boolean, accessFlags := 4120, slot := 9, constantValue := 0 }]
  methods := #[k2m0, k2m1, k2m2, k2m3]
  instanceTypes := #[]
  staticTypes := #[.double, .double, .double, .double, .double, .long, .long, .double, .double, .boolean]
  resolved := Array.replicate 460 none
  statics := none }

def pool3 : Array CpInfo := pool [(1, .class_ 2), (0, u "java/lang/constant/Constable"), (0, .class_ 4), (0, u "java/lang/Object")] 6

/-- java/lang/constant/Constable -/
def k3 : Class := { plain "java/lang/constant/Constable" (some 0) with
  accessFlags := 1537
  interfaces := #[]
  cf := some (fileOf pool3 1 #[] #[] 1537 3 #[] #[])
  fields := #[]
  methods := #[]
  instanceTypes := #[]
  staticTypes := #[]
  resolved := Array.replicate 11 none
  statics := none }

def pool4 : Array CpInfo := pool [(1, .class_ 2), (0, u "java/lang/Comparable"), (0, .class_ 4), (0, u "java/lang/Object")] 7

/-- java/lang/Comparable -/
def k4 : Class := { plain "java/lang/Comparable" (some 0) with
  accessFlags := 1537
  interfaces := #[]
  cf := some (fileOf pool4 1 #[] #[] 1537 3 #[] #[])
  fields := #[]
  methods := #[]
  instanceTypes := #[]
  staticTypes := #[]
  resolved := Array.replicate 12 none
  statics := none }

def pool5 : Array CpInfo := pool [(1, .class_ 2), (0, u "java/io/Serializable"), (0, .class_ 4), (0, u "java/lang/Object")] 2

/-- java/io/Serializable -/
def k5 : Class := { plain "java/io/Serializable" (some 0) with
  accessFlags := 1537
  interfaces := #[]
  cf := some (fileOf pool5 1 #[] #[] 1537 3 #[] #[])
  fields := #[]
  methods := #[]
  instanceTypes := #[]
  staticTypes := #[]
  resolved := Array.replicate 7 none
  statics := none }

def pool6 : Array CpInfo := pool [(2, .class_ 4), (1, u "java/lang/Enum"), (0, u "name"), (0, u "Ljava/lang/String;"), (2, u "ordinal"), (0, u "I"), (1, .class_ 14), (1, u "java/lang/Object"), (4, u "hash"), (86, .class_ 108), (1, u "java/lang/Enum$EnumDesc"), (2, .class_ 112), (0, u "java/lang/constant/Constable"), (0, .class_ 114), (0, u "java/lang/Comparable"), (0, .class_ 116), (0, u "java/io/Serializable")] 87

/-- java/lang/Enum -/
def k6 : Class := { plain "java/lang/Enum" (some 0) with
  accessFlags := 1057
  interfaces := #[3, 4, 5]
  cf := some (fileOf pool6 2 #[.nestMembers #[106]] #[] 1057 12 #[111, 113, 115] #[{ accessFlags := 18, nameIndex := 5, descriptorIndex := 6, attributes := #[] }, { accessFlags := 18, nameIndex := 9, descriptorIndex := 10, attributes := #[] }, { accessFlags := 2, nameIndex := 19, descriptorIndex := 10, attributes := #[] }])
  fields := #[{ name := "name", type := (.object "java/lang/String"), accessFlags := 18, slot := 0, constantValue := 0 }, { name := "ordinal", type := .int, accessFlags := 18, slot := 1, constantValue := 0 }, { name := "hash", type := .int, accessFlags := 2, slot := 2, constantValue := 0 }]
  methods := #[]
  instanceTypes := #[(.object "java/lang/String"), .int, .int]
  staticTypes := #[]
  resolved := Array.replicate 204 none
  statics := none }

def pool7 : Array CpInfo := pool [(1, .class_ 2), (0, u "com/example/linkweave/linkweave/Overlap"), (2, u "DICE"), (0, u "Lcom/example/linkweave/linkweave/Overlap;"), (2, u "JACCARD"), (2, u "COSINE"), (2, u "$VALUES"), (0, u "[Lcom/example/linkweave/linkweave/Overlap;"), (6, .class_ 25), (1, u "java/lang/Enum"), (12, .class_ 39), (0, u "com/example/linkweave/linkweave/Overlap$1"), (2, .class_ 43), (0, u "com/example/linkweave/linkweave/Overlap$2"), (2, .class_ 47), (0, u "com/example/linkweave/linkweave/Overlap$3"), (15, u "common"), (0, u "([J[J)I")] 9

def k7c0 : Code := { maxStack := 4, maxLocals := 5, code := prog_24_method_5_code, exceptionTable := #[], attributes := #[] }
def k7m0 : Method := { name := "common", desc := "([J[J)I", sig := { parameters := [(.array .long), (.array .long)], returnType := some .int }, accessFlags := 8, code := some k7c0 }
/-- com/example/linkweave/linkweave/Overlap -/
def k7 : Class := { plain "com/example/linkweave/linkweave/Overlap" (some 6) with
  accessFlags := 17440
  interfaces := #[]
  cf := some (fileOf pool7 1 #[.nestMembers #[46, 42, 38]] #[{ accessFlags := 8, nameIndex := 63, descriptorIndex := 64, attributes := #[] }] 17440 23 #[] #[{ accessFlags := 16409, nameIndex := 5, descriptorIndex := 6, attributes := #[] }, { accessFlags := 16409, nameIndex := 9, descriptorIndex := 6, attributes := #[] }, { accessFlags := 16409, nameIndex := 12, descriptorIndex := 6, attributes := #[] }, { accessFlags := 4122, nameIndex := 15, descriptorIndex := 16, attributes := #[] }])
  fields := #[{ name := "DICE", type := (.object "com/example/linkweave/linkweave/Overlap"), accessFlags := 16409, slot := 0, constantValue := 0 }, { name := "JACCARD", type := (.object "com/example/linkweave/linkweave/Overlap"), accessFlags := 16409, slot := 1, constantValue := 0 }, { name := "COSINE", type := (.object "com/example/linkweave/linkweave/Overlap"), accessFlags := 16409, slot := 2, constantValue := 0 }, { name := "$VALUES", type := (.array (.object "com/example/linkweave/linkweave/Overlap")), accessFlags := 4122, slot := 3, constantValue := 0 }]
  methods := #[k7m0]
  instanceTypes := #[(.object "java/lang/String"), .int, .int]
  staticTypes := #[(.object "com/example/linkweave/linkweave/Overlap"), (.object "com/example/linkweave/linkweave/Overlap"), (.object "com/example/linkweave/linkweave/Overlap"), (.array (.object "com/example/linkweave/linkweave/Overlap"))]
  resolved := Array.replicate 74 none
  statics := none }

def pool8 : Array CpInfo := pool [(1, u "java/lang/Cloneable"), (0, .class_ 1), (0, u "java/lang/Object"), (0, .class_ 3)] 3

/-- java/lang/Cloneable -/
def k8 : Class := { plain "java/lang/Cloneable" (some 0) with
  accessFlags := 1537
  interfaces := #[]
  cf := some (fileOf pool8 2 #[] #[] 1537 4 #[] #[])
  fields := #[]
  methods := #[]
  instanceTypes := #[]
  staticTypes := #[]
  resolved := Array.replicate 8 none
  statics := none }

/-- the primitive byte -/
def k9 : Class := { plain "byte" none with kind := .primitive 'B', accessFlags := 0x411 }
/-- [B -/
def k10 : Class := { plain "[B" (some 0) with kind := .array 9 .byte, interfaces := #[8, 5], accessFlags := 1041 }

/-- the primitive int -/
def k11 : Class := { plain "int" none with kind := .primitive 'I', accessFlags := 0x411 }
/-- [I -/
def k12 : Class := { plain "[I" (some 0) with kind := .array 11 .int, interfaces := #[8, 5], accessFlags := 1041 }

/-- the primitive long -/
def k13 : Class := { plain "long" none with kind := .primitive 'J', accessFlags := 0x411 }
/-- [J -/
def k14 : Class := { plain "[J" (some 0) with kind := .array 13 .long, interfaces := #[8, 5], accessFlags := 1041 }

def heap : Heap := #[]
def classes : Array Class := #[k0, k1, k2, k3, k4, k5, k6, k7, k8, k9, k10, k11, k12, k13, k14]
def interned : List (Array UInt16 × Addr) := []
def slotsUsed : Nat := 0
def theMethod : MethodId := ⟨1, 1⟩
def args0 : Array Value := #[.long 5, .long 6, .int 7]
def aboutOver (below : List Frame) : State where
  vm := { classes := classes, interned := interned.toArray }
  heap := heap
  slotsUsed := slotsUsed
  threads := #[{ frames := .invoking theMethod args0 :: below }]
def below0 : List Frame := [.native { method := ⟨0, 0⟩, args := #[] }]
def about1 : State := aboutOver below0
def p0 : Program := .bare "" "" ""
def e0 : Env := launch0.env 0 0 0
theorem w_frames : about1.frames = Frame.invoking theMethod args0 :: below0 := rfl
set_option maxRecDepth 65536 in
theorem w_args : argsFit about1.vm theMethod args0 = true := by decide +kernel
set_option maxRecDepth 65536 in
theorem w_heap : heapFits about1 = true := by decide +kernel
set_option maxRecDepth 65536 in
theorem w_runnable : about1.curStatus? = some .runnable := by decide +kernel
set_option maxRecDepth 65536 in
theorem w_alone : about1.alone = true := by decide +kernel
set_option maxRecDepth 65536 in
theorem w_named : about1.methodNamed? x = some theMethod := by decide +kernel
set_option maxRecDepth 65536 in
theorem w_hears : about1.hears theMethod below0 = true := by decide +kernel
set_option maxRecDepth 65536 in
theorem w_ripe : about1.ripe theMethod args0 below0 = true := by decide +kernel
theorem w_running : about1.status = .running := rfl
set_option maxRecDepth 65536 in
theorem w_room : about1.hasRoom e0.platform room_1 = true :=
  launch0.hasRoom_least _ room_1 (by decide +kernel) (by decide +kernel) (by decide +kernel) (by decide +kernel) (by decide +kernel) (by decide +kernel)
theorem allAtoms_all (ts : List Jvm.Cond) (a : Array Jvm.Value) (st : Jvm.State) : (allAtoms ts).before a st = ts.all (fun c => c.before a st) := by
  induction ts with
  | nil => rfl
  | cons c t ih =>
    show (Jvm.Cond.and c (allAtoms t)).before a st = _
    rw [Jvm.Cond.before_and, ih, List.all_cons]
def words1 : List Jvm.Cond := Jvm.Cond.code x code maxLocals ret :: tables_1
/-- a 'code' word, met by the world's own term for the bytes: nothing is compared byte by byte -/
theorem code_word {y : MethodName} {bytes : ByteArray} {mx : Nat} {rt : Option FieldType} {a : Array Value} {s : State} {m : MethodId} {meth : Method} {c : Code} (h1 : s.methodNamed? y = some m) (h2 : s.vm.method? m = some meth) (h3 : meth.code = some c) (h4 : c.code = bytes)
    (h5 : (c.maxLocals == mx && c.exceptionTable.isEmpty && decide (c.maxStack ≤ mostOperands) && decide (meth.sig.returnType = rt) && !meth.locks && decide (parseMethodDescriptor y.desc = some meth.sig)) = true) : (Jvm.Cond.code y bytes mx rt).before a s = true := by
  simp only [Bool.and_eq_true, beq_iff_eq, Bool.not_eq_true', decide_eq_true_eq] at h5
  obtain ⟨⟨⟨⟨⟨g1, g2⟩, g3⟩, g4⟩, g5⟩, g6⟩ := h5
  simp [Cond.before, Cond.holds, Cond.value, h1, h2, h3, h4, g1, g2, g3, g4, g5, g6]
def isCode : Jvm.Cond → Bool
  | .code _ _ _ _ => true
  | _ => false
theorem all_split {L : List Jvm.Cond} {P : Jvm.Cond → Bool} (h1 : L.all (fun c => isCode c || P c) = true) (h2 : ∀ c ∈ L.filter isCode, P c = true) : L.all P = true := by
  refine List.all_eq_true.mpr fun c hc => ?_
  have h := List.all_eq_true.mp h1 c hc
  rcases Bool.eq_false_or_eq_true (isCode c) with hi | hi
  · exact h2 c (List.mem_filter.mpr ⟨hc, hi⟩)
  · simpa [hi] using h
set_option maxRecDepth 65536 in
theorem w_c0 : (Jvm.Cond.code x code maxLocals ret).before args0 about1 = true := code_word (m := ⟨1, 1⟩) (meth := k1m1) (c := k1c1) (by decide +kernel) rfl rfl rfl (by decide +kernel)
set_option maxRecDepth 65536 in
theorem w_c1 : (Jvm.Cond.code ({ cls := "java/lang/Math", name := "min", desc := "(JJ)J" } : Jvm.MethodName) jdk_29_method_70_code (4 : Nat) (Option.some Jvm.ClassFile.FieldType.long)).before args0 about1 = true := code_word (m := ⟨2, 3⟩) (meth := k2m3) (c := k2c3) (by decide +kernel) rfl rfl rfl (by decide +kernel)
set_option maxRecDepth 65536 in
theorem w_c2 : (Jvm.Cond.code ({ cls := "java/lang/Math", name := "max", desc := "(JJ)J" } : Jvm.MethodName) jdk_29_method_66_code (4 : Nat) (Option.some Jvm.ClassFile.FieldType.long)).before args0 about1 = true := code_word (m := ⟨2, 1⟩) (meth := k2m1) (c := k2c1) (by decide +kernel) rfl rfl rfl (by decide +kernel)
set_option maxRecDepth 65536 in
theorem w_c3 : (Jvm.Cond.code ({ cls := "com/example/linkweave/linkweave/OverlapCommonPinLaw", name := "build", desc := "(IIJJ)[J" } : Jvm.MethodName) method_3_code (7 : Nat) (Option.some (Jvm.ClassFile.FieldType.array Jvm.ClassFile.FieldType.long))).before args0 about1 = true := code_word (m := ⟨1, 2⟩) (meth := k1m2) (c := k1c2) (by decide +kernel) rfl rfl rfl (by decide +kernel)
set_option maxRecDepth 65536 in
theorem w_c4 : (Jvm.Cond.code ({ cls := "com/example/linkweave/linkweave/OverlapCommonPinLaw", name := "set", desc := "([JIIJJ)V" } : Jvm.MethodName) method_4_code (7 : Nat) (Option.none : Option Jvm.ClassFile.FieldType)).before args0 about1 = true := code_word (m := ⟨1, 3⟩) (meth := k1m3) (c := k1c3) (by decide +kernel) rfl rfl rfl (by decide +kernel)
set_option maxRecDepth 65536 in
theorem w_c5 : (Jvm.Cond.code ({ cls := "java/lang/Math", name := "min", desc := "(II)I" } : Jvm.MethodName) jdk_29_method_69_code (2 : Nat) (Option.some Jvm.ClassFile.FieldType.int)).before args0 about1 = true := code_word (m := ⟨2, 2⟩) (meth := k2m2) (c := k2c2) (by decide +kernel) rfl rfl rfl (by decide +kernel)
set_option maxRecDepth 65536 in
theorem w_c6 : (Jvm.Cond.code ({ cls := "com/example/linkweave/linkweave/Overlap", name := "common", desc := "([J[J)I" } : Jvm.MethodName) prog_24_method_5_code (5 : Nat) (Option.some Jvm.ClassFile.FieldType.int)).before args0 about1 = true := code_word (m := ⟨7, 0⟩) (meth := k7m0) (c := k7c0) (by decide +kernel) rfl rfl rfl (by decide +kernel)
def codes1 : List Jvm.Cond := [Jvm.Cond.code x code maxLocals ret, Jvm.Cond.code ({ cls := "java/lang/Math", name := "min", desc := "(JJ)J" } : Jvm.MethodName) jdk_29_method_70_code (4 : Nat) (Option.some Jvm.ClassFile.FieldType.long), Jvm.Cond.code ({ cls := "java/lang/Math", name := "max", desc := "(JJ)J" } : Jvm.MethodName) jdk_29_method_66_code (4 : Nat) (Option.some Jvm.ClassFile.FieldType.long), Jvm.Cond.code ({ cls := "com/example/linkweave/linkweave/OverlapCommonPinLaw", name := "build", desc := "(IIJJ)[J" } : Jvm.MethodName) method_3_code (7 : Nat) (Option.some (Jvm.ClassFile.FieldType.array Jvm.ClassFile.FieldType.long)), Jvm.Cond.code ({ cls := "com/example/linkweave/linkweave/OverlapCommonPinLaw", name := "set", desc := "([JIIJJ)V" } : Jvm.MethodName) method_4_code (7 : Nat) (Option.none : Option Jvm.ClassFile.FieldType), Jvm.Cond.code ({ cls := "java/lang/Math", name := "min", desc := "(II)I" } : Jvm.MethodName) jdk_29_method_69_code (2 : Nat) (Option.some Jvm.ClassFile.FieldType.int), Jvm.Cond.code ({ cls := "com/example/linkweave/linkweave/Overlap", name := "common", desc := "([J[J)I" } : Jvm.MethodName) prog_24_method_5_code (5 : Nat) (Option.some Jvm.ClassFile.FieldType.int)]
set_option maxRecDepth 65536 in
theorem codes_eq : words1.filter isCode = codes1 := rfl
theorem w_codes : ∀ c ∈ words1.filter isCode, c.before args0 about1 = true := by
  rw [codes_eq]
  intro c hc
  simp only [codes1, List.mem_cons, List.not_mem_nil, or_false] at hc
  rcases hc with rfl | rfl | rfl | rfl | rfl | rfl | rfl
  · exact w_c0
  · exact w_c1
  · exact w_c2
  · exact w_c3
  · exact w_c4
  · exact w_c5
  · exact w_c6
set_option maxRecDepth 65536 in
theorem w_t1 : words1.all (fun c => isCode c || c.before args0 about1) = true := by decide +kernel
theorem w_tables : (allAtoms (Jvm.Cond.code x code maxLocals ret :: tables_1)).before args0 about1 = true := by
  rw [allAtoms_all]
  show words1.all (fun c => c.before args0 about1) = true
  refine all_split ?_ w_codes
  rw [w_t1]
set_option maxRecDepth 65536 in
theorem w_case : (Jvm.Cond.and given_1 narrow_1).before args0 about1 = true := by decide +kernel
theorem w_applies : (headSpec (Jvm.Cond.code x code maxLocals ret :: tables_1) room_1).applies x e0.platform about1 = true :=
  (Spec.applies_iff w_frames).mpr ⟨w_running, w_runnable, w_alone, w_named, w_hears, w_ripe, w_room, w_tables⟩
theorem atStart : AtStart classFile x code maxLocals ret World_1 tables_1 room_1 Calls_1 rest_1 Pre_1 launch0 p0 e0 about1 theMethod args0 below0 :=
  ⟨lists_1, trivial, launch0.admits_env _ _ _, launch0.least_env, fairChoices_fair.cas, fairChoices_fair.clock, w_frames, w_args, w_heap, w_applies, trivial, trivial, w_case⟩
end start1
theorem witness_1 : WitnessClaimed_1 := ⟨start1.p0, start1.e0, start1.about1, start1.theMethod, start1.args0, start1.below0, start1.atStart⟩
end Jvm.Pilot.@@N@@
