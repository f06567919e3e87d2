import JvmDerived
import JvmDerived.Pilot.@@N@@Statement
import JvmDerived.Pilot.@@N@@Code
set_option linter.unusedVariables false
set_option linter.unusedSimpArgs false
namespace Jvm.OwnGo
open Sem ClassFile Op Lib Jvm.Stand Jvm.Free Jvm.LawKit Jvm.RoadKit
/-- one instruction: where it stands, what it is, its length, the next pc -/
def I1 (code : ByteArray) (pc : Nat) (i : Instr) (len pc' : Nat) : Prop := decode code pc = .ok (i, len) ∧ pc + len = pc'
/-- a branch: besides, where it leads -/
def B1 (code : ByteArray) (pc : Nat) (i : Instr) (o : Int) (pcT pcF : Nat) : Prop := decode code pc = .ok (i, 3) ∧ pc + 3 = pcF ∧ 0 ≤ (pc : Int) + o ∧ ((pc : Int) + o).toNat = pcT
/-- what is fixed while a body runs -/
def Cx (p : Program) (s : State) (m : MethodId) (meth : Method) (c : Code) (Z : State) (code : ByteArray) (maxL : Nat) (own : String) (ret : Option FieldType) : Prop :=
  p.tables.exec = Jvm.exec ∧ c.code = code ∧ c.maxLocals = maxL ∧ Z.Warmed39 s.vm ∧ s.vm.findClass own = some m.cls ∧ meth.sig.returnType = ret ∧ meth.locks = false
/-- from the frame g, over every state that stands there with the heap h, the body ends, and ends in Q -/
def Go (p : Program) (l : Launch) (e : Env) (R : Room) (s : State) (m : MethodId) (args : Array Value) (below : List Frame) (meth : Method) (c : Code) (n0 K N : Nat) (Q : Option Value → Heap → Prop) (h : Heap) (ck cn : Nat) (g : JFrame) : Prop :=
  ∀ (T : State) (locs : List Loc), Stand p l e R s m args below meth c T locs ck cn → T.heap = h → Fr n0 locs →
    ∃ s₂ o, Steps p.tables e below (T.setTop g) s₂ ∧ s₂.status = .running ∧ Ended s₂ below o ∧ ∃ v L, o = .returned v ∧ (Q v s₂.heap ∧ Fr n0 L) ∧ FrameEnd s o s₂ L K N
/-- a body's contract: from these arguments over this heap it returns as Q says, and writes nothing below n0 -/
def Ctr (l : Launch) (Z : State) (y : MethodName) (code : ByteArray) (maxL : Nat) (ret : Option FieldType) (rm : Room) (as' : Array Value) (h0 : Heap) (n0 : Nat) (Q : Option Value → Heap → Prop) : Prop :=
  ∀ ws : List Cond, MetFree l y (head1 (Cond.code y code maxL ret :: ws) rm) (fun a U => a = as' ∧ Z.Warmed39 U.vm ∧ U.heap = h0) (fun _ _ _ _ _ => True)
    (fun _ U o U' => ∃ v L, o = .returned v ∧ (Q v U'.heap ∧ Fr n0 L) ∧ FrameEnd U o U' L rm.cells rm.slots)
section
variable {p : Program} {l : Launch} {e : Env} {R : Room} {s : State} {m : MethodId} {args : Array Value} {below : List Frame} {meth : Method} {c : Code} {n0 K N : Nat} {Q : Option Value → Heap → Prop} {h : Heap} {ck cn : Nat} {Z : State} {a0 : Array Value} {code : ByteArray} {maxL : Nat} {own : String} {ret : Option FieldType}
theorem Ctr.of_go {y : MethodName} {rm : Room} {as' : Array Value} {h0 : Heap} {Ls : Array Slot} (hpl : plainFor y = true) (hef : ∀ m, entryFrame m as' maxL = mkF m 0 Ls [])
    (hgo : ∀ p e s m below meth c, meth.name = y.name → Cx p s m meth c Z code maxL y.cls ret → Go p l e rm s m as' below meth c n0 rm.cells rm.slots Q h0 0 0 (mkF m 0 Ls [])) : Ctr l Z y code maxL ret rm as' h0 n0 Q := fun ws => by
  refine MetFree.of_bodySF hpl hisR ?_
  intro p e s m args below meth c s₁ Bd hml0 hP hK
  obtain ⟨rfl, hZ, hh⟩ := hP
  have X0 : Stand p l e rm s m args below meth c s₁ [] 0 0 := Stand.of_body Bd
  have e0 : s₁.heap = h0 := by rw [← hh, Bd.state]; rfl
  obtain ⟨s₂, o, g1, g2, g3, v, L, g4, g5, g6⟩ := hgo p e s m below meth c (name_of_methodNamed Bd.named Bd.method).1 ⟨Bd.exec, Bd.bytes, hml0, hZ, findClass_of_methodNamed Bd.named, Bd.returns, Bd.notSynchronized⟩ s₁ [] X0 e0 (Fr.nil n0)
  exact ⟨s₂, o, castTop (hef m) g1, g2, g3, v, L, g4, g5, g6⟩
theorem Go.step {g g' : JFrame} (st : ∀ (T : State) (locs : List Loc), Stand p l e R s m args below meth c T locs ck cn → T.heap = h → ∀ target, Steps p.tables e below (T.setTop g') target → Steps p.tables e below (T.setTop g) target)
    (k : Go p l e R s m args below meth c n0 K N Q h ck cn g') : Go p l e R s m args below meth c n0 K N Q h ck cn g := fun T locs X eT hN => by
  obtain ⟨s₂, o, h1, r⟩ := k T locs X eT hN
  exact ⟨s₂, o, st T locs X eT _ h1, r⟩
/-- a step that moves the state: heap, counts -/
theorem Go.move {g g' : JFrame} {h' : Heap} {ck' cn' : Nat} {T : State} {locs : List Loc} (hN : Fr n0 locs) {T' : State} {locs' : List Loc} (X' : Stand p l e R s m args below meth c T' locs' ck' cn') (e' : T'.heap = h') (hN' : Fr n0 locs')
    (st : ∀ target, Steps p.tables e below (T'.setTop g') target → Steps p.tables e below (T.setTop g) target) (k : Go p l e R s m args below meth c n0 K N Q h' ck' cn' g') :
    ∃ s₂ o, Steps p.tables e below (T.setTop g) s₂ ∧ s₂.status = .running ∧ Ended s₂ below o ∧ ∃ v L, o = .returned v ∧ (Q v s₂.heap ∧ Fr n0 L) ∧ FrameEnd s o s₂ L K N := by
  obtain ⟨s₂, o, h1, r⟩ := k T' locs' X' e' hN'
  exact ⟨s₂, o, st _ h1, r⟩
theorem Go.join {g : JFrame} (g' : JFrame) (J : Go p l e R s m args below meth c n0 K N Q h ck cn g') (k : Go p l e R s m args below meth c n0 K N Q h ck cn g' → Go p l e R s m args below meth c n0 K N Q h ck cn g) : Go p l e R s m args below meth c n0 K N Q h ck cn g := k J
theorem Go.cast {g g' : JFrame} (k : Go p l e R s m args below meth c n0 K N Q h ck cn g') (q : g = g') : Go p l e R s m args below meth c n0 K N Q h ck cn g := q ▸ k
theorem Go.more {g : JFrame} {ck' cn' : Nat} (hc : ck ≤ ck') (hs : cn ≤ cn') (k : Go p l e R s m args below meth c n0 K N Q h ck' cn' g) : Go p l e R s m args below meth c n0 K N Q h ck cn g := fun T locs X eT hN => k T locs (X.more hc hs) eT hN
theorem Go.heap {g : JFrame} {h' : Heap} (q : h' = h) (k : Go p l e R s m args below meth c n0 K N Q h' ck cn g) : Go p l e R s m args below meth c n0 K N Q h ck cn g := q ▸ k
theorem Go.some' {v : Value} {pc : Nat} {Ls : Array Slot} {st : List Value} (k : Go p l e R s m args below meth c n0 K N Q h ck cn (mkF m pc Ls (v :: st))) : Go p l e R s m args below meth c n0 K N Q h ck cn (mkF m pc Ls ((some v).toList ++ st)) := k
theorem Go.none' {pc : Nat} {Ls : Array Slot} {st : List Value} (k : Go p l e R s m args below meth c n0 K N Q h ck cn (mkF m pc Ls st)) : Go p l e R s m args below meth c n0 K N Q h ck cn (mkF m pc Ls ((none : Option Value).toList ++ st)) := k
theorem g_iadd (C : Cx p s m meth c Z code maxL own ret) {pc pc' : Nat} {Ls : Array Slot} {st : List Value} {x y : Int32} (hd : I1 code pc (.iadd) 1 pc') (k : Go p l e R s m args below meth c n0 K N Q h ck cn (mkF m pc' Ls (.int (x + y) :: st))) : Go p l e R s m args below meth c n0 K N Q h ck cn (mkF m pc Ls (.int y :: .int x :: st)) := by
  obtain ⟨hd, rfl⟩ := hd
  exact Go.step (fun T locs X _ t k => XS.iadd X.here C.1 rfl (hb C.2.1 hd) rfl k) k
theorem g_isub (C : Cx p s m meth c Z code maxL own ret) {pc pc' : Nat} {Ls : Array Slot} {st : List Value} {x y : Int32} (hd : I1 code pc (.isub) 1 pc') (k : Go p l e R s m args below meth c n0 K N Q h ck cn (mkF m pc' Ls (.int (x - y) :: st))) : Go p l e R s m args below meth c n0 K N Q h ck cn (mkF m pc Ls (.int y :: .int x :: st)) := by
  obtain ⟨hd, rfl⟩ := hd
  exact Go.step (fun T locs X _ t k => XS.isub X.here C.1 rfl (hb C.2.1 hd) rfl k) k
theorem g_imul (C : Cx p s m meth c Z code maxL own ret) {pc pc' : Nat} {Ls : Array Slot} {st : List Value} {x y : Int32} (hd : I1 code pc (.imul) 1 pc') (k : Go p l e R s m args below meth c n0 K N Q h ck cn (mkF m pc' Ls (.int (x * y) :: st))) : Go p l e R s m args below meth c n0 K N Q h ck cn (mkF m pc Ls (.int y :: .int x :: st)) := by
  obtain ⟨hd, rfl⟩ := hd
  exact Go.step (fun T locs X _ t k => XS.imul X.here C.1 rfl (hb C.2.1 hd) rfl k) k
theorem g_iand (C : Cx p s m meth c Z code maxL own ret) {pc pc' : Nat} {Ls : Array Slot} {st : List Value} {x y : Int32} (hd : I1 code pc (.iand) 1 pc') (k : Go p l e R s m args below meth c n0 K N Q h ck cn (mkF m pc' Ls (.int (x &&& y) :: st))) : Go p l e R s m args below meth c n0 K N Q h ck cn (mkF m pc Ls (.int y :: .int x :: st)) := by
  obtain ⟨hd, rfl⟩ := hd
  exact Go.step (fun T locs X _ t k => XS.iand X.here C.1 rfl (hb C.2.1 hd) rfl k) k
theorem g_ior (C : Cx p s m meth c Z code maxL own ret) {pc pc' : Nat} {Ls : Array Slot} {st : List Value} {x y : Int32} (hd : I1 code pc (.ior) 1 pc') (k : Go p l e R s m args below meth c n0 K N Q h ck cn (mkF m pc' Ls (.int (x ||| y) :: st))) : Go p l e R s m args below meth c n0 K N Q h ck cn (mkF m pc Ls (.int y :: .int x :: st)) := by
  obtain ⟨hd, rfl⟩ := hd
  exact Go.step (fun T locs X _ t k => XS.ior X.here C.1 rfl (hb C.2.1 hd) rfl k) k
theorem g_ixor (C : Cx p s m meth c Z code maxL own ret) {pc pc' : Nat} {Ls : Array Slot} {st : List Value} {x y : Int32} (hd : I1 code pc (.ixor) 1 pc') (k : Go p l e R s m args below meth c n0 K N Q h ck cn (mkF m pc' Ls (.int (x ^^^ y) :: st))) : Go p l e R s m args below meth c n0 K N Q h ck cn (mkF m pc Ls (.int y :: .int x :: st)) := by
  obtain ⟨hd, rfl⟩ := hd
  exact Go.step (fun T locs X _ t k => XS.ixor X.here C.1 rfl (hb C.2.1 hd) rfl k) k
theorem g_ishl (C : Cx p s m meth c Z code maxL own ret) {pc pc' : Nat} {Ls : Array Slot} {st : List Value} {x y : Int32} (hd : I1 code pc (.ishl) 1 pc') (k : Go p l e R s m args below meth c n0 K N Q h ck cn (mkF m pc' Ls (.int (x <<< (y &&& 31)) :: st))) : Go p l e R s m args below meth c n0 K N Q h ck cn (mkF m pc Ls (.int y :: .int x :: st)) := by
  obtain ⟨hd, rfl⟩ := hd
  exact Go.step (fun T locs X _ t k => XS.ishl X.here C.1 rfl (hb C.2.1 hd) rfl k) k
theorem g_ishr (C : Cx p s m meth c Z code maxL own ret) {pc pc' : Nat} {Ls : Array Slot} {st : List Value} {x y : Int32} (hd : I1 code pc (.ishr) 1 pc') (k : Go p l e R s m args below meth c n0 K N Q h ck cn (mkF m pc' Ls (.int (x >>> (y &&& 31)) :: st))) : Go p l e R s m args below meth c n0 K N Q h ck cn (mkF m pc Ls (.int y :: .int x :: st)) := by
  obtain ⟨hd, rfl⟩ := hd
  exact Go.step (fun T locs X _ t k => XS.ishr X.here C.1 rfl (hb C.2.1 hd) rfl k) k
theorem g_iushr (C : Cx p s m meth c Z code maxL own ret) {pc pc' : Nat} {Ls : Array Slot} {st : List Value} {x y : Int32} (hd : I1 code pc (.iushr) 1 pc') (k : Go p l e R s m args below meth c n0 K N Q h ck cn (mkF m pc' Ls (.int ((x.toUInt32 >>> (y &&& 31).toUInt32).toInt32) :: st))) : Go p l e R s m args below meth c n0 K N Q h ck cn (mkF m pc Ls (.int y :: .int x :: st)) := by
  obtain ⟨hd, rfl⟩ := hd
  exact Go.step (fun T locs X _ t k => XS.iushr X.here C.1 rfl (hb C.2.1 hd) rfl k) k
theorem g_ladd (C : Cx p s m meth c Z code maxL own ret) {pc pc' : Nat} {Ls : Array Slot} {st : List Value} {x y : Int64} (hd : I1 code pc (.ladd) 1 pc') (k : Go p l e R s m args below meth c n0 K N Q h ck cn (mkF m pc' Ls (.long (x + y) :: st))) : Go p l e R s m args below meth c n0 K N Q h ck cn (mkF m pc Ls (.long y :: .long x :: st)) := by
  obtain ⟨hd, rfl⟩ := hd
  exact Go.step (fun T locs X _ t k => XS.ladd X.here C.1 rfl (hb C.2.1 hd) rfl k) k
theorem g_lsub (C : Cx p s m meth c Z code maxL own ret) {pc pc' : Nat} {Ls : Array Slot} {st : List Value} {x y : Int64} (hd : I1 code pc (.lsub) 1 pc') (k : Go p l e R s m args below meth c n0 K N Q h ck cn (mkF m pc' Ls (.long (x - y) :: st))) : Go p l e R s m args below meth c n0 K N Q h ck cn (mkF m pc Ls (.long y :: .long x :: st)) := by
  obtain ⟨hd, rfl⟩ := hd
  exact Go.step (fun T locs X _ t k => XS.lsub X.here C.1 rfl (hb C.2.1 hd) rfl k) k
theorem g_lmul (C : Cx p s m meth c Z code maxL own ret) {pc pc' : Nat} {Ls : Array Slot} {st : List Value} {x y : Int64} (hd : I1 code pc (.lmul) 1 pc') (k : Go p l e R s m args below meth c n0 K N Q h ck cn (mkF m pc' Ls (.long (x * y) :: st))) : Go p l e R s m args below meth c n0 K N Q h ck cn (mkF m pc Ls (.long y :: .long x :: st)) := by
  obtain ⟨hd, rfl⟩ := hd
  exact Go.step (fun T locs X _ t k => XS.lmul X.here C.1 rfl (hb C.2.1 hd) rfl k) k
theorem g_land (C : Cx p s m meth c Z code maxL own ret) {pc pc' : Nat} {Ls : Array Slot} {st : List Value} {x y : Int64} (hd : I1 code pc (.land) 1 pc') (k : Go p l e R s m args below meth c n0 K N Q h ck cn (mkF m pc' Ls (.long (x &&& y) :: st))) : Go p l e R s m args below meth c n0 K N Q h ck cn (mkF m pc Ls (.long y :: .long x :: st)) := by
  obtain ⟨hd, rfl⟩ := hd
  exact Go.step (fun T locs X _ t k => XS.land X.here C.1 rfl (hb C.2.1 hd) rfl k) k
theorem g_lor (C : Cx p s m meth c Z code maxL own ret) {pc pc' : Nat} {Ls : Array Slot} {st : List Value} {x y : Int64} (hd : I1 code pc (.lor) 1 pc') (k : Go p l e R s m args below meth c n0 K N Q h ck cn (mkF m pc' Ls (.long (x ||| y) :: st))) : Go p l e R s m args below meth c n0 K N Q h ck cn (mkF m pc Ls (.long y :: .long x :: st)) := by
  obtain ⟨hd, rfl⟩ := hd
  exact Go.step (fun T locs X _ t k => XS.lor X.here C.1 rfl (hb C.2.1 hd) rfl k) k
theorem g_lxor (C : Cx p s m meth c Z code maxL own ret) {pc pc' : Nat} {Ls : Array Slot} {st : List Value} {x y : Int64} (hd : I1 code pc (.lxor) 1 pc') (k : Go p l e R s m args below meth c n0 K N Q h ck cn (mkF m pc' Ls (.long (x ^^^ y) :: st))) : Go p l e R s m args below meth c n0 K N Q h ck cn (mkF m pc Ls (.long y :: .long x :: st)) := by
  obtain ⟨hd, rfl⟩ := hd
  exact Go.step (fun T locs X _ t k => XS.lxor X.here C.1 rfl (hb C.2.1 hd) rfl k) k
theorem g_lshl (C : Cx p s m meth c Z code maxL own ret) {pc pc' : Nat} {Ls : Array Slot} {st : List Value} {x : Int64} {y : Int32} (hd : I1 code pc (.lshl) 1 pc') (k : Go p l e R s m args below meth c n0 K N Q h ck cn (mkF m pc' Ls (.long (x <<< (y &&& 0x3f).toInt64) :: st))) : Go p l e R s m args below meth c n0 K N Q h ck cn (mkF m pc Ls (.int y :: .long x :: st)) := by
  obtain ⟨hd, rfl⟩ := hd
  exact Go.step (fun T locs X _ t k => XS.lshl X.here C.1 rfl (hb C.2.1 hd) rfl k) k
theorem g_lshr (C : Cx p s m meth c Z code maxL own ret) {pc pc' : Nat} {Ls : Array Slot} {st : List Value} {x : Int64} {y : Int32} (hd : I1 code pc (.lshr) 1 pc') (k : Go p l e R s m args below meth c n0 K N Q h ck cn (mkF m pc' Ls (.long (x >>> (y &&& 0x3f).toInt64) :: st))) : Go p l e R s m args below meth c n0 K N Q h ck cn (mkF m pc Ls (.int y :: .long x :: st)) := by
  obtain ⟨hd, rfl⟩ := hd
  exact Go.step (fun T locs X _ t k => XS.lshr X.here C.1 rfl (hb C.2.1 hd) rfl k) k
theorem g_lushr (C : Cx p s m meth c Z code maxL own ret) {pc pc' : Nat} {Ls : Array Slot} {st : List Value} {x : Int64} {y : Int32} (hd : I1 code pc (.lushr) 1 pc') (k : Go p l e R s m args below meth c n0 K N Q h ck cn (mkF m pc' Ls (.long ((x.toUInt64 >>> (y &&& 0x3f).toInt64.toUInt64).toInt64) :: st))) : Go p l e R s m args below meth c n0 K N Q h ck cn (mkF m pc Ls (.int y :: .long x :: st)) := by
  obtain ⟨hd, rfl⟩ := hd
  exact Go.step (fun T locs X _ t k => XS.lushr X.here C.1 rfl (hb C.2.1 hd) rfl k) k
theorem g_lcmp (C : Cx p s m meth c Z code maxL own ret) {pc pc' : Nat} {Ls : Array Slot} {st : List Value} {x y : Int64} (hd : I1 code pc (.lcmp) 1 pc') (k : Go p l e R s m args below meth c n0 K N Q h ck cn (mkF m pc' Ls (.int (lcmpW x y) :: st))) : Go p l e R s m args below meth c n0 K N Q h ck cn (mkF m pc Ls (.long y :: .long x :: st)) := by
  obtain ⟨hd, rfl⟩ := hd
  exact Go.step (fun T locs X _ t k => XS.lcmp X.here C.1 rfl (hb C.2.1 hd) rfl k) k
theorem g_ineg (C : Cx p s m meth c Z code maxL own ret) {pc pc' : Nat} {Ls : Array Slot} {st : List Value} {x : Int32} (hd : I1 code pc (.ineg) 1 pc') (k : Go p l e R s m args below meth c n0 K N Q h ck cn (mkF m pc' Ls (.int (-x) :: st))) : Go p l e R s m args below meth c n0 K N Q h ck cn (mkF m pc Ls (.int x :: st)) := by
  obtain ⟨hd, rfl⟩ := hd
  exact Go.step (fun T locs X _ t k => XS.ineg X.here C.1 rfl (hb C.2.1 hd) rfl k) k
theorem g_lneg (C : Cx p s m meth c Z code maxL own ret) {pc pc' : Nat} {Ls : Array Slot} {st : List Value} {x : Int64} (hd : I1 code pc (.lneg) 1 pc') (k : Go p l e R s m args below meth c n0 K N Q h ck cn (mkF m pc' Ls (.long (-x) :: st))) : Go p l e R s m args below meth c n0 K N Q h ck cn (mkF m pc Ls (.long x :: st)) := by
  obtain ⟨hd, rfl⟩ := hd
  exact Go.step (fun T locs X _ t k => XS.lneg X.here C.1 rfl (hb C.2.1 hd) rfl k) k
theorem g_i2l (C : Cx p s m meth c Z code maxL own ret) {pc pc' : Nat} {Ls : Array Slot} {st : List Value} {x : Int32} (hd : I1 code pc (.i2l) 1 pc') (k : Go p l e R s m args below meth c n0 K N Q h ck cn (mkF m pc' Ls (.long x.toInt64 :: st))) : Go p l e R s m args below meth c n0 K N Q h ck cn (mkF m pc Ls (.int x :: st)) := by
  obtain ⟨hd, rfl⟩ := hd
  exact Go.step (fun T locs X _ t k => XS.i2l X.here C.1 rfl (hb C.2.1 hd) rfl k) k
theorem g_l2i (C : Cx p s m meth c Z code maxL own ret) {pc pc' : Nat} {Ls : Array Slot} {st : List Value} {x : Int64} (hd : I1 code pc (.l2i) 1 pc') (k : Go p l e R s m args below meth c n0 K N Q h ck cn (mkF m pc' Ls (.int x.toInt32 :: st))) : Go p l e R s m args below meth c n0 K N Q h ck cn (mkF m pc Ls (.long x :: st)) := by
  obtain ⟨hd, rfl⟩ := hd
  exact Go.step (fun T locs X _ t k => XS.l2i X.here C.1 rfl (hb C.2.1 hd) rfl k) k
theorem g_i2b (C : Cx p s m meth c Z code maxL own ret) {pc pc' : Nat} {Ls : Array Slot} {st : List Value} {x : Int32} (hd : I1 code pc (.i2b) 1 pc') (k : Go p l e R s m args below meth c n0 K N Q h ck cn (mkF m pc' Ls (.int x.toInt8.toInt32 :: st))) : Go p l e R s m args below meth c n0 K N Q h ck cn (mkF m pc Ls (.int x :: st)) := by
  obtain ⟨hd, rfl⟩ := hd
  exact Go.step (fun T locs X _ t k => XS.i2b X.here C.1 rfl (hb C.2.1 hd) rfl k) k
theorem g_i2s (C : Cx p s m meth c Z code maxL own ret) {pc pc' : Nat} {Ls : Array Slot} {st : List Value} {x : Int32} (hd : I1 code pc (.i2s) 1 pc') (k : Go p l e R s m args below meth c n0 K N Q h ck cn (mkF m pc' Ls (.int x.toInt16.toInt32 :: st))) : Go p l e R s m args below meth c n0 K N Q h ck cn (mkF m pc Ls (.int x :: st)) := by
  obtain ⟨hd, rfl⟩ := hd
  exact Go.step (fun T locs X _ t k => XS.i2s X.here C.1 rfl (hb C.2.1 hd) rfl k) k
theorem g_i2c (C : Cx p s m meth c Z code maxL own ret) {pc pc' : Nat} {Ls : Array Slot} {st : List Value} {x : Int32} (hd : I1 code pc (.i2c) 1 pc') (k : Go p l e R s m args below meth c n0 K N Q h ck cn (mkF m pc' Ls (.int x.toUInt32.toUInt16.toUInt32.toInt32 :: st))) : Go p l e R s m args below meth c n0 K N Q h ck cn (mkF m pc Ls (.int x :: st)) := by
  obtain ⟨hd, rfl⟩ := hd
  exact Go.step (fun T locs X _ t k => XS.i2c X.here C.1 rfl (hb C.2.1 hd) rfl k) k
theorem g_idiv (C : Cx p s m meth c Z code maxL own ret) {pc pc' : Nat} {Ls : Array Slot} {st : List Value} {x y : Int32} (hd : I1 code pc (.idiv) 1 pc') (hy : y ≠ 0) (k : Go p l e R s m args below meth c n0 K N Q h ck cn (mkF m pc' Ls (.int (x / y) :: st))) : Go p l e R s m args below meth c n0 K N Q h ck cn (mkF m pc Ls (.int y :: .int x :: st)) := by
  obtain ⟨hd, rfl⟩ := hd
  exact Go.step (fun T locs X _ t k => XS.idiv X.here C.1 rfl (hb C.2.1 hd) rfl hy k) k
theorem g_ldiv (C : Cx p s m meth c Z code maxL own ret) {pc pc' : Nat} {Ls : Array Slot} {st : List Value} {x y : Int64} (hd : I1 code pc (.ldiv) 1 pc') (hy : y ≠ 0) (k : Go p l e R s m args below meth c n0 K N Q h ck cn (mkF m pc' Ls (.long (x / y) :: st))) : Go p l e R s m args below meth c n0 K N Q h ck cn (mkF m pc Ls (.long y :: .long x :: st)) := by
  obtain ⟨hd, rfl⟩ := hd
  exact Go.step (fun T locs X _ t k => XS.ldiv X.here C.1 rfl (hb C.2.1 hd) rfl hy k) k
theorem g_irem (C : Cx p s m meth c Z code maxL own ret) {pc pc' : Nat} {Ls : Array Slot} {st : List Value} {x y : Int32} (hd : I1 code pc .irem 1 pc') (hy : y ≠ 0) (k : Go p l e R s m args below meth c n0 K N Q h ck cn (mkF m pc' Ls (.int (x % y) :: st))) : Go p l e R s m args below meth c n0 K N Q h ck cn (mkF m pc Ls (.int y :: .int x :: st)) := by
  obtain ⟨hd, rfl⟩ := hd
  exact Go.step (fun T locs X _ t k => iremM X C.1 rfl (hb C.2.1 hd) rfl hy k) k
theorem g_lrem (C : Cx p s m meth c Z code maxL own ret) {pc pc' : Nat} {Ls : Array Slot} {st : List Value} {x y : Int64} (hd : I1 code pc .lrem 1 pc') (hy : y ≠ 0) (k : Go p l e R s m args below meth c n0 K N Q h ck cn (mkF m pc' Ls (.long (x % y) :: st))) : Go p l e R s m args below meth c n0 K N Q h ck cn (mkF m pc Ls (.long y :: .long x :: st)) := by
  obtain ⟨hd, rfl⟩ := hd
  exact Go.step (fun T locs X _ t k => XS.lrem X.here C.1 rfl (hb C.2.1 hd) rfl hy (by rw [lrem_mod]; exact k)) k
theorem g_iloadN (C : Cx p s m meth c Z code maxL own ret) {pc pc' : Nat} {Ls : Array Slot} {st : List Value} {k : Fin 4} {v : Int32} (hd : I1 code pc (.iload_n k) 1 pc') (hl : Ls[k.val]? = some (.val (.int v))) (k : Go p l e R s m args below meth c n0 K N Q h ck cn (mkF m pc' Ls (.int v :: st))) : Go p l e R s m args below meth c n0 K N Q h ck cn (mkF m pc Ls (st)) := by
  obtain ⟨hd, rfl⟩ := hd
  exact Go.step (fun T locs X _ t k => XS.iloadN X.here C.1 rfl (hb C.2.1 hd) hl k) k
theorem g_iload (C : Cx p s m meth c Z code maxL own ret) {pc pc' : Nat} {Ls : Array Slot} {st : List Value} {k : Nat} {v : Int32} (hd : I1 code pc (.iload k) 2 pc') (hl : Ls[k]? = some (.val (.int v))) (k : Go p l e R s m args below meth c n0 K N Q h ck cn (mkF m pc' Ls (.int v :: st))) : Go p l e R s m args below meth c n0 K N Q h ck cn (mkF m pc Ls (st)) := by
  obtain ⟨hd, rfl⟩ := hd
  exact Go.step (fun T locs X _ t k => XS.iload X.here C.1 rfl (hb C.2.1 hd) hl k) k
theorem g_istoreN (C : Cx p s m meth c Z code maxL own ret) {pc pc' : Nat} {Ls : Array Slot} {st : List Value} {k : Fin 4} {x : Int32} {Ls' : Array Slot} (hd : I1 code pc (.istore_n k) 1 pc') (hl : storeLocals Ls k.val (.int x) = some Ls') (k : Go p l e R s m args below meth c n0 K N Q h ck cn (mkF m pc' Ls' (st))) : Go p l e R s m args below meth c n0 K N Q h ck cn (mkF m pc Ls (.int x :: st)) := by
  obtain ⟨hd, rfl⟩ := hd
  exact Go.step (fun T locs X _ t k => XS.istoreN X.here C.1 rfl (hb C.2.1 hd) rfl hl k) k
theorem g_istore (C : Cx p s m meth c Z code maxL own ret) {pc pc' : Nat} {Ls : Array Slot} {st : List Value} {k : Nat} {x : Int32} {Ls' : Array Slot} (hd : I1 code pc (.istore k) 2 pc') (hl : storeLocals Ls k (.int x) = some Ls') (k : Go p l e R s m args below meth c n0 K N Q h ck cn (mkF m pc' Ls' (st))) : Go p l e R s m args below meth c n0 K N Q h ck cn (mkF m pc Ls (.int x :: st)) := by
  obtain ⟨hd, rfl⟩ := hd
  exact Go.step (fun T locs X _ t k => XS.istore X.here C.1 rfl (hb C.2.1 hd) rfl hl k) k
theorem g_lloadN (C : Cx p s m meth c Z code maxL own ret) {pc pc' : Nat} {Ls : Array Slot} {st : List Value} {k : Fin 4} {v : Int64} (hd : I1 code pc (.lload_n k) 1 pc') (hl : Ls[k.val]? = some (.val (.long v))) (k : Go p l e R s m args below meth c n0 K N Q h ck cn (mkF m pc' Ls (.long v :: st))) : Go p l e R s m args below meth c n0 K N Q h ck cn (mkF m pc Ls (st)) := by
  obtain ⟨hd, rfl⟩ := hd
  exact Go.step (fun T locs X _ t k => XS.lloadN X.here C.1 rfl (hb C.2.1 hd) hl k) k
theorem g_lload (C : Cx p s m meth c Z code maxL own ret) {pc pc' : Nat} {Ls : Array Slot} {st : List Value} {k : Nat} {v : Int64} (hd : I1 code pc (.lload k) 2 pc') (hl : Ls[k]? = some (.val (.long v))) (k : Go p l e R s m args below meth c n0 K N Q h ck cn (mkF m pc' Ls (.long v :: st))) : Go p l e R s m args below meth c n0 K N Q h ck cn (mkF m pc Ls (st)) := by
  obtain ⟨hd, rfl⟩ := hd
  exact Go.step (fun T locs X _ t k => XS.lload X.here C.1 rfl (hb C.2.1 hd) hl k) k
theorem g_lstoreN (C : Cx p s m meth c Z code maxL own ret) {pc pc' : Nat} {Ls : Array Slot} {st : List Value} {k : Fin 4} {x : Int64} {Ls' : Array Slot} (hd : I1 code pc (.lstore_n k) 1 pc') (hl : storeLocals Ls k.val (.long x) = some Ls') (k : Go p l e R s m args below meth c n0 K N Q h ck cn (mkF m pc' Ls' (st))) : Go p l e R s m args below meth c n0 K N Q h ck cn (mkF m pc Ls (.long x :: st)) := by
  obtain ⟨hd, rfl⟩ := hd
  exact Go.step (fun T locs X _ t k => XS.lstoreN X.here C.1 rfl (hb C.2.1 hd) rfl hl k) k
theorem g_lstore (C : Cx p s m meth c Z code maxL own ret) {pc pc' : Nat} {Ls : Array Slot} {st : List Value} {k : Nat} {x : Int64} {Ls' : Array Slot} (hd : I1 code pc (.lstore k) 2 pc') (hl : storeLocals Ls k (.long x) = some Ls') (k : Go p l e R s m args below meth c n0 K N Q h ck cn (mkF m pc' Ls' (st))) : Go p l e R s m args below meth c n0 K N Q h ck cn (mkF m pc Ls (.long x :: st)) := by
  obtain ⟨hd, rfl⟩ := hd
  exact Go.step (fun T locs X _ t k => XS.lstore X.here C.1 rfl (hb C.2.1 hd) rfl hl k) k
theorem g_dloadN (C : Cx p s m meth c Z code maxL own ret) {pc pc' : Nat} {Ls : Array Slot} {st : List Value} {k : Fin 4} {v : UInt64} (hd : I1 code pc (.dload_n k) 1 pc') (hl : Ls[k.val]? = some (.val (.double v))) (k : Go p l e R s m args below meth c n0 K N Q h ck cn (mkF m pc' Ls (.double v :: st))) : Go p l e R s m args below meth c n0 K N Q h ck cn (mkF m pc Ls (st)) := by
  obtain ⟨hd, rfl⟩ := hd
  exact Go.step (fun T locs X _ t k => XS.dloadN X.here C.1 rfl (hb C.2.1 hd) hl k) k
theorem g_dload (C : Cx p s m meth c Z code maxL own ret) {pc pc' : Nat} {Ls : Array Slot} {st : List Value} {k : Nat} {v : UInt64} (hd : I1 code pc (.dload k) 2 pc') (hl : Ls[k]? = some (.val (.double v))) (k : Go p l e R s m args below meth c n0 K N Q h ck cn (mkF m pc' Ls (.double v :: st))) : Go p l e R s m args below meth c n0 K N Q h ck cn (mkF m pc Ls (st)) := by
  obtain ⟨hd, rfl⟩ := hd
  exact Go.step (fun T locs X _ t k => XS.dload X.here C.1 rfl (hb C.2.1 hd) hl k) k
theorem g_dstoreN (C : Cx p s m meth c Z code maxL own ret) {pc pc' : Nat} {Ls : Array Slot} {st : List Value} {k : Fin 4} {x : UInt64} {Ls' : Array Slot} (hd : I1 code pc (.dstore_n k) 1 pc') (hl : storeLocals Ls k.val (.double x) = some Ls') (k : Go p l e R s m args below meth c n0 K N Q h ck cn (mkF m pc' Ls' (st))) : Go p l e R s m args below meth c n0 K N Q h ck cn (mkF m pc Ls (.double x :: st)) := by
  obtain ⟨hd, rfl⟩ := hd
  exact Go.step (fun T locs X _ t k => XS.dstoreN X.here C.1 rfl (hb C.2.1 hd) rfl hl k) k
theorem g_dstore (C : Cx p s m meth c Z code maxL own ret) {pc pc' : Nat} {Ls : Array Slot} {st : List Value} {k : Nat} {x : UInt64} {Ls' : Array Slot} (hd : I1 code pc (.dstore k) 2 pc') (hl : storeLocals Ls k (.double x) = some Ls') (k : Go p l e R s m args below meth c n0 K N Q h ck cn (mkF m pc' Ls' (st))) : Go p l e R s m args below meth c n0 K N Q h ck cn (mkF m pc Ls (.double x :: st)) := by
  obtain ⟨hd, rfl⟩ := hd
  exact Go.step (fun T locs X _ t k => XS.dstore X.here C.1 rfl (hb C.2.1 hd) rfl hl k) k
theorem g_aloadN (C : Cx p s m meth c Z code maxL own ret) {pc pc' : Nat} {Ls : Array Slot} {st : List Value} {k : Fin 4} {v : Value} (hd : I1 code pc (.aload_n k) 1 pc') (hl : Ls[k.val]? = some (.val v)) (hv : v.isRef = true) (k : Go p l e R s m args below meth c n0 K N Q h ck cn (mkF m pc' Ls (v :: st))) : Go p l e R s m args below meth c n0 K N Q h ck cn (mkF m pc Ls (st)) := by
  obtain ⟨hd, rfl⟩ := hd
  exact Go.step (fun T locs X _ t k => XS.aloadN X.here C.1 rfl (hb C.2.1 hd) hl hv k) k
theorem g_aload (C : Cx p s m meth c Z code maxL own ret) {pc pc' : Nat} {Ls : Array Slot} {st : List Value} {k : Nat} {v : Value} (hd : I1 code pc (.aload k) 2 pc') (hl : Ls[k]? = some (.val v)) (hv : v.isRef = true) (k : Go p l e R s m args below meth c n0 K N Q h ck cn (mkF m pc' Ls (v :: st))) : Go p l e R s m args below meth c n0 K N Q h ck cn (mkF m pc Ls (st)) := by
  obtain ⟨hd, rfl⟩ := hd
  exact Go.step (fun T locs X _ t k => XS.aload X.here C.1 rfl (hb C.2.1 hd) hl hv k) k
theorem g_astoreN (C : Cx p s m meth c Z code maxL own ret) {pc pc' : Nat} {Ls : Array Slot} {st : List Value} {k : Fin 4} {x : Value} {Ls' : Array Slot} (hd : I1 code pc (.astore_n k) 1 pc') (hv : x.isRef = true) (hl : storeLocals Ls k.val x = some Ls') (k : Go p l e R s m args below meth c n0 K N Q h ck cn (mkF m pc' Ls' (st))) : Go p l e R s m args below meth c n0 K N Q h ck cn (mkF m pc Ls (x :: st)) := by
  obtain ⟨hd, rfl⟩ := hd
  exact Go.step (fun T locs X _ t k => XS.astoreN X.here C.1 rfl (hb C.2.1 hd) rfl hv hl k) k
theorem g_astore (C : Cx p s m meth c Z code maxL own ret) {pc pc' : Nat} {Ls : Array Slot} {st : List Value} {k : Nat} {x : Value} {Ls' : Array Slot} (hd : I1 code pc (.astore k) 2 pc') (hv : x.isRef = true) (hl : storeLocals Ls k x = some Ls') (k : Go p l e R s m args below meth c n0 K N Q h ck cn (mkF m pc' Ls' (st))) : Go p l e R s m args below meth c n0 K N Q h ck cn (mkF m pc Ls (x :: st)) := by
  obtain ⟨hd, rfl⟩ := hd
  exact Go.step (fun T locs X _ t k => XS.astore X.here C.1 rfl (hb C.2.1 hd) rfl hv hl k) k
theorem g_iinc (C : Cx p s m meth c Z code maxL own ret) {pc pc' : Nat} {Ls : Array Slot} {st : List Value} {k : Nat} {cst : Int} {x : Int32} {Ls' : Array Slot} (hd : I1 code pc (.iinc k cst) 3 pc') (hl : Ls[k]? = some (.val (.int x))) (hl' : storeLocals Ls k (.int (x + Int32.ofInt cst)) = some Ls') (k : Go p l e R s m args below meth c n0 K N Q h ck cn (mkF m pc' Ls' (st))) : Go p l e R s m args below meth c n0 K N Q h ck cn (mkF m pc Ls (st)) := by
  obtain ⟨hd, rfl⟩ := hd
  exact Go.step (fun T locs X _ t k => XS.iinc X.here C.1 rfl (hb C.2.1 hd) hl hl' k) k
theorem g_iconst (C : Cx p s m meth c Z code maxL own ret) {pc pc' : Nat} {Ls : Array Slot} {st : List Value} {i : Int} (v : Int32) (hd : I1 code pc (.iconst i) 1 pc') (hv : Int32.ofInt i = v) (k : Go p l e R s m args below meth c n0 K N Q h ck cn (mkF m pc' Ls (.int v :: st))) : Go p l e R s m args below meth c n0 K N Q h ck cn (mkF m pc Ls st) := by
  obtain ⟨hd, rfl⟩ := hd
  subst hv
  exact Go.step (fun T locs X _ t k => XS.iconst X.here C.1 rfl (hb C.2.1 hd) k) k
theorem g_bipush (C : Cx p s m meth c Z code maxL own ret) {pc pc' : Nat} {Ls : Array Slot} {st : List Value} {i : Int} (v : Int32) (hd : I1 code pc (.bipush i) 2 pc') (hv : (Int8.ofInt i).toInt32 = v) (k : Go p l e R s m args below meth c n0 K N Q h ck cn (mkF m pc' Ls (.int v :: st))) : Go p l e R s m args below meth c n0 K N Q h ck cn (mkF m pc Ls st) := by
  obtain ⟨hd, rfl⟩ := hd
  subst hv
  exact Go.step (fun T locs X _ t k => XS.bipush X.here C.1 rfl (hb C.2.1 hd) k) k
theorem g_sipush (C : Cx p s m meth c Z code maxL own ret) {pc pc' : Nat} {Ls : Array Slot} {st : List Value} {i : Int} (v : Int32) (hd : I1 code pc (.sipush i) 3 pc') (hv : (Int16.ofInt i).toInt32 = v) (k : Go p l e R s m args below meth c n0 K N Q h ck cn (mkF m pc' Ls (.int v :: st))) : Go p l e R s m args below meth c n0 K N Q h ck cn (mkF m pc Ls st) := by
  obtain ⟨hd, rfl⟩ := hd
  subst hv
  exact Go.step (fun T locs X _ t k => XS.sipush X.here C.1 rfl (hb C.2.1 hd) k) k
theorem g_lconst (C : Cx p s m meth c Z code maxL own ret) {pc pc' : Nat} {Ls : Array Slot} {st : List Value} {i : Fin 2} (v : Int64) (hd : I1 code pc (.lconst i) 1 pc') (hv : Int64.ofNat i = v) (k : Go p l e R s m args below meth c n0 K N Q h ck cn (mkF m pc' Ls (.long v :: st))) : Go p l e R s m args below meth c n0 K N Q h ck cn (mkF m pc Ls st) := by
  obtain ⟨hd, rfl⟩ := hd
  subst hv
  exact Go.step (fun T locs X _ t k => XS.lconst X.here C.1 rfl (hb C.2.1 hd) k) k
theorem g_aconstNull (C : Cx p s m meth c Z code maxL own ret) {pc pc' : Nat} {Ls : Array Slot} {st : List Value}  (hd : I1 code pc (.aconst_null) 1 pc') (k : Go p l e R s m args below meth c n0 K N Q h ck cn (mkF m pc' Ls (.null :: st))) : Go p l e R s m args below meth c n0 K N Q h ck cn (mkF m pc Ls (st)) := by
  obtain ⟨hd, rfl⟩ := hd
  exact Go.step (fun T locs X _ t k => XS.aconstNull X.here C.1 rfl (hb C.2.1 hd)  k) k
theorem g_ldcInt (C : Cx p s m meth c Z code maxL own ret) {pc pc' : Nat} {Ls : Array Slot} {st : List Value} {i : Nat} {v : Int32} (hd : I1 code pc (.ldc i) 2 pc') (w : (Cond.constant own i v).before a0 Z = true) (k : Go p l e R s m args below meth c n0 K N Q h ck cn (mkF m pc' Ls (.int v :: st))) : Go p l e R s m args below meth c n0 K N Q h ck cn (mkF m pc Ls st) := by
  obtain ⟨hd, rfl⟩ := hd
  exact Go.step (fun T locs X _ t k => X.ldcInt C.1 C.2.2.2.2.1 (mvT C.2.2.2.1 w) (g := mkF m pc Ls st) rfl (hb C.2.1 hd) _ k) k
theorem g_ldcwInt (C : Cx p s m meth c Z code maxL own ret) {pc pc' : Nat} {Ls : Array Slot} {st : List Value} {i : Nat} {v : Int32} (hd : I1 code pc (.ldc_w i) 3 pc') (w : (Cond.constant own i v).before a0 Z = true) (k : Go p l e R s m args below meth c n0 K N Q h ck cn (mkF m pc' Ls (.int v :: st))) : Go p l e R s m args below meth c n0 K N Q h ck cn (mkF m pc Ls st) := by
  obtain ⟨hd, rfl⟩ := hd
  exact Go.step (fun T locs X _ t k => X.ldcwInt C.1 C.2.2.2.2.1 (mvT C.2.2.2.1 w) (g := mkF m pc Ls st) rfl (hb C.2.1 hd) _ k) k
theorem g_ldc2Long (C : Cx p s m meth c Z code maxL own ret) {pc pc' : Nat} {Ls : Array Slot} {st : List Value} {i : Nat} {v : Int64} (hd : I1 code pc (.ldc2_w i) 3 pc') (w : (Cond.constantLong own i v).before a0 Z = true) (k : Go p l e R s m args below meth c n0 K N Q h ck cn (mkF m pc' Ls (.long v :: st))) : Go p l e R s m args below meth c n0 K N Q h ck cn (mkF m pc Ls st) := by
  obtain ⟨hd, rfl⟩ := hd
  exact Go.step (fun T locs X _ t k => X.ldc2Long C.1 C.2.2.2.2.1 (mvT C.2.2.2.1 w) (g := mkF m pc Ls st) rfl (hb C.2.1 hd) _ k) k
theorem g_ldc2D (C : Cx p s m meth c Z code maxL own ret) {pc pc' : Nat} {Ls : Array Slot} {st : List Value} {i : Nat} {v : UInt64} (hd : I1 code pc (.ldc2_w i) 3 pc') (w : (Cond.constantDouble own i v).before a0 Z = true) (k : Go p l e R s m args below meth c n0 K N Q h ck cn (mkF m pc' Ls (.double v :: st))) : Go p l e R s m args below meth c n0 K N Q h ck cn (mkF m pc Ls st) := by
  obtain ⟨hd, rfl⟩ := hd
  exact Go.step (fun T locs X _ t k => X.ldc2DoubleC C.1 C.2.2.2.2.1 (mvT C.2.2.2.1 w) (g := mkF m pc Ls st) rfl (hb C.2.1 hd) _ k) k
theorem g_dconst0 (C : Cx p s m meth c Z code maxL own ret) {pc pc' : Nat} {Ls : Array Slot} {st : List Value} (hd : I1 code pc (.dconst 0) 1 pc') (k : Go p l e R s m args below meth c n0 K N Q h ck cn (mkF m pc' Ls (.double 0 :: st))) : Go p l e R s m args below meth c n0 K N Q h ck cn (mkF m pc Ls st) := by
  obtain ⟨hd, rfl⟩ := hd
  exact Go.step (fun T locs X _ t k => XS.dconst0 (v := 0) X.here C.1 rfl (hb C.2.1 hd) rfl k) k
theorem g_l2d (C : Cx p s m meth c Z code maxL own ret) {pc pc' : Nat} {Ls : Array Slot} {st : List Value} {x : Int64} (hd : I1 code pc (.l2d) 1 pc') (k : Go p l e R s m args below meth c n0 K N Q h ck cn (mkF m pc' Ls (.double (FP.l2d x) :: st))) : Go p l e R s m args below meth c n0 K N Q h ck cn (mkF m pc Ls (.long x :: st)) := by
  obtain ⟨hd, rfl⟩ := hd
  exact Go.step (fun T locs X _ t k => XS.l2dS X.here C.1 rfl (hb C.2.1 hd) rfl rfl k) k
theorem g_i2d (C : Cx p s m meth c Z code maxL own ret) {pc pc' : Nat} {Ls : Array Slot} {st : List Value} {x : Int32} (hd : I1 code pc (.i2d) 1 pc') (k : Go p l e R s m args below meth c n0 K N Q h ck cn (mkF m pc' Ls (.double (FP.i2d x) :: st))) : Go p l e R s m args below meth c n0 K N Q h ck cn (mkF m pc Ls (.int x :: st)) := by
  obtain ⟨hd, rfl⟩ := hd
  exact Go.step (fun T locs X _ t k => XS.i2dS X.here C.1 rfl (hb C.2.1 hd) rfl rfl k) k
theorem g_dcmp (C : Cx p s m meth c Z code maxL own ret) {pc pc' : Nat} {Ls : Array Slot} {st : List Value} {x y : UInt64} {o : CmpOp} (hd : I1 code pc (.dcmp o) 1 pc') (k : Go p l e R s m args below meth c n0 K N Q h ck cn (mkF m pc' Ls (.int (cmpValue (FP.dcmp x y) o) :: st))) : Go p l e R s m args below meth c n0 K N Q h ck cn (mkF m pc Ls (.double y :: .double x :: st)) := by
  obtain ⟨hd, rfl⟩ := hd
  exact Go.step (fun T locs X _ t k => XS.dcmpS X.here C.1 rfl (hb C.2.1 hd) rfl rfl k) k
theorem g_ddiv (C : Cx p s m meth c Z code maxL own ret) {pc pc' : Nat} {Ls : Array Slot} {st : List Value} {x y : UInt64} (hd : I1 code pc (.ddiv) 1 pc') (hn : Jvm.Free.Fl.NoNaN64 (FP.ddiv x y)) (k : Go p l e R s m args below meth c n0 K N Q h ck cn (mkF m pc' Ls (.double (FP.ddiv x y) :: st))) : Go p l e R s m args below meth c n0 K N Q h ck cn (mkF m pc Ls (.double y :: .double x :: st)) := by
  obtain ⟨hd, rfl⟩ := hd
  exact Go.step (fun T locs X _ t k => XS.ddivS X.here C.1 rfl (hb C.2.1 hd) rfl hn rfl k) k
theorem g_dadd (C : Cx p s m meth c Z code maxL own ret) {pc pc' : Nat} {Ls : Array Slot} {st : List Value} {x y : UInt64} (hd : I1 code pc (.dadd) 1 pc') (hn : Jvm.Free.Fl.NoNaN64 (FP.dadd x y)) (k : Go p l e R s m args below meth c n0 K N Q h ck cn (mkF m pc' Ls (.double (FP.dadd x y) :: st))) : Go p l e R s m args below meth c n0 K N Q h ck cn (mkF m pc Ls (.double y :: .double x :: st)) := by
  obtain ⟨hd, rfl⟩ := hd
  exact Go.step (fun T locs X _ t k => XS.daddS X.here C.1 rfl (hb C.2.1 hd) rfl hn rfl k) k
theorem g_dup (C : Cx p s m meth c Z code maxL own ret) {pc pc' : Nat} {Ls : Array Slot} {st : List Value} {x : Value} (hd : I1 code pc (.dup) 1 pc') (hc : x.category = 1) (k : Go p l e R s m args below meth c n0 K N Q h ck cn (mkF m pc' Ls (x :: x :: st))) : Go p l e R s m args below meth c n0 K N Q h ck cn (mkF m pc Ls (x :: st)) := by
  obtain ⟨hd, rfl⟩ := hd
  exact Go.step (fun T locs X _ t k => XS.dup X.here C.1 rfl (hb C.2.1 hd) rfl hc k) k
theorem g_pop (C : Cx p s m meth c Z code maxL own ret) {pc pc' : Nat} {Ls : Array Slot} {st : List Value} {x : Value} (hd : I1 code pc (.pop) 1 pc') (hc : x.category = 1) (k : Go p l e R s m args below meth c n0 K N Q h ck cn (mkF m pc' Ls (st))) : Go p l e R s m args below meth c n0 K N Q h ck cn (mkF m pc Ls (x :: st)) := by
  obtain ⟨hd, rfl⟩ := hd
  exact Go.step (fun T locs X _ t k => XS.pop X.here C.1 rfl (hb C.2.1 hd) rfl hc k) k
theorem g_dupX1 (C : Cx p s m meth c Z code maxL own ret) {pc pc' : Nat} {Ls : Array Slot} {st : List Value} {x y : Value} (hd : I1 code pc (.dup_x1) 1 pc') (hc : x.category = 1) (hc' : y.category = 1) (k : Go p l e R s m args below meth c n0 K N Q h ck cn (mkF m pc' Ls (x :: y :: x :: st))) : Go p l e R s m args below meth c n0 K N Q h ck cn (mkF m pc Ls (x :: y :: st)) := by
  obtain ⟨hd, rfl⟩ := hd
  exact Go.step (fun T locs X _ t k => XS.dupX1 X.here C.1 rfl (hb C.2.1 hd) rfl hc hc' k) k
theorem g_dup2 (C : Cx p s m meth c Z code maxL own ret) {pc pc' : Nat} {Ls : Array Slot} {st : List Value} {x y : Value} (hd : I1 code pc (.dup2) 1 pc') (hc : x.category = 1) (hc' : y.category = 1) (k : Go p l e R s m args below meth c n0 K N Q h ck cn (mkF m pc' Ls (x :: y :: x :: y :: st))) : Go p l e R s m args below meth c n0 K N Q h ck cn (mkF m pc Ls (x :: y :: st)) := by
  obtain ⟨hd, rfl⟩ := hd
  exact Go.step (fun T locs X _ t k => Jvm.Free.XT.dup2 X.here C.1 rfl (hb C.2.1 hd) rfl hc hc' k) k
theorem g_dup2L (C : Cx p s m meth c Z code maxL own ret) {pc pc' : Nat} {Ls : Array Slot} {st : List Value} {x : Int64} (hd : I1 code pc (.dup2) 1 pc') (k : Go p l e R s m args below meth c n0 K N Q h ck cn (mkF m pc' Ls (.long x :: .long x :: st))) : Go p l e R s m args below meth c n0 K N Q h ck cn (mkF m pc Ls (.long x :: st)) := by
  obtain ⟨hd, rfl⟩ := hd
  exact Go.step (fun T locs X _ t k => Jvm.Free.XT.dup2L X.here C.1 rfl (hb C.2.1 hd) rfl k) k
theorem g_goto (C : Cx p s m meth c Z code maxL own ret) {pc pcT pcF : Nat} {Ls : Array Slot} {st : List Value} {o : Int} (hd : B1 code pc (.goto o) o pcT pcF) (k : Go p l e R s m args below meth c n0 K N Q h ck cn (mkF m pcT Ls st)) : Go p l e R s m args below meth c n0 K N Q h ck cn (mkF m pc Ls st) := by
  obtain ⟨hd, -, ho, hp⟩ := hd
  exact Go.step (fun T locs X _ t k => XS.goto X.here C.1 rfl (pc0 := pc) rfl (hb C.2.1 hd) ho hp k) k
theorem g_icmp_lt (C : Cx p s m meth c Z code maxL own ret) {pc pcT pcF : Nat} {Ls : Array Slot} {st : List Value} {o : Int} {x y : Int32} (hd : B1 code pc (.if_icmp .lt o) o pcT pcF) (kt : x < y → Go p l e R s m args below meth c n0 K N Q h ck cn (mkF m pcT Ls st)) (kf : ¬ (x < y) → Go p l e R s m args below meth c n0 K N Q h ck cn (mkF m pcF Ls st)) : Go p l e R s m args below meth c n0 K N Q h ck cn (mkF m pc Ls (.int y :: .int x :: st)) := by
  obtain ⟨hd, rfl, ho, hp⟩ := hd
  by_cases q : x < y
  · exact Go.step (fun T locs X _ t k => XS.icmpYes X.here C.1 rfl (pc0 := pc) rfl (hb C.2.1 hd) rfl ((tlt q).1) ho hp k) (kt q)
  · exact Go.step (fun T locs X _ t k => XS.icmpNo X.here C.1 rfl (hb C.2.1 hd) rfl ((flt q).1) k) (kf q)
theorem g_if_lt (C : Cx p s m meth c Z code maxL own ret) {pc pcT pcF : Nat} {Ls : Array Slot} {st : List Value} {o : Int} {x : Int32} (hd : B1 code pc (.ifCond .lt o) o pcT pcF) (kt : x < 0 → Go p l e R s m args below meth c n0 K N Q h ck cn (mkF m pcT Ls st)) (kf : ¬ (x < 0) → Go p l e R s m args below meth c n0 K N Q h ck cn (mkF m pcF Ls st)) : Go p l e R s m args below meth c n0 K N Q h ck cn (mkF m pc Ls (.int x :: st)) := by
  obtain ⟨hd, rfl, ho, hp⟩ := hd
  by_cases q : x < 0
  · exact Go.step (fun T locs X _ t k => XS.ifYes X.here C.1 rfl (pc0 := pc) rfl (hb C.2.1 hd) rfl ((if0 _ _).trans (tlt q).1) ho hp k) (kt q)
  · exact Go.step (fun T locs X _ t k => XS.ifNo X.here C.1 rfl (hb C.2.1 hd) rfl ((if0 _ _).trans (flt q).1) k) (kf q)
theorem g_ifl_lt (C : Cx p s m meth c Z code maxL own ret) {pc pcT pcF : Nat} {Ls : Array Slot} {st : List Value} {o : Int} {x y : Int64} (hd : B1 code pc (.ifCond .lt o) o pcT pcF) (kt : x < y → Go p l e R s m args below meth c n0 K N Q h ck cn (mkF m pcT Ls st)) (kf : ¬ (x < y) → Go p l e R s m args below meth c n0 K N Q h ck cn (mkF m pcF Ls st)) : Go p l e R s m args below meth c n0 K N Q h ck cn (mkF m pc Ls (.int (lcmpW x y) :: st)) := by
  obtain ⟨hd, rfl, ho, hp⟩ := hd
  by_cases q : x < y
  · exact Go.step (fun T locs X _ t k => XS.ifYes X.here C.1 rfl (pc0 := pc) rfl (hb C.2.1 hd) rfl ((if0 _ _).trans (tlt ((lw_lt x y).mpr q)).1) ho hp k) (kt q)
  · exact Go.step (fun T locs X _ t k => XS.ifNo X.here C.1 rfl (hb C.2.1 hd) rfl ((if0 _ _).trans (flt (fun z => q ((lw_lt x y).mp z))).1) k) (kf q)
theorem g_icmp_ge (C : Cx p s m meth c Z code maxL own ret) {pc pcT pcF : Nat} {Ls : Array Slot} {st : List Value} {o : Int} {x y : Int32} (hd : B1 code pc (.if_icmp .ge o) o pcT pcF) (kt : x < y → Go p l e R s m args below meth c n0 K N Q h ck cn (mkF m pcF Ls st)) (kf : ¬ (x < y) → Go p l e R s m args below meth c n0 K N Q h ck cn (mkF m pcT Ls st)) : Go p l e R s m args below meth c n0 K N Q h ck cn (mkF m pc Ls (.int y :: .int x :: st)) := by
  obtain ⟨hd, rfl, ho, hp⟩ := hd
  by_cases q : x < y
  · exact Go.step (fun T locs X _ t k => XS.icmpNo X.here C.1 rfl (hb C.2.1 hd) rfl ((tlt q).2.1) k) (kt q)
  · exact Go.step (fun T locs X _ t k => XS.icmpYes X.here C.1 rfl (pc0 := pc) rfl (hb C.2.1 hd) rfl ((flt q).2.1) ho hp k) (kf q)
theorem g_if_ge (C : Cx p s m meth c Z code maxL own ret) {pc pcT pcF : Nat} {Ls : Array Slot} {st : List Value} {o : Int} {x : Int32} (hd : B1 code pc (.ifCond .ge o) o pcT pcF) (kt : x < 0 → Go p l e R s m args below meth c n0 K N Q h ck cn (mkF m pcF Ls st)) (kf : ¬ (x < 0) → Go p l e R s m args below meth c n0 K N Q h ck cn (mkF m pcT Ls st)) : Go p l e R s m args below meth c n0 K N Q h ck cn (mkF m pc Ls (.int x :: st)) := by
  obtain ⟨hd, rfl, ho, hp⟩ := hd
  by_cases q : x < 0
  · exact Go.step (fun T locs X _ t k => XS.ifNo X.here C.1 rfl (hb C.2.1 hd) rfl ((if0 _ _).trans (tlt q).2.1) k) (kt q)
  · exact Go.step (fun T locs X _ t k => XS.ifYes X.here C.1 rfl (pc0 := pc) rfl (hb C.2.1 hd) rfl ((if0 _ _).trans (flt q).2.1) ho hp k) (kf q)
theorem g_ifl_ge (C : Cx p s m meth c Z code maxL own ret) {pc pcT pcF : Nat} {Ls : Array Slot} {st : List Value} {o : Int} {x y : Int64} (hd : B1 code pc (.ifCond .ge o) o pcT pcF) (kt : x < y → Go p l e R s m args below meth c n0 K N Q h ck cn (mkF m pcF Ls st)) (kf : ¬ (x < y) → Go p l e R s m args below meth c n0 K N Q h ck cn (mkF m pcT Ls st)) : Go p l e R s m args below meth c n0 K N Q h ck cn (mkF m pc Ls (.int (lcmpW x y) :: st)) := by
  obtain ⟨hd, rfl, ho, hp⟩ := hd
  by_cases q : x < y
  · exact Go.step (fun T locs X _ t k => XS.ifNo X.here C.1 rfl (hb C.2.1 hd) rfl ((if0 _ _).trans (tlt ((lw_lt x y).mpr q)).2.1) k) (kt q)
  · exact Go.step (fun T locs X _ t k => XS.ifYes X.here C.1 rfl (pc0 := pc) rfl (hb C.2.1 hd) rfl ((if0 _ _).trans (flt (fun z => q ((lw_lt x y).mp z))).2.1) ho hp k) (kf q)
theorem g_icmp_gt (C : Cx p s m meth c Z code maxL own ret) {pc pcT pcF : Nat} {Ls : Array Slot} {st : List Value} {o : Int} {x y : Int32} (hd : B1 code pc (.if_icmp .gt o) o pcT pcF) (kt : y < x → Go p l e R s m args below meth c n0 K N Q h ck cn (mkF m pcT Ls st)) (kf : ¬ (y < x) → Go p l e R s m args below meth c n0 K N Q h ck cn (mkF m pcF Ls st)) : Go p l e R s m args below meth c n0 K N Q h ck cn (mkF m pc Ls (.int y :: .int x :: st)) := by
  obtain ⟨hd, rfl, ho, hp⟩ := hd
  by_cases q : y < x
  · exact Go.step (fun T locs X _ t k => XS.icmpYes X.here C.1 rfl (pc0 := pc) rfl (hb C.2.1 hd) rfl ((tlt q).2.2.1) ho hp k) (kt q)
  · exact Go.step (fun T locs X _ t k => XS.icmpNo X.here C.1 rfl (hb C.2.1 hd) rfl ((flt q).2.2.1) k) (kf q)
theorem g_if_gt (C : Cx p s m meth c Z code maxL own ret) {pc pcT pcF : Nat} {Ls : Array Slot} {st : List Value} {o : Int} {x : Int32} (hd : B1 code pc (.ifCond .gt o) o pcT pcF) (kt : 0 < x → Go p l e R s m args below meth c n0 K N Q h ck cn (mkF m pcT Ls st)) (kf : ¬ (0 < x) → Go p l e R s m args below meth c n0 K N Q h ck cn (mkF m pcF Ls st)) : Go p l e R s m args below meth c n0 K N Q h ck cn (mkF m pc Ls (.int x :: st)) := by
  obtain ⟨hd, rfl, ho, hp⟩ := hd
  by_cases q : 0 < x
  · exact Go.step (fun T locs X _ t k => XS.ifYes X.here C.1 rfl (pc0 := pc) rfl (hb C.2.1 hd) rfl ((if0 _ _).trans (tlt q).2.2.1) ho hp k) (kt q)
  · exact Go.step (fun T locs X _ t k => XS.ifNo X.here C.1 rfl (hb C.2.1 hd) rfl ((if0 _ _).trans (flt q).2.2.1) k) (kf q)
theorem g_ifl_gt (C : Cx p s m meth c Z code maxL own ret) {pc pcT pcF : Nat} {Ls : Array Slot} {st : List Value} {o : Int} {x y : Int64} (hd : B1 code pc (.ifCond .gt o) o pcT pcF) (kt : y < x → Go p l e R s m args below meth c n0 K N Q h ck cn (mkF m pcT Ls st)) (kf : ¬ (y < x) → Go p l e R s m args below meth c n0 K N Q h ck cn (mkF m pcF Ls st)) : Go p l e R s m args below meth c n0 K N Q h ck cn (mkF m pc Ls (.int (lcmpW x y) :: st)) := by
  obtain ⟨hd, rfl, ho, hp⟩ := hd
  by_cases q : y < x
  · exact Go.step (fun T locs X _ t k => XS.ifYes X.here C.1 rfl (pc0 := pc) rfl (hb C.2.1 hd) rfl ((if0 _ _).trans (tlt ((lw_gt x y).mpr q)).2.2.1) ho hp k) (kt q)
  · exact Go.step (fun T locs X _ t k => XS.ifNo X.here C.1 rfl (hb C.2.1 hd) rfl ((if0 _ _).trans (flt (fun z => q ((lw_gt x y).mp z))).2.2.1) k) (kf q)
theorem g_icmp_le (C : Cx p s m meth c Z code maxL own ret) {pc pcT pcF : Nat} {Ls : Array Slot} {st : List Value} {o : Int} {x y : Int32} (hd : B1 code pc (.if_icmp .le o) o pcT pcF) (kt : y < x → Go p l e R s m args below meth c n0 K N Q h ck cn (mkF m pcF Ls st)) (kf : ¬ (y < x) → Go p l e R s m args below meth c n0 K N Q h ck cn (mkF m pcT Ls st)) : Go p l e R s m args below meth c n0 K N Q h ck cn (mkF m pc Ls (.int y :: .int x :: st)) := by
  obtain ⟨hd, rfl, ho, hp⟩ := hd
  by_cases q : y < x
  · exact Go.step (fun T locs X _ t k => XS.icmpNo X.here C.1 rfl (hb C.2.1 hd) rfl ((tlt q).2.2.2) k) (kt q)
  · exact Go.step (fun T locs X _ t k => XS.icmpYes X.here C.1 rfl (pc0 := pc) rfl (hb C.2.1 hd) rfl ((flt q).2.2.2) ho hp k) (kf q)
theorem g_if_le (C : Cx p s m meth c Z code maxL own ret) {pc pcT pcF : Nat} {Ls : Array Slot} {st : List Value} {o : Int} {x : Int32} (hd : B1 code pc (.ifCond .le o) o pcT pcF) (kt : 0 < x → Go p l e R s m args below meth c n0 K N Q h ck cn (mkF m pcF Ls st)) (kf : ¬ (0 < x) → Go p l e R s m args below meth c n0 K N Q h ck cn (mkF m pcT Ls st)) : Go p l e R s m args below meth c n0 K N Q h ck cn (mkF m pc Ls (.int x :: st)) := by
  obtain ⟨hd, rfl, ho, hp⟩ := hd
  by_cases q : 0 < x
  · exact Go.step (fun T locs X _ t k => XS.ifNo X.here C.1 rfl (hb C.2.1 hd) rfl ((if0 _ _).trans (tlt q).2.2.2) k) (kt q)
  · exact Go.step (fun T locs X _ t k => XS.ifYes X.here C.1 rfl (pc0 := pc) rfl (hb C.2.1 hd) rfl ((if0 _ _).trans (flt q).2.2.2) ho hp k) (kf q)
theorem g_ifl_le (C : Cx p s m meth c Z code maxL own ret) {pc pcT pcF : Nat} {Ls : Array Slot} {st : List Value} {o : Int} {x y : Int64} (hd : B1 code pc (.ifCond .le o) o pcT pcF) (kt : y < x → Go p l e R s m args below meth c n0 K N Q h ck cn (mkF m pcF Ls st)) (kf : ¬ (y < x) → Go p l e R s m args below meth c n0 K N Q h ck cn (mkF m pcT Ls st)) : Go p l e R s m args below meth c n0 K N Q h ck cn (mkF m pc Ls (.int (lcmpW x y) :: st)) := by
  obtain ⟨hd, rfl, ho, hp⟩ := hd
  by_cases q : y < x
  · exact Go.step (fun T locs X _ t k => XS.ifNo X.here C.1 rfl (hb C.2.1 hd) rfl ((if0 _ _).trans (tlt ((lw_gt x y).mpr q)).2.2.2) k) (kt q)
  · exact Go.step (fun T locs X _ t k => XS.ifYes X.here C.1 rfl (pc0 := pc) rfl (hb C.2.1 hd) rfl ((if0 _ _).trans (flt (fun z => q ((lw_gt x y).mp z))).2.2.2) ho hp k) (kf q)
theorem g_icmp_eq (C : Cx p s m meth c Z code maxL own ret) {pc pcT pcF : Nat} {Ls : Array Slot} {st : List Value} {o : Int} {x y : Int32} (hd : B1 code pc (.if_icmp .eq o) o pcT pcF) (kt : x = y → Go p l e R s m args below meth c n0 K N Q h ck cn (mkF m pcT Ls st)) (kf : ¬ (x = y) → Go p l e R s m args below meth c n0 K N Q h ck cn (mkF m pcF Ls st)) : Go p l e R s m args below meth c n0 K N Q h ck cn (mkF m pc Ls (.int y :: .int x :: st)) := by
  obtain ⟨hd, rfl, ho, hp⟩ := hd
  by_cases q : x = y
  · exact Go.step (fun T locs X _ t k => XS.icmpYes X.here C.1 rfl (pc0 := pc) rfl (hb C.2.1 hd) rfl ((teq q).1) ho hp k) (kt q)
  · exact Go.step (fun T locs X _ t k => XS.icmpNo X.here C.1 rfl (hb C.2.1 hd) rfl ((feq q).1) k) (kf q)
theorem g_if_eq (C : Cx p s m meth c Z code maxL own ret) {pc pcT pcF : Nat} {Ls : Array Slot} {st : List Value} {o : Int} {x : Int32} (hd : B1 code pc (.ifCond .eq o) o pcT pcF) (kt : x = 0 → Go p l e R s m args below meth c n0 K N Q h ck cn (mkF m pcT Ls st)) (kf : ¬ (x = 0) → Go p l e R s m args below meth c n0 K N Q h ck cn (mkF m pcF Ls st)) : Go p l e R s m args below meth c n0 K N Q h ck cn (mkF m pc Ls (.int x :: st)) := by
  obtain ⟨hd, rfl, ho, hp⟩ := hd
  by_cases q : x = 0
  · exact Go.step (fun T locs X _ t k => XS.ifYes X.here C.1 rfl (pc0 := pc) rfl (hb C.2.1 hd) rfl ((if0 _ _).trans (teq q).1) ho hp k) (kt q)
  · exact Go.step (fun T locs X _ t k => XS.ifNo X.here C.1 rfl (hb C.2.1 hd) rfl ((if0 _ _).trans (feq q).1) k) (kf q)
theorem g_ifl_eq (C : Cx p s m meth c Z code maxL own ret) {pc pcT pcF : Nat} {Ls : Array Slot} {st : List Value} {o : Int} {x y : Int64} (hd : B1 code pc (.ifCond .eq o) o pcT pcF) (kt : x = y → Go p l e R s m args below meth c n0 K N Q h ck cn (mkF m pcT Ls st)) (kf : ¬ (x = y) → Go p l e R s m args below meth c n0 K N Q h ck cn (mkF m pcF Ls st)) : Go p l e R s m args below meth c n0 K N Q h ck cn (mkF m pc Ls (.int (lcmpW x y) :: st)) := by
  obtain ⟨hd, rfl, ho, hp⟩ := hd
  by_cases q : x = y
  · exact Go.step (fun T locs X _ t k => XS.ifYes X.here C.1 rfl (pc0 := pc) rfl (hb C.2.1 hd) rfl ((if0 _ _).trans (teq ((lw_eq x y).mpr q)).1) ho hp k) (kt q)
  · exact Go.step (fun T locs X _ t k => XS.ifNo X.here C.1 rfl (hb C.2.1 hd) rfl ((if0 _ _).trans (feq (fun z => q ((lw_eq x y).mp z))).1) k) (kf q)
theorem g_icmp_ne (C : Cx p s m meth c Z code maxL own ret) {pc pcT pcF : Nat} {Ls : Array Slot} {st : List Value} {o : Int} {x y : Int32} (hd : B1 code pc (.if_icmp .ne o) o pcT pcF) (kt : x = y → Go p l e R s m args below meth c n0 K N Q h ck cn (mkF m pcF Ls st)) (kf : ¬ (x = y) → Go p l e R s m args below meth c n0 K N Q h ck cn (mkF m pcT Ls st)) : Go p l e R s m args below meth c n0 K N Q h ck cn (mkF m pc Ls (.int y :: .int x :: st)) := by
  obtain ⟨hd, rfl, ho, hp⟩ := hd
  by_cases q : x = y
  · exact Go.step (fun T locs X _ t k => XS.icmpNo X.here C.1 rfl (hb C.2.1 hd) rfl ((teq q).2) k) (kt q)
  · exact Go.step (fun T locs X _ t k => XS.icmpYes X.here C.1 rfl (pc0 := pc) rfl (hb C.2.1 hd) rfl ((feq q).2) ho hp k) (kf q)
theorem g_if_ne (C : Cx p s m meth c Z code maxL own ret) {pc pcT pcF : Nat} {Ls : Array Slot} {st : List Value} {o : Int} {x : Int32} (hd : B1 code pc (.ifCond .ne o) o pcT pcF) (kt : x = 0 → Go p l e R s m args below meth c n0 K N Q h ck cn (mkF m pcF Ls st)) (kf : ¬ (x = 0) → Go p l e R s m args below meth c n0 K N Q h ck cn (mkF m pcT Ls st)) : Go p l e R s m args below meth c n0 K N Q h ck cn (mkF m pc Ls (.int x :: st)) := by
  obtain ⟨hd, rfl, ho, hp⟩ := hd
  by_cases q : x = 0
  · exact Go.step (fun T locs X _ t k => XS.ifNo X.here C.1 rfl (hb C.2.1 hd) rfl ((if0 _ _).trans (teq q).2) k) (kt q)
  · exact Go.step (fun T locs X _ t k => XS.ifYes X.here C.1 rfl (pc0 := pc) rfl (hb C.2.1 hd) rfl ((if0 _ _).trans (feq q).2) ho hp k) (kf q)
theorem g_ifl_ne (C : Cx p s m meth c Z code maxL own ret) {pc pcT pcF : Nat} {Ls : Array Slot} {st : List Value} {o : Int} {x y : Int64} (hd : B1 code pc (.ifCond .ne o) o pcT pcF) (kt : x = y → Go p l e R s m args below meth c n0 K N Q h ck cn (mkF m pcF Ls st)) (kf : ¬ (x = y) → Go p l e R s m args below meth c n0 K N Q h ck cn (mkF m pcT Ls st)) : Go p l e R s m args below meth c n0 K N Q h ck cn (mkF m pc Ls (.int (lcmpW x y) :: st)) := by
  obtain ⟨hd, rfl, ho, hp⟩ := hd
  by_cases q : x = y
  · exact Go.step (fun T locs X _ t k => XS.ifNo X.here C.1 rfl (hb C.2.1 hd) rfl ((if0 _ _).trans (teq ((lw_eq x y).mpr q)).2) k) (kt q)
  · exact Go.step (fun T locs X _ t k => XS.ifYes X.here C.1 rfl (pc0 := pc) rfl (hb C.2.1 hd) rfl ((if0 _ _).trans (feq (fun z => q ((lw_eq x y).mp z))).2) ho hp k) (kf q)
theorem g_ifnullN (C : Cx p s m meth c Z code maxL own ret) {pc pcT pcF : Nat} {Ls : Array Slot} {st : List Value} {o : Int} {b : Addr} (hd : B1 code pc (.ifnull o) o pcT pcF) (k : Go p l e R s m args below meth c n0 K N Q h ck cn (mkF m pcF Ls st)) : Go p l e R s m args below meth c n0 K N Q h ck cn (mkF m pc Ls (.ref b :: st)) := by
  obtain ⟨hd, rfl, ho, hp⟩ := hd
  exact Go.step (fun T locs X _ t k => XS.ifnullNo X.here C.1 rfl (hb C.2.1 hd) rfl k) k
theorem g_ifnullY (C : Cx p s m meth c Z code maxL own ret) {pc pcT pcF : Nat} {Ls : Array Slot} {st : List Value} {o : Int} (hd : B1 code pc (.ifnull o) o pcT pcF) (k : Go p l e R s m args below meth c n0 K N Q h ck cn (mkF m pcT Ls st)) : Go p l e R s m args below meth c n0 K N Q h ck cn (mkF m pc Ls (.null :: st)) := by
  obtain ⟨hd, rfl, ho, hp⟩ := hd
  exact Go.step (fun T locs X _ t k => XS.ifnullYes X.here C.1 rfl (pc0 := pc) rfl (hb C.2.1 hd) rfl ho hp k) k
theorem g_ifnonnullY (C : Cx p s m meth c Z code maxL own ret) {pc pcT pcF : Nat} {Ls : Array Slot} {st : List Value} {o : Int} {b : Addr} (hd : B1 code pc (.ifnonnull o) o pcT pcF) (k : Go p l e R s m args below meth c n0 K N Q h ck cn (mkF m pcT Ls st)) : Go p l e R s m args below meth c n0 K N Q h ck cn (mkF m pc Ls (.ref b :: st)) := by
  obtain ⟨hd, rfl, ho, hp⟩ := hd
  exact Go.step (fun T locs X _ t k => XS.ifnonnullYes X.here C.1 rfl (pc0 := pc) rfl (hb C.2.1 hd) rfl ho hp k) k
theorem g_ifnonnullN (C : Cx p s m meth c Z code maxL own ret) {pc pcT pcF : Nat} {Ls : Array Slot} {st : List Value} {o : Int} (hd : B1 code pc (.ifnonnull o) o pcT pcF) (k : Go p l e R s m args below meth c n0 K N Q h ck cn (mkF m pcF Ls st)) : Go p l e R s m args below meth c n0 K N Q h ck cn (mkF m pc Ls (.null :: st)) := by
  obtain ⟨hd, rfl, ho, hp⟩ := hd
  exact Go.step (fun T locs X _ t k => XS.ifnonnullNo X.here C.1 rfl (hb C.2.1 hd) rfl k) k
theorem g_acmp_eq (C : Cx p s m meth c Z code maxL own ret) {pc pcT pcF : Nat} {Ls : Array Slot} {st : List Value} {o : Int} {x y : Value} (h1 : x.isRef = true) (h2 : y.isRef = true) (hd : B1 code pc (.if_acmp .eq o) o pcT pcF) (kt : x = y → Go p l e R s m args below meth c n0 K N Q h ck cn (mkF m pcT Ls st)) (kf : ¬ x = y → Go p l e R s m args below meth c n0 K N Q h ck cn (mkF m pcF Ls st)) : Go p l e R s m args below meth c n0 K N Q h ck cn (mkF m pc Ls (y :: x :: st)) := by
  obtain ⟨hd, rfl, ho, rfl⟩ := hd
  by_cases q : x = y
  · exact Go.step (fun T locs X _ t k => Jvm.RoadKit.acmp X C.1 rfl h1 h2 (pc0 := pc) (same := true) rfl (hb C.2.1 hd) rfl (by simp [q]) ho rfl k) (kt q)
  · exact Go.step (fun T locs X _ t k => Jvm.RoadKit.acmp X C.1 rfl h1 h2 (pc0 := pc) (same := false) rfl (hb C.2.1 hd) rfl (by simp [q]) ho rfl k) (kf q)
theorem g_acmp_ne (C : Cx p s m meth c Z code maxL own ret) {pc pcT pcF : Nat} {Ls : Array Slot} {st : List Value} {o : Int} {x y : Value} (h1 : x.isRef = true) (h2 : y.isRef = true) (hd : B1 code pc (.if_acmp .ne o) o pcT pcF) (kt : x = y → Go p l e R s m args below meth c n0 K N Q h ck cn (mkF m pcF Ls st)) (kf : ¬ x = y → Go p l e R s m args below meth c n0 K N Q h ck cn (mkF m pcT Ls st)) : Go p l e R s m args below meth c n0 K N Q h ck cn (mkF m pc Ls (y :: x :: st)) := by
  obtain ⟨hd, rfl, ho, rfl⟩ := hd
  by_cases q : x = y
  · exact Go.step (fun T locs X _ t k => Jvm.RoadKit.acmp X C.1 rfl h1 h2 (pc0 := pc) (same := true) rfl (hb C.2.1 hd) rfl (by simp [q]) ho rfl k) (kt q)
  · exact Go.step (fun T locs X _ t k => Jvm.RoadKit.acmp X C.1 rfl h1 h2 (pc0 := pc) (same := false) rfl (hb C.2.1 hd) rfl (by simp [q]) ho rfl k) (kf q)
theorem ret0 {v : Option Value} {g : JFrame} (hlk : meth.locks = false) (hret : meth.sig.returnType = none → v = none) (hck : ck ≤ K) (hcn : cn ≤ N) (hQ : Q v h)
    (st : ∀ (T : State) (locs : List Loc) (fs : List Frame), Stand p l e R s m args below meth c T locs ck cn → (∀ (f : JFrame) (acts : List Action), f.method = m → f.locked = none → f.entered = [] → (doReturn e (T.setTop f) acts v).1 = T.setFrames fs) → Steps p.tables e below (T.setTop g) (T.setFrames fs)) :
    Go p l e R s m args below meth c n0 K N Q h ck cn g := fun T locs X eT hN => by
  obtain ⟨fs, hr, hrun, hended, hW, hsame⟩ := X.leave (v := v) hret hlk
  exact ⟨_, _, st T locs fs X hr, hrun, hended, v, locs, rfl, ⟨by show Q v T.heap; rw [eT]; exact hQ, hN⟩, ⟨_, rfl⟩, hW, hsame.mono hck hcn⟩
theorem g_retV (C : Cx p s m meth c Z code maxL own ret) {pc : Nat} {Ls : Array Slot} {pc' : Nat} (hd : I1 code pc .return_ 1 pc') (hret : ret = none) (hck : ck ≤ K) (hcn : cn ≤ N) (hQ : Q none h) : Go p l e R s m args below meth c n0 K N Q h ck cn (mkF m pc Ls []) := by
  obtain ⟨hd, -⟩ := hd
  exact ret0 C.2.2.2.2.2.2 (fun _ => rfl) hck hcn hQ (fun T locs fs X hr => X.returnOut C.1 (C.2.2.2.2.2.1.trans hret) (hb C.2.1 hd) hr)
theorem g_retInt (C : Cx p s m meth c Z code maxL own ret) {pc : Nat} {Ls : Array Slot} {pc' : Nat} {st : List Value} {z : Int32} (hd : I1 code pc .ireturn 1 pc') (hret : ret = some .int) (hck : ck ≤ K) (hcn : cn ≤ N) (hQ : Q (some (.int z)) h) : Go p l e R s m args below meth c n0 K N Q h ck cn (mkF m pc Ls (.int z :: st)) := by
  obtain ⟨hd, -⟩ := hd
  have hr' := C.2.2.2.2.2.1.trans hret
  exact ret0 C.2.2.2.2.2.2 (fun q => by rw [hr'] at q; cases q) hck hcn hQ (fun T locs fs X hr => retOut X C.1 hr' rfl (Or.inl ⟨rfl, Or.inl rfl, z, rfl⟩) (hb C.2.1 hd) hr)
theorem g_retLong (C : Cx p s m meth c Z code maxL own ret) {pc : Nat} {Ls : Array Slot} {pc' : Nat} {st : List Value} {z : Int64} (hd : I1 code pc .lreturn 1 pc') (hret : ret = some .long) (hck : ck ≤ K) (hcn : cn ≤ N) (hQ : Q (some (.long z)) h) : Go p l e R s m args below meth c n0 K N Q h ck cn (mkF m pc Ls (.long z :: st)) := by
  obtain ⟨hd, -⟩ := hd
  have hr' := C.2.2.2.2.2.1.trans hret
  exact ret0 C.2.2.2.2.2.2 (fun q => by rw [hr'] at q; cases q) hck hcn hQ (fun T locs fs X hr => retOut X C.1 hr' rfl (Or.inr (Or.inl ⟨rfl, rfl, z, rfl⟩)) (hb C.2.1 hd) hr)
theorem g_retDouble (C : Cx p s m meth c Z code maxL own ret) {pc : Nat} {Ls : Array Slot} {pc' : Nat} {st : List Value} {z : UInt64} (hd : I1 code pc .dreturn 1 pc') (hret : ret = some .double) (hck : ck ≤ K) (hcn : cn ≤ N) (hQ : Q (some (.double z)) h) : Go p l e R s m args below meth c n0 K N Q h ck cn (mkF m pc Ls (.double z :: st)) := by
  obtain ⟨hd, -⟩ := hd
  have hr' := C.2.2.2.2.2.1.trans hret
  exact ret0 C.2.2.2.2.2.2 (fun q => by rw [hr'] at q; cases q) hck hcn hQ (fun T locs fs X hr => retOut X C.1 hr' rfl (Or.inr (Or.inr (Or.inl ⟨rfl, rfl, z, rfl⟩))) (hb C.2.1 hd) hr)
theorem nar_ref {t : FieldType} {v : Value} (hv : v.isRef = true) : narrow t v = v := by
  rcases ref_cases hv with rfl | ⟨a, rfl⟩ <;> cases t <;> rfl
theorem g_retRef (C : Cx p s m meth c Z code maxL own ret) {pc : Nat} {Ls : Array Slot} {pc' : Nat} {st : List Value} {v : Value} {t : FieldType} (hd : I1 code pc .areturn 1 pc') (hret : ret = some t) (ht : t.isReference = true) (hv : v.isRef = true) (hck : ck ≤ K) (hcn : cn ≤ N) (hQ : Q (some v) h) : Go p l e R s m args below meth c n0 K N Q h ck cn (mkF m pc Ls (v :: st)) := by
  obtain ⟨hd, -⟩ := hd
  have hr' := C.2.2.2.2.2.1.trans hret
  exact ret0 C.2.2.2.2.2.2 (fun q => by rw [hr'] at q; cases q) hck hcn hQ (fun T locs fs X hr => retOut X C.1 hr' (nar_ref hv) (Or.inr (Or.inr (Or.inr (Or.inr ⟨rfl, ht, hv⟩)))) (hb C.2.1 hd) hr)
theorem g_retNar (C : Cx p s m meth c Z code maxL own ret) {pc : Nat} {Ls : Array Slot} {pc' : Nat} {st : List Value} {z : Int32} {t : FieldType} (hd : I1 code pc .ireturn 1 pc') (hret : ret = some t) (ht : t = .boolean ∨ t = .byte ∨ t = .char ∨ t = .short) (hck : ck ≤ K) (hcn : cn ≤ N) (hQ : Q (some (.int (nar t z))) h) : Go p l e R s m args below meth c n0 K N Q h ck cn (mkF m pc Ls (.int z :: st)) := by
  obtain ⟨hd, -⟩ := hd
  have hr' := C.2.2.2.2.2.1.trans hret
  exact ret0 C.2.2.2.2.2.2 (fun q => by rw [hr'] at q; cases q) hck hcn hQ (fun T locs fs X hr => retN X C.1 hr' ht (hb C.2.1 hd) hr)
theorem g_getF (C : Cx p s m meth c Z code maxL own ret) {pc pc' : Nat} {Ls : Array Slot} {st : List Value} {R0 O n d host : String} {index : Nat} {a : Addr} {v : Value} (hd : I1 code pc (.getfield index) 3 pc') (w : (Cond.fieldLink own index R0 n d).before a0 Z = true ∨ (Cond.fieldLinkNest own index R0 n d host).before a0 Z = true) (via : Via Z R0 O n d) (F : Fld Z h a O n d v)
    (k : Go p l e R s m args below meth c n0 K N Q h ck cn (mkF m pc' Ls (v :: st))) : Go p l e R s m args below meth c n0 K N Q h ck cn (mkF m pc Ls (.ref a :: st)) := fun T locs X eT hN => by
  obtain ⟨hd, rfl⟩ := hd
  obtain ⟨T', X', e', st'⟩ := Jvm.RoadKit.getF X C.1 C.2.2.2.1 C.2.2.2.2.1 w via eT F (g := mkF m pc Ls (.ref a :: st)) rfl rfl (hb C.2.1 hd)
  exact Go.move hN X' e' hN st' k
theorem g_getS (C : Cx p s m meth c Z code maxL own ret) {pc pc' : Nat} {Ls : Array Slot} {st : List Value} {R0 O n d host : String} {index : Nat} {v : Value} (hd : I1 code pc (.getstatic index) 3 pc') (w : (Cond.fieldLink own index R0 n d).before a0 Z = true ∨ (Cond.fieldLinkNest own index R0 n d host).before a0 Z = true) (via : Via Z R0 O n d) (F : Sta Z h O n d v)
    (k : Go p l e R s m args below meth c n0 K N Q h ck cn (mkF m pc' Ls (v :: st))) : Go p l e R s m args below meth c n0 K N Q h ck cn (mkF m pc Ls st) := fun T locs X eT hN => by
  obtain ⟨hd, rfl⟩ := hd
  obtain ⟨T', X', e', st'⟩ := Jvm.RoadKit.getS2 X C.1 C.2.2.2.1 C.2.2.2.2.1 w via eT F (g := mkF m pc Ls st) rfl (hb C.2.1 hd)
  exact Go.move hN X' e' hN st' k
theorem g_putF (C : Cx p s m meth c Z code maxL own ret) {pc pc' : Nat} {Ls : Array Slot} {st : List Value} {R0 O n d host Cl : String} {index kk : Nat} {ty : FieldType} {a : Addr} {v old : Value} (hd : I1 code pc (.putfield index) 3 pc') (w : (Cond.fieldLink own index R0 n d).before a0 Z = true ∨ (Cond.fieldLinkNest own index R0 n d host).before a0 Z = true) (via : Via Z R0 O n d) (F : Fld Z h a O n d old) (E : Exa Z h a Cl)
    (L : (Cond.lays Cl O n d).before a0 Z = true ∨ ((Cond.laysFinal Cl O n d).before a0 Z = true ∧ own = O ∧ meth.name = "<init>")) (wi : (Cond.instantiable Cl kk).before a0 Z = true) (hty : parseFieldDescriptor d = some ty) (hn : narrow ty v = v) (hf : fits ty v = true) (ha : n0 ≤ a)
    (k : ∀ h', Wr h h' a (Jvm.RoadKit.slotOf Z O n d) v → Go p l e R s m args below meth c n0 K N Q h' ck cn (mkF m pc' Ls st)) : Go p l e R s m args below meth c n0 K N Q h ck cn (mkF m pc Ls (v :: .ref a :: st)) := fun T locs X eT hN => by
  obtain ⟨hd, rfl⟩ := hd
  obtain ⟨T', h', X', e', W, st'⟩ := Jvm.RoadKit.putF X C.1 C.2.2.2.1 C.2.2.2.2.1 w via eT F E L wi hty hn hf (g := mkF m pc Ls (v :: .ref a :: st)) rfl rfl (hb C.2.1 hd)
  exact Go.move hN X' e' (Fr.snoc X' hN ha) st' (k h' W)
theorem g_putFN (C : Cx p s m meth c Z code maxL own ret) {pc pc' : Nat} {Ls : Array Slot} {st : List Value} {R0 O n d Cl : String} {index kk : Nat} {ty : FieldType} {a : Addr} {v v' old : Value} (hd : I1 code pc (.putfield index) 3 pc') (w : (Cond.fieldLink own index R0 n d).before a0 Z = true) (via : Via Z R0 O n d) (F : Fld Z h a O n d old) (E : Exa Z h a Cl)
    (L : (Cond.lays Cl O n d).before a0 Z = true ∨ ((Cond.laysFinal Cl O n d).before a0 Z = true ∧ own = O ∧ meth.name = "<init>")) (wi : (Cond.instantiable Cl kk).before a0 Z = true) (hty : parseFieldDescriptor d = some ty) (hn : narrow ty v = v') (hf : fits ty v' = true) (ha : n0 ≤ a)
    (k : ∀ h', Wr h h' a (Jvm.RoadKit.slotOf Z O n d) v' → Go p l e R s m args below meth c n0 K N Q h' ck cn (mkF m pc' Ls st)) : Go p l e R s m args below meth c n0 K N Q h ck cn (mkF m pc Ls (v :: .ref a :: st)) := fun T locs X eT hN => by
  obtain ⟨hd, rfl⟩ := hd
  obtain ⟨T', h', X', e', W, st'⟩ := Jvm.RoadKit.putFN X C.1 C.2.2.2.1 C.2.2.2.2.1 w via eT F E L wi hty hn hf (g := mkF m pc Ls (v :: .ref a :: st)) rfl rfl (hb C.2.1 hd)
  exact Go.move hN X' e' (Fr.snoc X' hN ha) st' (k h' W)
theorem g_newO (C : Cx p s m meth c Z code maxL own ret) {pc pc' : Nat} {Ls : Array Slot} {st : List Value} {Cl : String} {index n : Nat} (hd : I1 code pc (.new index) 3 pc') (w : (Cond.classLink own index Cl).before a0 Z = true) (wi : (Cond.instantiable Cl n).before a0 Z = true) (wz : (Cond.initialized Cl).before a0 Z = true) (hc : ck + 1 ≤ R.cells) (hl : cn + n ≤ R.slots) {ck' cn' : Nat} (hck : ck + 1 = ck') (hcn : cn + n = cn')
    (k : ∀ (h' : Heap) (a : Addr), a = h.size → Ext h h' → Exa Z h' a Cl → (∀ {O nm d : String} {ty : FieldType}, Laid Z a0 Cl O nm d → parseFieldDescriptor d = some ty → Fld Z h' a O nm d (defaultValue ty)) → Go p l e R s m args below meth c n0 K N Q h' ck' cn' (mkF m pc' Ls (.ref a :: st))) : Go p l e R s m args below meth c n0 K N Q h ck cn (mkF m pc Ls st) := fun T locs X eT hN => by
  obtain ⟨hd, rfl⟩ := hd
  subst hck hcn
  obtain ⟨T', h', X', e', E, A, D, -, st'⟩ := Jvm.RoadKit.newO X C.1 C.2.2.2.1 C.2.2.2.2.1 w wi wz eT (g := mkF m pc Ls st) rfl (hb C.2.1 hd) hc hl
  exact Go.move hN X' e' hN st' (k h' _ rfl E A D)
theorem g_initO (C : Cx p s m meth c Z code maxL own ret) {pc pc' : Nat} {Ls : Array Slot} {st : List Value} {a : Addr} {idx : Nat} (hd : I1 code pc (.invokespecial idx) 3 pc') (w1 : (Cond.methodLink own idx Lib.objectInit).before a0 Z = true) (w2 : (Cond.instanceMethod Lib.objectInit).before a0 Z = true) (w3 : (Cond.code Lib.objectInit ⟨#[0xb1]⟩ 1 none).before a0 Z = true) (hsz : Ls.size = maxL)
    (hf : 1 ≤ R.frames) (W : Nat) (hW : 2 * 0 + (st.map fun v => v.category).sum ≤ W) (hl : W + 12 ≤ R.locals) (k : Go p l e R s m args below meth c n0 K N Q h ck cn (mkF m pc' Ls st)) : Go p l e R s m args below meth c n0 K N Q h ck cn (mkF m pc Ls (.ref a :: st)) := fun T locs X eT hN => by
  obtain ⟨hd, rfl⟩ := hd
  obtain ⟨T', X', e', st'⟩ := Jvm.RoadKit.initO X C.1 C.2.2.2.1 C.2.2.2.2.1 w1 w2 w3 eT (g := mkF m pc Ls (.ref a :: st)) rfl (hsz.trans C.2.2.1.symm) rfl (hb C.2.1 hd) hf (W := W) hW hl
  exact Go.move hN X' e' hN st' k
theorem g_castY (C : Cx p s m meth c Z code maxL own ret) {pc pc' : Nat} {Ls : Array Slot} {st : List Value} {Kl : String} {index : Nat} {a : Addr} (hd : I1 code pc (.checkcast index) 3 pc') (w : (Cond.classLink own index Kl).before a0 Z = true) (F : Ins Z h a Kl true) (k : Go p l e R s m args below meth c n0 K N Q h ck cn (mkF m pc' Ls (.ref a :: st))) : Go p l e R s m args below meth c n0 K N Q h ck cn (mkF m pc Ls (.ref a :: st)) := fun T locs X eT hN => by
  obtain ⟨hd, rfl⟩ := hd
  obtain ⟨T', X', e', st'⟩ := Jvm.RoadKit.castY X C.1 C.2.2.2.1 C.2.2.2.2.1 w eT F (g := mkF m pc Ls (.ref a :: st)) rfl rfl (hb C.2.1 hd)
  exact Go.move hN X' e' hN st' k
theorem g_castNull (C : Cx p s m meth c Z code maxL own ret) {pc pc' : Nat} {Ls : Array Slot} {st : List Value} {index : Nat} (hd : I1 code pc (.checkcast index) 3 pc') (k : Go p l e R s m args below meth c n0 K N Q h ck cn (mkF m pc' Ls (.null :: st))) : Go p l e R s m args below meth c n0 K N Q h ck cn (mkF m pc Ls (.null :: st)) := by
  obtain ⟨hd, rfl⟩ := hd
  exact Go.step (fun T locs X _ t k => X.checkcastNull C.1 (g := mkF m pc Ls (.null :: st)) rfl rfl (hb C.2.1 hd) _ k) k
theorem g_instY (C : Cx p s m meth c Z code maxL own ret) {pc pc' : Nat} {Ls : Array Slot} {st : List Value} {Kl : String} {index : Nat} {a : Addr} (hd : I1 code pc (.instanceof index) 3 pc') (w : (Cond.classLink own index Kl).before a0 Z = true) (F : Ins Z h a Kl true) (k : Go p l e R s m args below meth c n0 K N Q h ck cn (mkF m pc' Ls (.int 1 :: st))) : Go p l e R s m args below meth c n0 K N Q h ck cn (mkF m pc Ls (.ref a :: st)) := fun T locs X eT hN => by
  obtain ⟨hd, rfl⟩ := hd
  obtain ⟨T', X', e', st'⟩ := Jvm.RoadKit.instY X C.1 C.2.2.2.1 C.2.2.2.2.1 w eT F (g := mkF m pc Ls (.ref a :: st)) rfl rfl (hb C.2.1 hd)
  exact Go.move hN X' e' hN st' k
theorem g_instNo (C : Cx p s m meth c Z code maxL own ret) {pc pc' : Nat} {Ls : Array Slot} {st : List Value} {Kl Cl : String} {index : Nat} {a : Addr} (hd : I1 code pc (.instanceof index) 3 pc') (w : (Cond.classLink own index Kl).before a0 Z = true) (E : Exa Z h a Cl) (F : ∃ c t, Z.vm.findClass Cl = some c ∧ Z.vm.findClass Kl = some t ∧ Z.vm.assignable c t = false) (k : Go p l e R s m args below meth c n0 K N Q h ck cn (mkF m pc' Ls (.int 0 :: st))) : Go p l e R s m args below meth c n0 K N Q h ck cn (mkF m pc Ls (.ref a :: st)) := fun T locs X eT hN => by
  obtain ⟨hd, rfl⟩ := hd
  obtain ⟨T', X', e', st'⟩ := Jvm.RoadKit.instNo X C.1 C.2.2.2.1 C.2.2.2.2.1 w eT E F (g := mkF m pc Ls (.ref a :: st)) rfl rfl (hb C.2.1 hd)
  exact Go.move hN X' e' hN st' k
theorem g_instNull (C : Cx p s m meth c Z code maxL own ret) {pc pc' : Nat} {Ls : Array Slot} {st : List Value} {index : Nat} (hd : I1 code pc (.instanceof index) 3 pc') (k : Go p l e R s m args below meth c n0 K N Q h ck cn (mkF m pc' Ls (.int 0 :: st))) : Go p l e R s m args below meth c n0 K N Q h ck cn (mkF m pc Ls (.null :: st)) := by
  obtain ⟨hd, rfl⟩ := hd
  exact Go.step (fun T locs X _ t k => X.instanceofNull C.1 (g := mkF m pc Ls (.null :: st)) rfl rfl (hb C.2.1 hd) _ k) k
/-- an array of n places: what each holds -/
def AV (Z : State) (h : Heap) (a : Addr) (ty : FieldType) (n : Nat) (f : Nat → Value) : Prop := ∃ c : Cell, Arr Z h a c ty ∧ c.slots.size = n ∧ n < 2 ^ 31 ∧ ∀ i, i < n → c.slots[i]? = some (f i)
theorem AV.lt {a : Addr} {ty : FieldType} {n : Nat} {f : Nat → Value} (F : AV Z h a ty n f) : a < h.size := by obtain ⟨c, A, -⟩ := F; exact A.lt
theorem AV.ext {h' : Heap} {a : Addr} {ty : FieldType} {n : Nat} {f : Nat → Value} (F : AV Z h a ty n f) (E : Ext h h') : AV Z h' a ty n f := by obtain ⟨c, A, r⟩ := F; exact ⟨c, A.ext E, r⟩
theorem AV.other {h' : Heap} {a b : Addr} {sl : Nat} {v : Value} {ty : FieldType} {n : Nat} {f : Nat → Value} (F : AV Z h b ty n f) (W : Wr h h' a sl v) (q : b ≠ a) : AV Z h' b ty n f := by obtain ⟨c, A, r⟩ := F; exact ⟨c, A.other W q, r⟩
theorem AV.keep {h' : Heap} {ws : List Addr} {a : Addr} {ty : FieldType} {n : Nat} {f : Nat → Value} (F : AV Z h a ty n f) (K : Keep h h' ws) (q : a ∉ ws) : AV Z h' a ty n f := by obtain ⟨c, A, r⟩ := F; exact ⟨c, ⟨K.2.1 a c A.1 q, A.2⟩, r⟩
theorem AV.congr {a : Addr} {ty : FieldType} {n : Nat} {f g : Nat → Value} (F : AV Z h a ty n f) (q : ∀ i, i < n → f i = g i) : AV Z h a ty n g := by obtain ⟨c, A, r1, r2, r3⟩ := F; exact ⟨c, A, r1, r2, fun i hi => by rw [← q i hi]; exact r3 i hi⟩
theorem AV.ofNew {a : Addr} {ty : FieldType} {cA : ClassId} {z : Int32} (A : Arr Z h a (newA cA ty z) ty) (q : ¬ z < 0) : AV Z h a ty z.toNatClampNeg (fun _ => defaultValue ty) :=
  ⟨_, A, sz_new _ _ _, (back32 q).2, fun i hi => by simp [newA, hi]⟩
theorem AV.set {h' : Heap} {a : Addr} {ty : FieldType} {n : Nat} {f : Nat → Value} {j : Nat} {v : Value} (F : AV Z h a ty n f) (W : Wr h h' a j v) : AV Z h' a ty n (fun i => if i = j then v else f i) := by
  obtain ⟨c, A, r1, r2, r3⟩ := F
  obtain ⟨cell, w1, w2, w3, w4⟩ := W
  cases w1.symm.trans A.1
  refine ⟨c.setSlot j v, A.same ⟨c, w1, w2, w3, w4⟩, by rw [sz_set, r1], r2, fun i hi => ?_⟩
  by_cases q : i = j
  · subst q; simp [Cell.setSlot, w3]
  · simp only [q, if_false]; rw [← r3 i hi]; exact Array.getElem?_setIfInBounds_ne (Ne.symm q)
/-- the place lies inside -/
def Inb (j : Int32) (n : Nat) : Prop := ¬ j < 0 ∧ j.toNatClampNeg < n
theorem Inb.not {j : Int32} {n : Nat} (q : Inb j n) : ¬ (j < 0 ∨ n ≤ j.toNatClampNeg) := fun r => r.elim q.1 (fun z => Nat.not_lt.mpr z q.2)
theorem inb_int {j : Int32} {n : Nat} (h1 : 0 ≤ j.toInt) (h2 : j.toInt < n) : Inb j n := ⟨by simp only [Int32.lt_iff_toInt_lt, Int32.reduceToInt]; omega, by simp only [Int32.toNatClampNeg]; omega⟩
theorem g_newP (C : Cx p s m meth c Z code maxL own ret) {pc pc' : Nat} {Ls : Array Slot} {st : List Value} {aty : ArrayType} {n : Int32} (hd : I1 code pc (.newarray aty) 2 pc') (w : (Cond.arrayClass (newarray.typeOf aty)).before a0 Z = true) (hn : ¬ n < 0) (cap : Nat) (hcap : n.toNatClampNeg ≤ cap) (hb8 : cap * 8 ≤ 536870912) (hc : ck + 1 ≤ R.cells) (hl : cn + cap ≤ R.slots) {ck' cn' : Nat} (hck : ck + 1 = ck') (hcn : cn + cap = cn')
    (k : ∀ (h' : Heap) (a : Addr), a = h.size → Ext h h' → AV Z h' a (newarray.typeOf aty) n.toNatClampNeg (fun _ => defaultValue (newarray.typeOf aty)) → Go p l e R s m args below meth c n0 K N Q h' ck' cn' (mkF m pc' Ls (.ref a :: st))) : Go p l e R s m args below meth c n0 K N Q h ck cn (mkF m pc Ls (.int n :: st)) := fun T locs X eT hN => by
  obtain ⟨hd, rfl⟩ := hd
  subst hck hcn
  obtain ⟨T', h', cA, X', e', E, A, st'⟩ := Jvm.RoadKit.newP X C.1 C.2.2.2.1 w eT (g := mkF m pc Ls (.int n :: st)) rfl (hb C.2.1 hd) rfl hn hcap hb8 hc hl
  exact Go.move hN X' e' hN st' (k h' _ rfl E (AV.ofNew A hn))
theorem g_alen (C : Cx p s m meth c Z code maxL own ret) {pc pc' : Nat} {Ls : Array Slot} {st : List Value} {a : Addr} {ty : FieldType} {n : Nat} {f : Nat → Value} (z : Int32) (hd : I1 code pc .arraylength 1 pc') (F : AV Z h a ty n f) (hz : n.toInt32 = z) (k : Go p l e R s m args below meth c n0 K N Q h ck cn (mkF m pc' Ls (.int z :: st))) : Go p l e R s m args below meth c n0 K N Q h ck cn (mkF m pc Ls (.ref a :: st)) := by
  obtain ⟨hd, rfl⟩ := hd
  obtain ⟨cl, A, r1, r2, r3⟩ := F
  subst hz
  exact Go.step (fun T locs X eT t k => X.arraylength C.1 (by rw [eT]; exact A.1) (State.isArrayOf_alike C.2.2.2.1.alike A.2.1) (g := mkF m pc Ls (.ref a :: st)) rfl rfl (hb C.2.1 hd) _ (by rw [r1]; exact k)) k
theorem g_iald (C : Cx p s m meth c Z code maxL own ret) {pc pc' : Nat} {Ls : Array Slot} {st : List Value} {a : Addr} {j : Int32} {n : Nat} {f : Nat → Value} (v : Value) (hd : I1 code pc .iaload 1 pc') (F : AV Z h a .int n f) (hj : Inb j n) (hv : f j.toNatClampNeg = v) (k : Go p l e R s m args below meth c n0 K N Q h ck cn (mkF m pc' Ls (v :: st))) : Go p l e R s m args below meth c n0 K N Q h ck cn (mkF m pc Ls (.int j :: .ref a :: st)) := by
  obtain ⟨hd, rfl⟩ := hd
  obtain ⟨cl, A, r1, r2, r3⟩ := F
  subst hv
  exact Go.step (fun T locs X eT t k => X.iaload C.1 (by rw [eT]; exact A.1) (State.isArrayOf_alike C.2.2.2.1.alike A.2.1) A.2.2 (by rw [r1]; exact hj.not) (r3 _ hj.2) (g := mkF m pc Ls (.int j :: .ref a :: st)) rfl rfl (hb C.2.1 hd) _ k) k
theorem g_lald (C : Cx p s m meth c Z code maxL own ret) {pc pc' : Nat} {Ls : Array Slot} {st : List Value} {a : Addr} {j : Int32} {n : Nat} {f : Nat → Value} (v : Value) (hd : I1 code pc .laload 1 pc') (F : AV Z h a .long n f) (hj : Inb j n) (hv : f j.toNatClampNeg = v) (k : Go p l e R s m args below meth c n0 K N Q h ck cn (mkF m pc' Ls (v :: st))) : Go p l e R s m args below meth c n0 K N Q h ck cn (mkF m pc Ls (.int j :: .ref a :: st)) := by
  obtain ⟨hd, rfl⟩ := hd
  obtain ⟨cl, A, r1, r2, r3⟩ := F
  subst hv
  exact Go.step (fun T locs X eT t k => X.laload C.1 (by rw [eT]; exact A.1) (State.isArrayOf_alike C.2.2.2.1.alike A.2.1) A.2.2 (by rw [r1]; exact hj.not) (r3 _ hj.2) (g := mkF m pc Ls (.int j :: .ref a :: st)) rfl rfl (hb C.2.1 hd) _ k) k
theorem g_cald (C : Cx p s m meth c Z code maxL own ret) {pc pc' : Nat} {Ls : Array Slot} {st : List Value} {a : Addr} {j : Int32} {n : Nat} {f : Nat → Value} (v : Value) (hd : I1 code pc .caload 1 pc') (F : AV Z h a .char n f) (hj : Inb j n) (hv : f j.toNatClampNeg = v) (k : Go p l e R s m args below meth c n0 K N Q h ck cn (mkF m pc' Ls (v :: st))) : Go p l e R s m args below meth c n0 K N Q h ck cn (mkF m pc Ls (.int j :: .ref a :: st)) := by
  obtain ⟨hd, rfl⟩ := hd
  obtain ⟨cl, A, r1, r2, r3⟩ := F
  subst hv
  exact Go.step (fun T locs X eT t k => X.caload C.1 (by rw [eT]; exact A.1) (State.isArrayOf_alike C.2.2.2.1.alike A.2.1) A.2.2 (by rw [r1]; exact hj.not) (r3 _ hj.2) (g := mkF m pc Ls (.int j :: .ref a :: st)) rfl rfl (hb C.2.1 hd) _ k) k
theorem g_sald (C : Cx p s m meth c Z code maxL own ret) {pc pc' : Nat} {Ls : Array Slot} {st : List Value} {a : Addr} {j : Int32} {n : Nat} {f : Nat → Value} (v : Value) (hd : I1 code pc .saload 1 pc') (F : AV Z h a .short n f) (hj : Inb j n) (hv : f j.toNatClampNeg = v) (k : Go p l e R s m args below meth c n0 K N Q h ck cn (mkF m pc' Ls (v :: st))) : Go p l e R s m args below meth c n0 K N Q h ck cn (mkF m pc Ls (.int j :: .ref a :: st)) := by
  obtain ⟨hd, rfl⟩ := hd
  obtain ⟨cl, A, r1, r2, r3⟩ := F
  subst hv
  exact Go.step (fun T locs X eT t k => X.saload C.1 (by rw [eT]; exact A.1) (State.isArrayOf_alike C.2.2.2.1.alike A.2.1) A.2.2 (by rw [r1]; exact hj.not) (r3 _ hj.2) (g := mkF m pc Ls (.int j :: .ref a :: st)) rfl rfl (hb C.2.1 hd) _ k) k
theorem g_bald (C : Cx p s m meth c Z code maxL own ret) {pc pc' : Nat} {Ls : Array Slot} {st : List Value} {a : Addr} {j : Int32} {n : Nat} {f : Nat → Value} (v : Value) (hd : I1 code pc .baload 1 pc') (F : AV Z h a .byte n f) (hj : Inb j n) (hv : f j.toNatClampNeg = v) (k : Go p l e R s m args below meth c n0 K N Q h ck cn (mkF m pc' Ls (v :: st))) : Go p l e R s m args below meth c n0 K N Q h ck cn (mkF m pc Ls (.int j :: .ref a :: st)) := by
  obtain ⟨hd, rfl⟩ := hd
  obtain ⟨cl, A, r1, r2, r3⟩ := F
  subst hv
  exact Go.step (fun T locs X eT t k => X.baloadBytes C.1 (by rw [eT]; exact A.1) (State.isArrayOf_alike C.2.2.2.1.alike A.2.1) A.2.2 (by rw [r1]; exact hj.not) (r3 _ hj.2) (g := mkF m pc Ls (.int j :: .ref a :: st)) rfl rfl (hb C.2.1 hd) _ k) k
theorem g_zald (C : Cx p s m meth c Z code maxL own ret) {pc pc' : Nat} {Ls : Array Slot} {st : List Value} {a : Addr} {j : Int32} {n : Nat} {f : Nat → Value} (v : Value) (hd : I1 code pc .baload 1 pc') (F : AV Z h a .boolean n f) (hj : Inb j n) (hv : f j.toNatClampNeg = v) (k : Go p l e R s m args below meth c n0 K N Q h ck cn (mkF m pc' Ls (v :: st))) : Go p l e R s m args below meth c n0 K N Q h ck cn (mkF m pc Ls (.int j :: .ref a :: st)) := by
  obtain ⟨hd, rfl⟩ := hd
  obtain ⟨cl, A, r1, r2, r3⟩ := F
  subst hv
  exact Go.step (fun T locs X eT t k => X.baloadBooleans C.1 (by rw [eT]; exact A.1) (State.isArrayOf_alike C.2.2.2.1.alike A.2.1) A.2.2 (by rw [r1]; exact hj.not) (r3 _ hj.2) (g := mkF m pc Ls (.int j :: .ref a :: st)) rfl rfl (hb C.2.1 hd) _ k) k
theorem g_aald (C : Cx p s m meth c Z code maxL own ret) {pc pc' : Nat} {Ls : Array Slot} {st : List Value} {a : Addr} {j : Int32} {ty : FieldType} {n : Nat} {f : Nat → Value} (v : Value) (hd : I1 code pc .aaload 1 pc') (F : AV Z h a ty n f) (hj : Inb j n) (hv : f j.toNatClampNeg = v) (ht : ty.isReference = true) (k : Go p l e R s m args below meth c n0 K N Q h ck cn (mkF m pc' Ls (v :: st))) : Go p l e R s m args below meth c n0 K N Q h ck cn (mkF m pc Ls (.int j :: .ref a :: st)) := by
  obtain ⟨hd, rfl⟩ := hd
  obtain ⟨cl, A, r1, r2, r3⟩ := F
  subst hv
  exact Go.step (fun T locs X eT t k => X.aaload C.1 (by rw [eT]; exact A.1) (State.isArrayOf_alike C.2.2.2.1.alike A.2.1) ht A.2.2 (by rw [r1]; exact hj.not) (r3 _ hj.2) (g := mkF m pc Ls (.int j :: .ref a :: st)) rfl rfl (hb C.2.1 hd) _ k) k
theorem g_iast (C : Cx p s m meth c Z code maxL own ret) {pc pc' : Nat} {Ls : Array Slot} {st : List Value} {a : Addr} {j : Int32} {x : Int32} {n : Nat} {f : Nat → Value} (hd : I1 code pc .iastore 1 pc') (F : AV Z h a .int n f) (hj : Inb j n) (ha : n0 ≤ a)
    (k : ∀ h', Wr h h' a j.toNatClampNeg (.int x) → AV Z h' a .int n (fun i => if i = j.toNatClampNeg then .int x else f i) → Go p l e R s m args below meth c n0 K N Q h' ck cn (mkF m pc' Ls st)) : Go p l e R s m args below meth c n0 K N Q h ck cn (mkF m pc Ls (.int x :: .int j :: .ref a :: st)) := fun T locs X eT hN => by
  obtain ⟨hd, rfl⟩ := hd
  have F' := F
  obtain ⟨cl, A, r1, r2, r3⟩ := F
  obtain ⟨T', h', X', e', W, st'⟩ := Jvm.RoadKit.stI X C.1 C.2.2.2.1 eT A (by rw [r1]; exact hj.not) (g := mkF m pc Ls (.int x :: .int j :: .ref a :: st)) rfl rfl (hb C.2.1 hd)
  exact Go.move hN X' e' (Fr.snoc X' hN ha) st' (k h' W (F'.set W))
theorem g_last (C : Cx p s m meth c Z code maxL own ret) {pc pc' : Nat} {Ls : Array Slot} {st : List Value} {a : Addr} {j : Int32} {x : Int64} {n : Nat} {f : Nat → Value} (hd : I1 code pc .lastore 1 pc') (F : AV Z h a .long n f) (hj : Inb j n) (ha : n0 ≤ a)
    (k : ∀ h', Wr h h' a j.toNatClampNeg (.long x) → AV Z h' a .long n (fun i => if i = j.toNatClampNeg then .long x else f i) → Go p l e R s m args below meth c n0 K N Q h' ck cn (mkF m pc' Ls st)) : Go p l e R s m args below meth c n0 K N Q h ck cn (mkF m pc Ls (.long x :: .int j :: .ref a :: st)) := fun T locs X eT hN => by
  obtain ⟨hd, rfl⟩ := hd
  have F' := F
  obtain ⟨cl, A, r1, r2, r3⟩ := F
  obtain ⟨T', h', X', e', W, st'⟩ := Jvm.RoadKit.stJ X C.1 C.2.2.2.1 eT A (by rw [r1]; exact hj.not) (g := mkF m pc Ls (.long x :: .int j :: .ref a :: st)) rfl rfl (hb C.2.1 hd)
  exact Go.move hN X' e' (Fr.snoc X' hN ha) st' (k h' W (F'.set W))
theorem g_cast (C : Cx p s m meth c Z code maxL own ret) {pc pc' : Nat} {Ls : Array Slot} {st : List Value} {a : Addr} {j : Int32} {x : Int32} {n : Nat} {f : Nat → Value} (hd : I1 code pc .castore 1 pc') (F : AV Z h a .char n f) (hj : Inb j n) (ha : n0 ≤ a)
    (k : ∀ h', Wr h h' a j.toNatClampNeg (.int (nar .char x)) → AV Z h' a .char n (fun i => if i = j.toNatClampNeg then .int (nar .char x) else f i) → Go p l e R s m args below meth c n0 K N Q h' ck cn (mkF m pc' Ls st)) : Go p l e R s m args below meth c n0 K N Q h ck cn (mkF m pc Ls (.int x :: .int j :: .ref a :: st)) := fun T locs X eT hN => by
  obtain ⟨hd, rfl⟩ := hd
  have F' := F
  obtain ⟨cl, A, r1, r2, r3⟩ := F
  obtain ⟨T', h', X', e', W, st'⟩ := Jvm.RoadKit.stC X C.1 C.2.2.2.1 eT A (by rw [r1]; exact hj.not) (g := mkF m pc Ls (.int x :: .int j :: .ref a :: st)) rfl rfl (hb C.2.1 hd)
  exact Go.move hN X' e' (Fr.snoc X' hN ha) st' (k h' W (F'.set W))
theorem g_sast (C : Cx p s m meth c Z code maxL own ret) {pc pc' : Nat} {Ls : Array Slot} {st : List Value} {a : Addr} {j : Int32} {x : Int32} {n : Nat} {f : Nat → Value} (hd : I1 code pc .sastore 1 pc') (F : AV Z h a .short n f) (hj : Inb j n) (ha : n0 ≤ a)
    (k : ∀ h', Wr h h' a j.toNatClampNeg (.int (nar .short x)) → AV Z h' a .short n (fun i => if i = j.toNatClampNeg then .int (nar .short x) else f i) → Go p l e R s m args below meth c n0 K N Q h' ck cn (mkF m pc' Ls st)) : Go p l e R s m args below meth c n0 K N Q h ck cn (mkF m pc Ls (.int x :: .int j :: .ref a :: st)) := fun T locs X eT hN => by
  obtain ⟨hd, rfl⟩ := hd
  have F' := F
  obtain ⟨cl, A, r1, r2, r3⟩ := F
  obtain ⟨T', h', X', e', W, st'⟩ := Jvm.RoadKit.stS X C.1 C.2.2.2.1 eT A (by rw [r1]; exact hj.not) (g := mkF m pc Ls (.int x :: .int j :: .ref a :: st)) rfl rfl (hb C.2.1 hd)
  exact Go.move hN X' e' (Fr.snoc X' hN ha) st' (k h' W (F'.set W))
theorem g_bast (C : Cx p s m meth c Z code maxL own ret) {pc pc' : Nat} {Ls : Array Slot} {st : List Value} {a : Addr} {j : Int32} {x : Int32} {n : Nat} {f : Nat → Value} (hd : I1 code pc .bastore 1 pc') (F : AV Z h a .byte n f) (hj : Inb j n) (ha : n0 ≤ a)
    (k : ∀ h', Wr h h' a j.toNatClampNeg (.int (nar .byte x)) → AV Z h' a .byte n (fun i => if i = j.toNatClampNeg then .int (nar .byte x) else f i) → Go p l e R s m args below meth c n0 K N Q h' ck cn (mkF m pc' Ls st)) : Go p l e R s m args below meth c n0 K N Q h ck cn (mkF m pc Ls (.int x :: .int j :: .ref a :: st)) := fun T locs X eT hN => by
  obtain ⟨hd, rfl⟩ := hd
  have F' := F
  obtain ⟨cl, A, r1, r2, r3⟩ := F
  obtain ⟨T', h', X', e', W, st'⟩ := Jvm.RoadKit.stB X C.1 C.2.2.2.1 eT A (by rw [r1]; exact hj.not) (g := mkF m pc Ls (.int x :: .int j :: .ref a :: st)) rfl rfl (hb C.2.1 hd)
  exact Go.move hN X' e' (Fr.snoc X' hN ha) st' (k h' W (F'.set W))
theorem g_zast (C : Cx p s m meth c Z code maxL own ret) {pc pc' : Nat} {Ls : Array Slot} {st : List Value} {a : Addr} {j : Int32} {x : Int32} {n : Nat} {f : Nat → Value} (hd : I1 code pc .bastore 1 pc') (F : AV Z h a .boolean n f) (hj : Inb j n) (ha : n0 ≤ a)
    (k : ∀ h', Wr h h' a j.toNatClampNeg (.int (nar .boolean x)) → AV Z h' a .boolean n (fun i => if i = j.toNatClampNeg then .int (nar .boolean x) else f i) → Go p l e R s m args below meth c n0 K N Q h' ck cn (mkF m pc' Ls st)) : Go p l e R s m args below meth c n0 K N Q h ck cn (mkF m pc Ls (.int x :: .int j :: .ref a :: st)) := fun T locs X eT hN => by
  obtain ⟨hd, rfl⟩ := hd
  have F' := F
  obtain ⟨cl, A, r1, r2, r3⟩ := F
  obtain ⟨T', h', X', e', W, st'⟩ := Jvm.RoadKit.stZ X C.1 C.2.2.2.1 eT A (by rw [r1]; exact hj.not) (g := mkF m pc Ls (.int x :: .int j :: .ref a :: st)) rfl rfl (hb C.2.1 hd)
  exact Go.move hN X' e' (Fr.snoc X' hN ha) st' (k h' W (F'.set W))
theorem g_iastI (C : Cx p s m meth c Z code maxL own ret) {pc pc' : Nat} {Ls : Array Slot} {st : List Value} {a : Addr} {j : Int32} {x : Int32} {n : Nat} {f : Nat → Int32} (hd : I1 code pc .iastore 1 pc') (F : AV Z h a .int n (fun ix => .int (f ix))) (hj : Inb j n) (ha : n0 ≤ a)
    (k : ∀ h', Wr h h' a j.toNatClampNeg (.int (x)) → AV Z h' a .int n (fun ix => .int (if ix = j.toNatClampNeg then x else f ix)) → Go p l e R s m args below meth c n0 K N Q h' ck cn (mkF m pc' Ls st)) : Go p l e R s m args below meth c n0 K N Q h ck cn (mkF m pc Ls (.int x :: .int j :: .ref a :: st)) :=
  g_iast C hd F hj ha (fun h' W V => k h' W (AV.congr V (fun ix _ => by split <;> rfl)))
theorem g_lastI (C : Cx p s m meth c Z code maxL own ret) {pc pc' : Nat} {Ls : Array Slot} {st : List Value} {a : Addr} {j : Int32} {x : Int64} {n : Nat} {f : Nat → Int64} (hd : I1 code pc .lastore 1 pc') (F : AV Z h a .long n (fun ix => .long (f ix))) (hj : Inb j n) (ha : n0 ≤ a)
    (k : ∀ h', Wr h h' a j.toNatClampNeg (.long (x)) → AV Z h' a .long n (fun ix => .long (if ix = j.toNatClampNeg then x else f ix)) → Go p l e R s m args below meth c n0 K N Q h' ck cn (mkF m pc' Ls st)) : Go p l e R s m args below meth c n0 K N Q h ck cn (mkF m pc Ls (.long x :: .int j :: .ref a :: st)) :=
  g_last C hd F hj ha (fun h' W V => k h' W (AV.congr V (fun ix _ => by split <;> rfl)))
theorem g_castI (C : Cx p s m meth c Z code maxL own ret) {pc pc' : Nat} {Ls : Array Slot} {st : List Value} {a : Addr} {j : Int32} {x : Int32} {n : Nat} {f : Nat → Int32} (hd : I1 code pc .castore 1 pc') (F : AV Z h a .char n (fun ix => .int (f ix))) (hj : Inb j n) (ha : n0 ≤ a)
    (k : ∀ h', Wr h h' a j.toNatClampNeg (.int (nar .char x)) → AV Z h' a .char n (fun ix => .int (if ix = j.toNatClampNeg then nar .char x else f ix)) → Go p l e R s m args below meth c n0 K N Q h' ck cn (mkF m pc' Ls st)) : Go p l e R s m args below meth c n0 K N Q h ck cn (mkF m pc Ls (.int x :: .int j :: .ref a :: st)) :=
  g_cast C hd F hj ha (fun h' W V => k h' W (AV.congr V (fun ix _ => by split <;> rfl)))
theorem g_sastI (C : Cx p s m meth c Z code maxL own ret) {pc pc' : Nat} {Ls : Array Slot} {st : List Value} {a : Addr} {j : Int32} {x : Int32} {n : Nat} {f : Nat → Int32} (hd : I1 code pc .sastore 1 pc') (F : AV Z h a .short n (fun ix => .int (f ix))) (hj : Inb j n) (ha : n0 ≤ a)
    (k : ∀ h', Wr h h' a j.toNatClampNeg (.int (nar .short x)) → AV Z h' a .short n (fun ix => .int (if ix = j.toNatClampNeg then nar .short x else f ix)) → Go p l e R s m args below meth c n0 K N Q h' ck cn (mkF m pc' Ls st)) : Go p l e R s m args below meth c n0 K N Q h ck cn (mkF m pc Ls (.int x :: .int j :: .ref a :: st)) :=
  g_sast C hd F hj ha (fun h' W V => k h' W (AV.congr V (fun ix _ => by split <;> rfl)))
theorem g_bastI (C : Cx p s m meth c Z code maxL own ret) {pc pc' : Nat} {Ls : Array Slot} {st : List Value} {a : Addr} {j : Int32} {x : Int32} {n : Nat} {f : Nat → Int32} (hd : I1 code pc .bastore 1 pc') (F : AV Z h a .byte n (fun ix => .int (f ix))) (hj : Inb j n) (ha : n0 ≤ a)
    (k : ∀ h', Wr h h' a j.toNatClampNeg (.int (nar .byte x)) → AV Z h' a .byte n (fun ix => .int (if ix = j.toNatClampNeg then nar .byte x else f ix)) → Go p l e R s m args below meth c n0 K N Q h' ck cn (mkF m pc' Ls st)) : Go p l e R s m args below meth c n0 K N Q h ck cn (mkF m pc Ls (.int x :: .int j :: .ref a :: st)) :=
  g_bast C hd F hj ha (fun h' W V => k h' W (AV.congr V (fun ix _ => by split <;> rfl)))
theorem g_zastI (C : Cx p s m meth c Z code maxL own ret) {pc pc' : Nat} {Ls : Array Slot} {st : List Value} {a : Addr} {j : Int32} {x : Int32} {n : Nat} {f : Nat → Int32} (hd : I1 code pc .bastore 1 pc') (F : AV Z h a .boolean n (fun ix => .int (f ix))) (hj : Inb j n) (ha : n0 ≤ a)
    (k : ∀ h', Wr h h' a j.toNatClampNeg (.int (nar .boolean x)) → AV Z h' a .boolean n (fun ix => .int (if ix = j.toNatClampNeg then nar .boolean x else f ix)) → Go p l e R s m args below meth c n0 K N Q h' ck cn (mkF m pc' Ls st)) : Go p l e R s m args below meth c n0 K N Q h ck cn (mkF m pc Ls (.int x :: .int j :: .ref a :: st)) :=
  g_zast C hd F hj ha (fun h' W V => k h' W (AV.congr V (fun ix _ => by split <;> rfl)))
/-- the array class ad holds references of the class C -/
def OvA (Z : State) (ad C : String) : Prop := ∃ cA ty, Z.vm.findClass ad = some cA ∧ OvrA Z cA ty C
/-- what a short array of references holds -/
def rfs (L : List Value) (ix : Nat) : Value := L.getD ix .null
theorem g_newPE (C : Cx p s m meth c Z code maxL own ret) {pc pc' : Nat} {Ls : Array Slot} {st : List Value} {aty : ArrayType} {n : Int32} (hd : I1 code pc (.newarray aty) 2 pc') (w : (Cond.arrayClass (newarray.typeOf aty)).before a0 Z = true) (hn : ¬ n < 0) (cap : Nat) (hcap : n.toNatClampNeg ≤ cap) (hb8 : cap * 8 ≤ 536870912) (hc : ck + 1 ≤ R.cells) (hl : cn + cap ≤ R.slots) {ck' cn' : Nat} (hck : ck + 1 = ck') (hcn : cn + cap = cn') (ad : String) (had : "[" ++ (newarray.typeOf aty).toString = ad)
    (k : ∀ (h' : Heap) (a : Addr), a = h.size → Ext h h' → AV Z h' a (newarray.typeOf aty) n.toNatClampNeg (fun _ => defaultValue (newarray.typeOf aty)) → Exa Z h' a ad → Go p l e R s m args below meth c n0 K N Q h' ck' cn' (mkF m pc' Ls (.ref a :: st))) : Go p l e R s m args below meth c n0 K N Q h ck cn (mkF m pc Ls (.int n :: st)) := fun T locs X eT hN => by
  obtain ⟨hd, rfl⟩ := hd
  subst hck hcn
  obtain ⟨T', h', cA, X', e', E, A, Ea, st'⟩ := Jvm.RoadKit.newPE X C.1 C.2.2.2.1 w eT (g := mkF m pc Ls (.int n :: st)) rfl (hb C.2.1 hd) rfl hn hcap hb8 hc hl had
  exact Go.move hN X' e' hN st' (k h' _ rfl E (AV.ofNew A hn) Ea)
theorem g_newRA (C : Cx p s m meth c Z code maxL own ret) {pc pc' : Nat} {Ls : Array Slot} {st : List Value} {ty0 : FieldType} {index : Nat} {n : Int32} {Cl ad : String} (hd : I1 code pc (.anewarray index) 3 pc') (hC : (FieldType.array ty0).toString = Cl) (w1 : (Cond.classLink own index Cl).before a0 Z = true) (w2 : (Cond.arrayOver (.array ty0)).before a0 Z = true) (hn : ¬ n < 0) (cap : Nat) (hcap : n.toNatClampNeg ≤ cap) (hb8 : cap * 8 ≤ 536870912) (hc : ck + 1 ≤ R.cells) (hl : cn + cap ≤ R.slots) {ck' cn' : Nat} (hck : ck + 1 = ck') (hcn : cn + cap = cn') (had : "[" ++ Cl = ad)
    (k : ∀ (h' : Heap) (a : Addr), a = h.size → Ext h h' → AV Z h' a (.array ty0) n.toNatClampNeg (fun _ => .null) → Exa Z h' a ad → OvA Z ad Cl → Go p l e R s m args below meth c n0 K N Q h' ck' cn' (mkF m pc' Ls (.ref a :: st))) : Go p l e R s m args below meth c n0 K N Q h ck cn (mkF m pc Ls (.int n :: st)) := fun T locs X eT hN => by
  obtain ⟨hd, rfl⟩ := hd
  subst hck hcn
  obtain ⟨T', h', cA, X', e', E, A, Ea, O, st'⟩ := Jvm.RoadKit.newRA X C.1 C.2.2.2.1 C.2.2.2.2.1 hC w1 w2 eT (g := mkF m pc Ls (.int n :: st)) rfl (hb C.2.1 hd) rfl hn hcap hb8 hc hl had
  refine Go.move hN X' e' hN st' (k h' _ rfl E (AV.ofNew A hn) Ea ⟨cA, ty0, ?_, O⟩)
  obtain ⟨cell, kk, q1, q2, -⟩ := Ea
  cases q1.symm.trans A.1
  exact q2
theorem g_aast (C : Cx p s m meth c Z code maxL own ret) {pc pc' : Nat} {Ls : Array Slot} {st : List Value} {a y : Addr} {j : Int32} {ty : FieldType} {n : Nat} {f : Nat → Value} {ad Cl : String} (hd : I1 code pc .aastore 1 pc') (F : AV Z h a ty n f) (ht : ty.isReference = true) (hj : Inb j n) (ha : n0 ≤ a) (E : Exa Z h a ad) (O : OvA Z ad Cl) (I : Ins Z h y Cl true)
    (k : ∀ h', Wr h h' a j.toNatClampNeg (.ref y) → AV Z h' a ty n (fun i => if i = j.toNatClampNeg then .ref y else f i) → Go p l e R s m args below meth c n0 K N Q h' ck cn (mkF m pc' Ls st)) : Go p l e R s m args below meth c n0 K N Q h ck cn (mkF m pc Ls (.ref y :: .int j :: .ref a :: st)) := fun T locs X eT hN => by
  obtain ⟨hd, rfl⟩ := hd
  have F' := F
  obtain ⟨cl, A, r1, r2, r3⟩ := F
  obtain ⟨cell, kk, q1, q2, -⟩ := E
  cases q1.symm.trans A.1
  obtain ⟨cA, ty0, o1, o2⟩ := O
  obtain ⟨T', h', X', e', W, st'⟩ := Jvm.RoadKit.stR X C.1 C.2.2.2.1 eT A (by rw [r1]; exact hj.not) ht (Sto.ofVA A (Option.some.inj (q2.symm.trans o1)) o2 I) (g := mkF m pc Ls (.ref y :: .int j :: .ref a :: st)) rfl rfl (hb C.2.1 hd)
  exact Go.move hN X' e' (Fr.snoc X' hN ha) st' (k h' W (F'.set W))
theorem g_clone (C : Cx p s m meth c Z code maxL own ret) {pc pc' : Nat} {Ls : Array Slot} {st : List Value} {a : Addr} {n : Nat} {f : Nat → Int64} {index : Nat} (hd : I1 code pc (.invokevirtual index) 3 pc')
    (w1 : (Cond.methodLink own index ⟨"[J", "clone", "()Ljava/lang/Object;"⟩).before a0 Z = true) (w2 : (Cond.sameMethod "[J" "java/lang/Object" "clone" "()Ljava/lang/Object;").before a0 Z = true) (w3 : (Cond.native ⟨"java/lang/Object", "clone", "()Ljava/lang/Object;"⟩).before a0 Z = true)
    (w4 : (Cond.instanceMethod ⟨"java/lang/Object", "clone", "()Ljava/lang/Object;"⟩).before a0 Z = true) (w5 : (Cond.selects "[J" ⟨"[J", "clone", "()Ljava/lang/Object;"⟩ ⟨"java/lang/Object", "clone", "()Ljava/lang/Object;"⟩).before a0 Z = true) (w6 : (Cond.castable "[J" "java/lang/Cloneable").before a0 Z = true)
    (F : AV Z h a .long n (fun ix => .long (f ix))) (E : Exa Z h a "[J") (hsz : Ls.size = maxL) (hf : 1 ≤ R.frames) (W : Nat) (hW : 2 * 0 + (st.map fun v => v.category).sum ≤ W) (hl : W + 14 ≤ R.locals) (hc : ck + 1 ≤ R.cells) (hs : cn + n ≤ R.slots) {ck' cn' : Nat} (hck : ck + 1 = ck') (hcn : cn + n = cn')
    (k : ∀ (h' : Heap) (b : Addr), b = h.size → Ext h h' → AV Z h' b .long n (fun ix => .long (f ix)) → Exa Z h' b "[J" → Go p l e R s m args below meth c n0 K N Q h' ck' cn' (mkF m pc' Ls (.ref b :: st))) : Go p l e R s m args below meth c n0 K N Q h ck cn (mkF m pc Ls (.ref a :: st)) := fun T locs X eT hN => by
  obtain ⟨hd, rfl⟩ := hd
  subst hck hcn
  obtain ⟨cl, A, r1, r2, r3⟩ := F
  obtain ⟨T', h', X', e', ex, A', E', st'⟩ := Jvm.RoadKit.cloneA X C.1 C.2.2.2.1 C.2.2.2.2.1 w1 w2 w3 w4 w5 w6 eT A E (Jvm.RoadKit.fitC_of A fun i hi v hv => by rw [r3 i (r1 ▸ hi)] at hv; cases hv; rfl) (g := mkF m pc Ls (.ref a :: st)) rfl (hsz.trans C.2.2.1.symm) rfl (hb C.2.1 hd) hf (W := W) hW hl (Nat.le_of_eq r1) hc hs
  exact Go.move hN X' e' hN st' (k h' _ rfl ex ⟨_, A', r1, r2, r3⟩ E')
theorem g_selP {Cl : String} {y z : MethodName} (w : (Cond.selects Cl z z).before a0 Z = true) (hz : z.cls = y.cls) (wp : (Cond.privateMethod y).before a0 Z = true) (wi : (Cond.instanceMethod y).before a0 Z = true) (hy : y.cls ≠ "java/lang/invoke/MethodHandle" ∧ y.cls ≠ "java/lang/invoke/VarHandle") : (Cond.selects y.cls y y).before a0 Z = true := by
  obtain ⟨c2, r2, m2, -, -, q3, -, kP, hkP, hkPi⟩ := Cond.selects_spec w
  exact Jvm.Stand.selects_self_of_private (hz ▸ findClass_of_methodNamed q3) hkP hkPi (Cond.privateMethod_at wp) wi hy
theorem g_callS (C : Cx p s m meth c Z code maxL own ret) {pc pc' : Nat} {Ls : Array Slot} {y : MethodName} {ycode : ByteArray} {ymax : Nat} {yret : Option FieldType} {rm : Room} {as' : Array Value} {Q' : Option Value → Heap → Prop} {index : Nat} (hC : Ctr l Z y ycode ymax yret rm as' h n0 Q') (hd : I1 code pc (.invokestatic index) 3 pc') (w1 : (Cond.methodLink own index y).before a0 Z = true) (w2 : (Cond.static y).before a0 Z = true) (w3 : (Cond.initialized y.cls).before a0 Z = true) (w4 : (Cond.code y ycode ymax yret).before a0 Z = true) (hy : y.cls ≠ "java/lang/invoke/MethodHandle" ∧ y.cls ≠ "java/lang/invoke/VarHandle")
    {argsL st rest : List Value} (hst : st = argsL.reverse ++ rest) (has : argsL.toArray = as') {ps : List FieldType} {r : Option FieldType} (hpd : parseMethodDescriptor y.desc = some ⟨ps, r⟩) (hlen : argsL.length = ps.length) (hsz : Ls.size = maxL) (W : Nat) (hW : 2 * 0 + (rest.map fun v => v.category).sum ≤ W)
    (hf : rm.frames + 1 ≤ R.frames) (hl : W + (ymax + 11) + rm.locals ≤ R.locals) (hc : ck + rm.cells ≤ R.cells) (hs : cn + rm.slots ≤ R.slots) {ck' cn' : Nat} (hck : ck + rm.cells = ck') (hcn : cn + rm.slots = cn')
    (k : ∀ v h', Q' v h' → Go p l e R s m args below meth c n0 K N Q h' ck' cn' (mkF m pc' Ls (v.toList ++ rest))) : Go p l e R s m args below meth c n0 K N Q h ck cn (mkF m pc Ls st) := fun T locs X eT hN => by
  obtain ⟨hd, rfl⟩ := hd
  subst hck hcn hst
  obtain ⟨v, _, ⟨T', L', k', n'⟩, -, X', ⟨Lc, hQ, l1, l2, l3⟩, st'⟩ := Jvm.LawKit.callS X C.1 C.2.2.2.2.1 (mvT C.2.2.2.1 w1) (mvT C.2.2.2.1 w2) (mvT C.2.2.2.1 w3) (mvT C.2.2.2.1 w4) hy (backOf (W := W) (Q := fun v h L => Q' v h ∧ Fr n0 L) (hC []) C.2.2.2.1 w4 w3 hf hl) (g := mkF m pc Ls (argsL.reverse ++ rest)) rfl (hsz.trans C.2.2.1.symm) (argsL := argsL) (rest := rest) (lenOf hpd hlen) rfl hW (hb C.2.1 hd) (fun _ _ => ⟨has, eT, hc, hs⟩)
  dsimp only [Pt.U, Pt.locs, Pt.cells, Pt.slots] at X' l1 l2 l3 st' hQ
  subst l1 l2 l3
  exact Go.move hN X' rfl (Fr.app hN hQ.2) st' (k v _ hQ.1)
theorem g_callI (C : Cx p s m meth c Z code maxL own ret) {pc pc' : Nat} {Ls : Array Slot} {y : MethodName} {ycode : ByteArray} {ymax : Nat} {yret : Option FieldType} {rm : Room} {as' : Array Value} {Q' : Option Value → Heap → Prop} {index : Nat} (hC : Ctr l Z y ycode ymax yret rm as' h n0 Q') {a : Addr} (hd : I1 code pc (.invokespecial index) 3 pc') (hy1 : y.name = "<init>") (w1 : (Cond.methodLink own index y).before a0 Z = true) (w2 : (Cond.instanceMethod y).before a0 Z = true) (w3 : (Cond.initialized y.cls).before a0 Z = true) (w4 : (Cond.code y ycode ymax none).before a0 Z = true) (hyr : yret = none) (hy : y.cls ≠ "java/lang/invoke/MethodHandle" ∧ y.cls ≠ "java/lang/invoke/VarHandle")
    {argsL st rest : List Value} (hst : st = argsL.reverse ++ .ref a :: rest) (has : (.ref a :: argsL).toArray = as') {ps : List FieldType} {r : Option FieldType} (hpd : parseMethodDescriptor y.desc = some ⟨ps, r⟩) (hlen : argsL.length = ps.length) (hsz : Ls.size = maxL) (W : Nat) (hW : 2 * 0 + (rest.map fun v => v.category).sum ≤ W)
    (hf : rm.frames + 1 ≤ R.frames) (hl : W + (ymax + 11) + rm.locals ≤ R.locals) (hc : ck + rm.cells ≤ R.cells) (hs : cn + rm.slots ≤ R.slots) {ck' cn' : Nat} (hck : ck + rm.cells = ck') (hcn : cn + rm.slots = cn')
    (k : ∀ v h', Q' v h' → Go p l e R s m args below meth c n0 K N Q h' ck' cn' (mkF m pc' Ls (v.toList ++ rest))) : Go p l e R s m args below meth c n0 K N Q h ck cn (mkF m pc Ls st) := fun T locs X eT hN => by
  obtain ⟨hd, rfl⟩ := hd
  subst hck hcn hst
  subst hyr
  obtain ⟨v, _, ⟨T', L', k', n'⟩, -, X', ⟨Lc, hQ, l1, l2, l3⟩, st'⟩ := X.specialBack C.1 hy1 C.2.2.2.2.1 (mvT C.2.2.2.1 w1) (mvT C.2.2.2.1 w2) (mvT C.2.2.2.1 w4) hy (backOf (W := W) (Q := fun v h L => Q' v h ∧ Fr n0 L) (hC []) C.2.2.2.1 w4 w3 hf hl) (g := mkF m pc Ls (argsL.reverse ++ .ref a :: rest)) rfl (hsz.trans C.2.2.1.symm) (Steps.refl _) (a := a) (argsL := argsL) (rest := rest) (lenOf hpd hlen) rfl hW (hb C.2.1 hd) (fun _ _ => ⟨has, eT, hc, hs⟩)
  dsimp only [Pt.U, Pt.locs, Pt.cells, Pt.slots] at X' l1 l2 l3 st' hQ
  subst l1 l2 l3
  exact Go.move hN X' rfl (Fr.app hN hQ.2) (fun _ z => st'.trans z) (k v _ hQ.1)
theorem g_callV (C : Cx p s m meth c Z code maxL own ret) {pc pc' : Nat} {Ls : Array Slot} {y : MethodName} {ycode : ByteArray} {ymax : Nat} {yret : Option FieldType} {rm : Room} {as' : Array Value} {Q' : Option Value → Heap → Prop} {index : Nat} (hC : Ctr l Z y ycode ymax yret rm as' h n0 Q') {a : Addr} {x : MethodName} {Cl : String} (hd : I1 code pc (.invokevirtual index) 3 pc') (w1 : (Cond.methodLink own index x).before a0 Z = true) (w2 : (Cond.declares x).before a0 Z = true) (hnf : ∀ s : State, Z.Warmed39 s.vm → NotFace s x) (w5 : (Cond.selects Cl x y).before a0 Z = true) (w6 : (Cond.instanceMethod y).before a0 Z = true) (w3 : (Cond.initialized y.cls).before a0 Z = true) (w4 : (Cond.code y ycode ymax yret).before a0 Z = true) (hy : x.cls ≠ "java/lang/invoke/MethodHandle" ∧ x.cls ≠ "java/lang/invoke/VarHandle") (E : Exa Z h a Cl)
    {argsL st rest : List Value} (hst : st = argsL.reverse ++ .ref a :: rest) (has : (.ref a :: argsL).toArray = as') {ps : List FieldType} {r : Option FieldType} (hpd : parseMethodDescriptor x.desc = some ⟨ps, r⟩) (hlen : argsL.length = ps.length) (hsz : Ls.size = maxL) (W : Nat) (hW : 2 * 0 + (rest.map fun v => v.category).sum ≤ W)
    (hf : rm.frames + 1 ≤ R.frames) (hl : W + (ymax + 11) + rm.locals ≤ R.locals) (hc : ck + rm.cells ≤ R.cells) (hs : cn + rm.slots ≤ R.slots) {ck' cn' : Nat} (hck : ck + rm.cells = ck') (hcn : cn + rm.slots = cn')
    (k : ∀ v h', Q' v h' → Go p l e R s m args below meth c n0 K N Q h' ck' cn' (mkF m pc' Ls (v.toList ++ rest))) : Go p l e R s m args below meth c n0 K N Q h ck cn (mkF m pc Ls st) := fun T locs X eT hN => by
  obtain ⟨hd, rfl⟩ := hd
  subst hck hcn hst
  obtain ⟨cq, kq, q1, q2, q3⟩ := isOf C.2.2.2.1 eT E
  obtain ⟨v, _, ⟨T', L', k', n'⟩, -, X', ⟨Lc, hQ, l1, l2, l3⟩, st'⟩ := X.virtualBack C.1 (y := x) (z := y) C.2.2.2.2.1 (mvT C.2.2.2.1 w1) (mvT C.2.2.2.1 w2) (hnf s C.2.2.2.1) (mvT C.2.2.2.1 w5) (mvT C.2.2.2.1 w6) hy (backOf (W := W) (Q := fun v h L => Q' v h ∧ Fr n0 L) (hC []) C.2.2.2.1 w4 w3 hf hl) q1 q3 (g := mkF m pc Ls (argsL.reverse ++ .ref a :: rest)) rfl (hsz.trans C.2.2.1.symm) (Steps.refl _) (argsL := argsL) (rest := rest) (lenOf hpd hlen) rfl hW (hb C.2.1 hd) (fun _ _ => ⟨has, eT, hc, hs⟩)
  dsimp only [Pt.U, Pt.locs, Pt.cells, Pt.slots] at X' l1 l2 l3 st' hQ
  subst l1 l2 l3
  exact Go.move hN X' rfl (Fr.app hN hQ.2) (fun _ z => st'.trans z) (k v _ hQ.1)
theorem g_callP (C : Cx p s m meth c Z code maxL own ret) {pc pc' : Nat} {Ls : Array Slot} {y : MethodName} {ycode : ByteArray} {ymax : Nat} {yret : Option FieldType} {rm : Room} {as' : Array Value} {Q' : Option Value → Heap → Prop} {index : Nat} (hC : Ctr l Z y ycode ymax yret rm as' h n0 Q') {a : Addr} {Cl : String} (hd : I1 code pc (.invokevirtual index) 3 pc') (w1 : (Cond.methodLink own index y).before a0 Z = true) (w2 : (Cond.instanceMethod y).before a0 Z = true) (w5 : (Cond.selects y.cls y y).before a0 Z = true) (w6 : (Cond.privateMethod y).before a0 Z = true) (w3 : (Cond.initialized y.cls).before a0 Z = true) (w4 : (Cond.code y ycode ymax yret).before a0 Z = true) (hy : y.cls ≠ "java/lang/invoke/MethodHandle" ∧ y.cls ≠ "java/lang/invoke/VarHandle") (E : Exa Z h a Cl)
    {argsL st rest : List Value} (hst : st = argsL.reverse ++ .ref a :: rest) (has : (.ref a :: argsL).toArray = as') {ps : List FieldType} {r : Option FieldType} (hpd : parseMethodDescriptor y.desc = some ⟨ps, r⟩) (hlen : argsL.length = ps.length) (hsz : Ls.size = maxL) (W : Nat) (hW : 2 * 0 + (rest.map fun v => v.category).sum ≤ W)
    (hf : rm.frames + 1 ≤ R.frames) (hl : W + (ymax + 11) + rm.locals ≤ R.locals) (hc : ck + rm.cells ≤ R.cells) (hs : cn + rm.slots ≤ R.slots) {ck' cn' : Nat} (hck : ck + rm.cells = ck') (hcn : cn + rm.slots = cn')
    (k : ∀ v h', Q' v h' → Go p l e R s m args below meth c n0 K N Q h' ck' cn' (mkF m pc' Ls (v.toList ++ rest))) : Go p l e R s m args below meth c n0 K N Q h ck cn (mkF m pc Ls st) := fun T locs X eT hN => by
  obtain ⟨hd, rfl⟩ := hd
  subst hck hcn hst
  obtain ⟨cq, q1, q2⟩ := E.cell
  obtain ⟨v, _, ⟨T', L', k', n'⟩, -, X', ⟨Lc, hQ, l1, l2, l3⟩, st'⟩ := X.privateBack C.1 (y := y) C.2.2.2.2.1 (mvT C.2.2.2.1 w1) (mvT C.2.2.2.1 w2) (mvT C.2.2.2.1 w5) (Cond.privateMethod_at (mvP C.2.2.2.1 w6 (args := #[]))) (mvT C.2.2.2.1 w4) hy (backOf (W := W) (Q := fun v h L => Q' v h ∧ Fr n0 L) (hC []) C.2.2.2.1 w4 w3 hf hl) (g := mkF m pc Ls (argsL.reverse ++ .ref a :: rest)) rfl (hsz.trans C.2.2.1.symm) (Steps.refl _) (a := a) (by rw [eT]; exact q1) q2 (argsL := argsL) (rest := rest) (lenOf hpd hlen) rfl hW (hb C.2.1 hd) (fun _ _ => ⟨has, eT, hc, hs⟩)
  dsimp only [Pt.U, Pt.locs, Pt.cells, Pt.slots] at X' l1 l2 l3 st' hQ
  subst l1 l2 l3
  exact Go.move hN X' rfl (Fr.app hN hQ.2) (fun _ z => st'.trans z) (k v _ hQ.1)
end
end Jvm.OwnGo
namespace Jvm.OwnFp
open Jvm.FP.Core
theorem own_dist (A B : Nat) (e : Int) (c : Nat) (q e0 : Int) : distance A B e c q e0 = ((inUnits A e e0 : Int) - (inUnits c q e0 : Int) * (B : Int)).natAbs := rfl
theorem own_iu (c : Nat) (q e : Int) : inUnits c q e = c * 2 ^ (q - e).toNat := rfl
theorem own_zval (d : Datum) : zval b64 d = signed (sgn d) (zmag b64 d) := rfl
theorem own_sT (m : Nat) : signed true m = -(m : Int) := rfl
theorem own_sF (m : Nat) : signed false m = (m : Int) := rfl
theorem own_one : one64 = 2 ^ 1074 := rfl
theorem own_rr0 (s : Bool) (B : Nat) (e : Int) : zmag b64 (roundRatio b64 s 0 B e) = 0 := by
  show zmag b64 (if (0 : Nat) = 0 then _ else _) = 0
  rw [if_pos rfl]
  show 0 * 2 ^ (b64.qmin - b64.qmin).toNat = 0
  exact Nat.zero_mul _
theorem own_zs (s s' : Bool) (A B : Nat) (e : Int) : zmag b64 (roundRatio b64 s A B e) = zmag b64 (roundRatio b64 s' A B e) := by
  have key : ∀ t : Bool, zmag b64 (roundRatio b64 (!t) A B e) = zmag b64 (roundRatio b64 t A B e) := fun t => by
    rw [← negate_roundRatio]
    cases roundRatio b64 t A B e <;> rfl
  cases s <;> cases s' <;> first | rfl | exact key false | exact key true
theorem own_units (A : Nat) : inUnits A 0 b64.qmin = A * one64 := by
  rw [own_iu, show (0 - b64.qmin) = -b64.qmin by omega, pow_qmin64]
theorem own_p1 : 2 ^ (b64.qmin - b64.qmin).toNat = 1 := by rw [Int.sub_self]; rfl
theorem own_q0 : b64.qmin ≤ 0 := by decide
/-- rounding is monotone: A / B at most A' / B' -/
theorem own_mono {s : Bool} {A A' B B' : Nat} (hB : 0 < B) (hB' : 0 < B') (h : A * B' ≤ A' * B) {c c' : Nat} {q q' : Int}
    (h1 : roundRatio b64 s A B 0 = .fin s c q) (h2 : roundRatio b64 s A' B' 0 = .fin s c' q') : zmag b64 (roundRatio b64 s A B 0) ≤ zmag b64 (roundRatio b64 s A' B' 0) := by
  have f1 := roundRatio_fits good_b64 s A hB 0
  have f2 := roundRatio_fits good_b64 s A' hB' 0
  refine Nat.le_of_not_lt fun hlt => ?_
  have n1 := roundRatio_nearest good_b64 hB h1 (c' := c') (q' := q') (by rw [h2] at f2; exact f2.1) (by rw [h2] at f2; exact f2.2.1) (Int.le_refl _) own_q0
  have n2 := roundRatio_nearest good_b64 hB' h2 (c' := c) (q' := q) (by rw [h1] at f1; exact f1.1) (by rw [h1] at f1; exact f1.2.1) (Int.le_refl _) own_q0
  have g1 := zmag_roundRatio_le good_b64 (s := s) (e := 0) hB f2 (roundRatio_ne_nan _ _ _ _ _) (Int.le_refl _) own_q0 (A := A)
  have g2 := zmag_roundRatio_ge good_b64 (s := s) (e := 0) hB' f1 (Int.le_refl _) own_q0 (A := A')
  rw [own_dist, own_dist] at n1 n2
  rw [own_units] at n1 n2 g1 g2
  have u1 : inUnits c q b64.qmin = zmag b64 (roundRatio b64 s A B 0) := by rw [h1]; rfl
  have u2 : inUnits c' q' b64.qmin = zmag b64 (roundRatio b64 s A' B' 0) := by rw [h2]; rfl
  rw [u1, u2] at n1 n2
  rw [own_p1, Nat.mul_one] at g1 g2
  have hO := one64_pos
  by_cases heq : A * B' = A' * B
  · have := roundRatio_congr (f := b64) (s := s) (A := A) (B := B) (A' := A') (B' := B') (e := 0) (e' := 0) hB hB' (by simp [heq])
    rw [this] at hlt
    exact Nat.lt_irrefl _ hlt
  have hl : A * B' < A' * B := Nat.lt_of_le_of_ne h heq
  generalize zmag b64 (roundRatio b64 s A B 0) = R at *
  generalize zmag b64 (roundRatio b64 s A' B' 0) = R' at *
  have k1 : R' * B < A * one64 := Nat.lt_of_not_le fun z => by have := g1 z; omega
  have k2 : A' * one64 < R * B' := Nat.lt_of_not_le fun z => by have := g2 z; omega
  generalize one64 = O at *
  -- A O B' < A' O B
  have m0 : A * O * B' < A' * O * B := by
    have := Nat.mul_lt_mul_of_pos_right hl hO
    calc A * O * B' = A * B' * O := by ac_rfl
      _ < A' * B * O := this
      _ = A' * O * B := by ac_rfl
  have m1 : A * O < R * B := by
    have : A * O * B' < R * B * B' := Nat.lt_trans m0 (by
      calc A' * O * B < R * B' * B := Nat.mul_lt_mul_of_pos_right k2 hB
        _ = R * B * B' := by ac_rfl)
    exact Nat.lt_of_mul_lt_mul_right this
  have m2 : R' * B' < A' * O := by
    have : R' * B' * B < A' * O * B := Nat.lt_trans (by
      calc R' * B' * B = R' * B * B' := by ac_rfl
        _ < A * O * B' := Nat.mul_lt_mul_of_pos_right k1 hB') m0
    exact Nat.lt_of_mul_lt_mul_right this
  rw [← Int.natCast_mul, ← Int.natCast_mul] at n1 n2
  have e1 : R * B + R' * B ≤ 2 * (A * O) := by omega
  have e2 : 2 * (A' * O) ≤ R * B' + R' * B' := by omega
  have e3 : 2 * (A' * O) * B ≤ 2 * (A * O) * B' := by
    calc 2 * (A' * O) * B ≤ (R * B' + R' * B') * B := Nat.mul_le_mul_right _ e2
      _ = (R * B + R' * B) * B' := by rw [Nat.add_mul, Nat.add_mul]; ac_rfl
      _ ≤ 2 * (A * O) * B' := Nat.mul_le_mul_right _ e1
  have e4 : A' * O * B ≤ A * O * B' := by
    rw [Nat.mul_assoc 2, Nat.mul_assoc 2] at e3; omega
  omega
/-- a quotient of finite data, by their magnitudes -/
theorem own_quot {s t : Bool} {c d : Nat} {q r : Int} (hx : Jvm.FP.Core.fits b64 (.fin s c q)) (hy : Jvm.FP.Core.fits b64 (.fin t d r)) (hd : zmag b64 (.fin t d r) ≠ 0) :
    quotient b64 (.fin s c q) (.fin t d r) = roundRatio b64 (s != t) (zmag b64 (.fin s c q)) (zmag b64 (.fin t d r)) 0 := by
  have hd0 : d ≠ 0 := fun e => hd (by subst e; exact Nat.zero_mul _)
  have hq := hx.2.1
  have hr := hy.2.1
  show (if d = 0 then _ else roundRatio b64 (s != t) c d (q - r)) = _
  rw [if_neg hd0]
  refine roundRatio_congr (Nat.pos_of_ne_zero hd0) (Nat.pos_of_ne_zero hd) ?_
  show c * (d * 2 ^ (r - b64.qmin).toNat) * 2 ^ (q - r - 0).toNat = c * 2 ^ (q - b64.qmin).toNat * d * 2 ^ (0 - (q - r)).toNat
  have : (r - b64.qmin).toNat + (q - r - 0).toNat = (q - b64.qmin).toNat + (0 - (q - r)).toNat := by omega
  calc c * (d * 2 ^ (r - b64.qmin).toNat) * 2 ^ (q - r - 0).toNat = c * d * (2 ^ (r - b64.qmin).toNat * 2 ^ (q - r - 0).toNat) := by ac_rfl
    _ = c * d * (2 ^ (q - b64.qmin).toNat * 2 ^ (0 - (q - r)).toNat) := by rw [← Nat.pow_add, ← Nat.pow_add, this]
    _ = c * 2 ^ (q - b64.qmin).toNat * d * 2 ^ (0 - (q - r)).toNat := by ac_rfl

theorem own_l2d (a : Int64) : val64 (l2d a) = roundRatio b64 (decide (a.toInt < 0)) a.toInt.natAbs 1 0 := by rw [val64_l2d]; rfl
/-- the magnitude of a long as a double -/
def own_m (a : Int64) : Nat := zmag b64 (val64 (l2d a))
theorem own_lfin (a : Int64) : ∃ c q, roundRatio b64 (decide (a.toInt < 0)) a.toInt.natAbs 1 0 = .fin (decide (a.toInt < 0)) c q := by
  rcases roundRatio_cases b64 (decide (a.toInt < 0)) a.toInt.natAbs 1 0 with h | h
  · exact h
  · exact absurd (by rw [own_l2d]; exact h) ((l2d_fin a).ne_inf _)
theorem own_rfin {s t : Bool} {A B : Nat} {c : Nat} {q : Int} (h : roundRatio b64 s A B 0 = .fin s c q) : ∃ c q, roundRatio b64 t A B 0 = .fin t c q := by
  by_cases e : t = s
  · subst e; exact ⟨c, q, h⟩
  · have e2 : t = !s := by cases s <;> cases t <;> simp_all
    subst e2
    exact ⟨c, q, by rw [← negate_roundRatio, h]; rfl⟩
theorem own_lmono {a b : Int64} (h : a.toInt.natAbs ≤ b.toInt.natAbs) : own_m a ≤ own_m b := by
  unfold own_m
  rw [own_l2d, own_l2d, own_zs (decide (a.toInt < 0)) false, own_zs (decide (b.toInt < 0)) false]
  obtain ⟨c, q, h1⟩ := own_lfin a
  obtain ⟨c', q', h2⟩ := own_lfin b
  obtain ⟨c1, q1, g1⟩ := own_rfin (t := false) h1
  obtain ⟨c2, q2, g2⟩ := own_rfin (t := false) h2
  exact own_mono (by decide) (by decide) (by omega) g1 g2
theorem own_mi {a : Int64} (h : a.toInt.natAbs ≤ 2 ^ 53) : own_m a = a.toInt.natAbs * one64 := by
  have h1 := DInt_zval (l2d_int h)
  have h2 := congrArg Int.natAbs h1
  rw [Int.natAbs_mul, Int.natAbs_natCast] at h2
  rw [own_zval, natAbs_signed] at h2
  exact h2
theorem own_mpos {a : Int64} (h : a ≠ 0) : one64 ≤ own_m a := by
  have h1 : own_m 1 = one64 := by rw [own_mi (by decide), show (1 : Int64).toInt.natAbs = 1 from rfl, Nat.one_mul]
  have h2 := int64_ne h
  rw [← h1]
  refine own_lmono ?_
  have : (1 : Int64).toInt = 1 := rfl
  omega
theorem own_mzero : own_m 0 = 0 := by rw [own_mi (by decide), show (0 : Int64).toInt.natAbs = 0 from rfl, Nat.zero_mul]
theorem own_mtop (a : Int64) : own_m a < 2 ^ 1139 := by
  unfold own_m
  rw [zmag_bits (l2d_fin a).ne_nan]
  have h := l2d_mag a
  rw [← tails_b64] at h
  have h2 := unitsOf_lt (f := b64) h
  rw [unitsOf_start (by decide), tails_b64] at h2
  have e : 2 ^ 52 * 2 ^ (1088 - 1) = 2 ^ 1139 := by rw [← Nat.pow_add]
  rw [e] at h2
  exact h2
theorem own_q {a d : Int64} (hd : d ≠ 0) : val64 (ddiv (l2d a) (l2d d)) = roundRatio b64 (decide (a.toInt < 0) != decide (d.toInt < 0)) (own_m a) (own_m d) 0 := by
  obtain ⟨c, q, h1⟩ := own_lfin a
  obtain ⟨c', q', h2⟩ := own_lfin d
  have hm := own_mpos hd
  have ho := one64_pos
  rw [← own_l2d] at h1 h2
  unfold own_m at hm ⊢
  rw [val64_ddiv]
  have f1 := val64_fits (l2d a)
  have f2 := val64_fits (l2d d)
  rw [h1] at f1 ⊢
  rw [h2] at f2 hm ⊢
  exact own_quot f1 f2 (by omega)
theorem own_qfin {a d : Int64} (hd : d ≠ 0) : DFin (ddiv (l2d a) (l2d d)) := by
  have h := ddiv_mag (a := l2d a) (b := l2d d) (K := 1088) (L := 1023) (l2d_mag a) (l2d_big (int64_ne hd)).1 (l2d_big (int64_ne hd)).2 (by decide) (by decide)
  exact fin_of_lt h (by decide)
theorem own_qf {a d : Int64} (hd : d ≠ 0) (t : Bool) : ∃ c q, roundRatio b64 t (own_m a) (own_m d) 0 = .fin t c q := by
  rcases roundRatio_cases b64 (decide (a.toInt < 0) != decide (d.toInt < 0)) (own_m a) (own_m d) 0 with ⟨c, q, h⟩ | h
  · exact own_rfin h
  · exact absurd (by rw [own_q hd]; exact h) ((own_qfin hd).ne_inf _)
/-- the quotient's magnitude -/
def own_r (a d : Int64) : Nat := zmag b64 (roundRatio b64 false (own_m a) (own_m d) 0)
theorem own_zq {a d : Int64} (hd : d ≠ 0) : zval b64 (val64 (ddiv (l2d a) (l2d d))) = signed (decide (a.toInt < 0) != decide (d.toInt < 0)) (own_r a d) := by
  rw [own_zval, own_q hd, sgn_roundRatio, own_zs _ false]; rfl
theorem own_rmono {a b d : Int64} (hd : d ≠ 0) (h : a.toInt.natAbs ≤ b.toInt.natAbs) : own_r a d ≤ own_r b d := by
  obtain ⟨c, q, h1⟩ := own_qf (a := a) hd false
  obtain ⟨c', q', h2⟩ := own_qf (a := b) hd false
  have hm := own_mpos hd
  have ho := one64_pos
  exact own_mono (by omega) (by omega) (Nat.mul_le_mul_right _ (own_lmono h)) h1 h2
theorem own_rpos {a d : Int64} (ha : a ≠ 0) (hd : d ≠ 0) : 0 < own_r a d := by
  have hm := own_mpos hd
  have ho := one64_pos
  have h1 := zmag_roundRatio_ge good_b64 (s := false) (A := own_m a) (B := own_m d) (e := 0) (e0 := b64.qmin) (V := .fin false 1 b64.qmin) (by omega) ⟨by decide, by decide, by decide, Or.inl rfl⟩ (Int.le_refl _) own_q0 (by
    have z1 : zmag b64 (.fin false 1 b64.qmin) = 1 := by decide
    rw [own_units, own_p1, z1]
    have t := own_mtop d
    have u := Nat.mul_le_mul_right one64 (own_mpos ha)
    have e : 2 ^ 1139 ≤ one64 * one64 := by rw [own_one, ← Nat.pow_add]; exact Nat.pow_le_pow_right (by decide) (by decide)
    omega)
  have z1 : zmag b64 (.fin false 1 b64.qmin) = 1 := by decide
  rw [z1] at h1
  exact h1
theorem own_rzero (d : Int64) : own_r 0 d = 0 := by
  unfold own_r
  rw [own_mzero]
  exact own_rr0 _ _ _

/-- the value of a quotient -/
def own_v (a d : Int64) : UInt64 := if d = 0 then 0 else ddiv (l2d a) (l2d d)
theorem own_z0 : val64 0 ≠ .nan := by rw [val64_zero]; exact Datum.noConfusion
theorem own_vfin (a d : Int64) : DFin (own_v a d) := by
  unfold own_v
  split
  · exact ⟨_, _, _, val64_zero⟩
  · rename_i h; exact own_qfin h
theorem own_vnn (a d : Int64) : val64 (own_v a d) ≠ .nan := (own_vfin a d).ne_nan
theorem own_vz0 (a : Int64) : zval b64 (val64 (own_v a 0)) = 0 := by unfold own_v; rw [if_pos rfl]; exact zval64_zero
theorem own_vz {a d : Int64} (h : d ≠ 0) : zval b64 (val64 (own_v a d)) = signed (decide (a.toInt < 0) != decide (d.toInt < 0)) (own_r a d) := by
  unfold own_v; rw [if_neg h]; exact own_zq h
theorem own_ceq {x y : UInt64} (nx : val64 x ≠ .nan) (ny : val64 y ≠ .nan) (h : zval b64 (val64 x) = zval b64 (val64 y)) : dcmp x y = some .eq := by rw [dcmp_zval nx ny, (compare_eq_iff _ _).mpr h]
theorem own_clt {x y : UInt64} (nx : val64 x ≠ .nan) (ny : val64 y ≠ .nan) (h : zval b64 (val64 x) < zval b64 (val64 y)) : dcmp x y = some .lt := by rw [dcmp_zval nx ny, (compare_lt_iff _ _).mpr h]
theorem own_cgt {x y : UInt64} (nx : val64 x ≠ .nan) (ny : val64 y ≠ .nan) (h : zval b64 (val64 y) < zval b64 (val64 x)) : dcmp x y = some .gt := by rw [dcmp_zval nx ny, (compare_gt_iff _ _).mpr h]
theorem own_L1 {a d : Int64} (h : d = 0 ∨ a = 0) : dcmp (own_v a d) 0 = some .eq := by
  refine own_ceq (own_vnn a d) own_z0 ?_
  rw [zval64_zero]
  by_cases hd : d = 0
  · subst hd; exact own_vz0 a
  · rcases h with h | h
    · exact absurd h hd
    · subst h; rw [own_vz hd, own_rzero, signed_zero]
theorem own_L2 {a d : Int64} (ha : a ≠ 0) (hd : d ≠ 0) (h : (0 < a.toInt) ↔ (0 < d.toInt)) : dcmp (own_v a d) 0 = some .gt := by
  refine own_cgt (own_vnn a d) own_z0 ?_
  have h1 := int64_ne ha
  have h2 := int64_ne hd
  have h3 := own_rpos ha hd
  have e : (decide (a.toInt < 0) != decide (d.toInt < 0)) = false := by
    by_cases q : a.toInt < 0
    · have : d.toInt < 0 := by omega
      simp [q, this]
    · have : ¬ d.toInt < 0 := by omega
      simp [q, this]
  rw [zval64_zero, own_vz hd, e]
  show (0 : Int) < (own_r a d : Int)
  omega
theorem own_L3 {a d : Int64} (ha : a ≠ 0) (hd : d ≠ 0) (h : ¬ ((0 < a.toInt) ↔ (0 < d.toInt))) : dcmp (own_v a d) 0 = some .lt := by
  refine own_clt (own_vnn a d) own_z0 ?_
  have h1 := int64_ne ha
  have h2 := int64_ne hd
  have h3 := own_rpos ha hd
  have e : (decide (a.toInt < 0) != decide (d.toInt < 0)) = true := by
    by_cases q : a.toInt < 0
    · have : ¬ d.toInt < 0 := by omega
      simp [q, this]
    · have : d.toInt < 0 := by omega
      simp [q, this]
  rw [zval64_zero, own_vz hd, e]
  show -(own_r a d : Int) < 0
  omega
theorem own_vmono {a b d : Int64} (h : a.toInt ≤ b.toInt) (hd : 0 < d.toInt) : zval b64 (val64 (own_v a d)) ≤ zval b64 (val64 (own_v b d)) := by
  have h0 : d ≠ 0 := fun e => by subst e; exact absurd hd (by decide)
  rw [own_vz h0, own_vz h0]
  have e : decide (d.toInt < 0) = false := decide_eq_false (by omega)
  rw [e]
  by_cases q : a.toInt < 0 <;> by_cases r : b.toInt < 0
  · have := own_rmono (a := b) (b := a) h0 (by omega)
    simp [q, r, own_sT, own_sF] <;> omega
  · simp [q, r, own_sT, own_sF] <;> omega
  · omega
  · have := own_rmono (a := a) (b := b) h0 (by omega)
    simp [q, r, own_sT, own_sF] <;> omega
theorem own_vanti {a b d : Int64} (h : a.toInt ≤ b.toInt) (hd : d.toInt < 0) : zval b64 (val64 (own_v b d)) ≤ zval b64 (val64 (own_v a d)) := by
  have h0 : d ≠ 0 := fun e => by subst e; exact absurd hd (by decide)
  rw [own_vz h0, own_vz h0]
  have e : decide (d.toInt < 0) = true := decide_eq_true hd
  rw [e]
  by_cases q : a.toInt < 0 <;> by_cases r : b.toInt < 0
  · have := own_rmono (a := b) (b := a) h0 (by omega)
    simp [q, r, own_sT, own_sF] <;> omega
  · simp [q, r, own_sT, own_sF] <;> omega
  · omega
  · have := own_rmono (a := a) (b := b) h0 (by omega)
    simp [q, r, own_sT, own_sF] <;> omega
theorem own_cle {x y : UInt64} (nx : val64 x ≠ .nan) (ny : val64 y ≠ .nan) (h : zval b64 (val64 x) ≤ zval b64 (val64 y)) : dcmp x y = some .lt ∨ dcmp x y = some .eq := by
  by_cases e : zval b64 (val64 x) = zval b64 (val64 y)
  · exact Or.inr (own_ceq nx ny e)
  · exact Or.inl (own_clt nx ny (by omega))
theorem own_cge {x y : UInt64} (nx : val64 x ≠ .nan) (ny : val64 y ≠ .nan) (h : zval b64 (val64 y) ≤ zval b64 (val64 x)) : dcmp x y = some .gt ∨ dcmp x y = some .eq := by
  by_cases e : zval b64 (val64 x) = zval b64 (val64 y)
  · exact Or.inr (own_ceq nx ny e)
  · exact Or.inl (own_cgt nx ny (by omega))
theorem own_L4 {a b d : Int64} (hd : d ≠ 0) (h : (a.toInt < b.toInt) ↔ (0 < d.toInt)) : dcmp (own_v a d) (own_v b d) = some .lt ∨ dcmp (own_v a d) (own_v b d) = some .eq := by
  have h2 := int64_ne hd
  refine own_cle (own_vnn _ _) (own_vnn _ _) ?_
  by_cases q : 0 < d.toInt
  · exact own_vmono (by omega) q
  · exact own_vanti (by omega) (by omega)
theorem own_L5 {a b d : Int64} (hd : d ≠ 0) (h : ¬ ((a.toInt < b.toInt) ↔ (0 < d.toInt))) : dcmp (own_v a d) (own_v b d) = some .gt ∨ dcmp (own_v a d) (own_v b d) = some .eq := by
  have h2 := int64_ne hd
  refine own_cge (own_vnn _ _) (own_vnn _ _) ?_
  by_cases q : 0 < d.toInt
  · exact own_vmono (by omega) q
  · exact own_vanti (by omega) (by omega)
theorem own_ratio {a d : Int64} (ha : a.toInt.natAbs ≤ 2 ^ 53) (hd : d.toInt.natAbs ≤ 2 ^ 53) (h0 : d ≠ 0) (s : Bool) : roundRatio b64 s (own_m a) (own_m d) 0 = roundRatio b64 s a.toInt.natAbs d.toInt.natAbs 0 := by
  have h2 := int64_ne h0
  have hm := own_mpos h0
  have ho := one64_pos
  refine roundRatio_congr (by omega) (by omega) ?_
  rw [own_mi ha, own_mi hd]
  show a.toInt.natAbs * one64 * d.toInt.natAbs * 2 ^ 0 = a.toInt.natAbs * (d.toInt.natAbs * one64) * 2 ^ 0
  generalize one64 = O
  ac_rfl
theorem own_L6 {k : Int32} {a d : Int64} (hd : d ≠ 0) (hb : d.toInt.natAbs ≤ 2 ^ 53) (ha : a.toInt = k.toInt * d.toInt) (h : a.toInt.natAbs ≤ 2 ^ 53) : dcmp (own_v a d) (i2d k) = some .eq := by
  have h2 := int64_ne hd
  have hk := i2d_int k
  refine own_ceq (own_vnn _ _) (DInt_ne_nan hk) ?_
  have e1 : own_r a d = zmag b64 (roundRatio b64 false k.toInt.natAbs 1 0) := by
    unfold own_r
    rw [own_ratio h hb hd]
    congr 1
    refine roundRatio_congr (by omega) (by decide) ?_
    show a.toInt.natAbs * 1 * 2 ^ 0 = k.toInt.natAbs * d.toInt.natAbs * 2 ^ 0
    rw [ha, Int.natAbs_mul, Nat.mul_one]
  have e2 : val64 (i2d k) = roundRatio b64 (decide (k.toInt < 0)) k.toInt.natAbs 1 0 := by rw [val64_i2d]; rfl
  have e3 : zval b64 (val64 (i2d k)) = signed (decide (k.toInt < 0)) (own_r a d) := by
    rw [own_zval, e2, sgn_roundRatio, own_zs _ false, e1]
  rw [e3, own_vz hd]
  by_cases hk0 : k.toInt = 0
  · have : own_r a d = 0 := by
      rw [e1, hk0]; exact own_rr0 _ _ _
    rw [this, signed_zero, signed_zero]
  · congr 1
    by_cases q : d.toInt < 0
    · by_cases r : k.toInt < 0
      · have : ¬ a.toInt < 0 := by rw [ha]; have := Int.mul_pos_of_neg_of_neg r q; omega
        simp [q, r, this]
      · have : a.toInt < 0 := by rw [ha]; have := Int.mul_neg_of_pos_of_neg (show 0 < k.toInt by omega) q; omega
        simp [q, r, this]
    · by_cases r : k.toInt < 0
      · have : a.toInt < 0 := by rw [ha]; have := Int.mul_neg_of_neg_of_pos r (show 0 < d.toInt by omega); omega
        simp [q, r, this]
      · have : ¬ a.toInt < 0 := by rw [ha]; have := Int.mul_pos (show 0 < k.toInt by omega) (show 0 < d.toInt by omega); omega
        simp [q, r, this]

def own_half : UInt64 := 4602678819172646912
theorem own_hv : val64 own_half = .fin false (2 ^ 52) (-53) := by decide +kernel
theorem own_o2 : one64 = 2 * 2 ^ 1073 := by rw [own_one, ← Nat.pow_succ']
theorem own_hz : zval b64 (val64 own_half) = ((2 ^ 1073 : Nat) : Int) := by
  rw [own_hv]; show ((2 ^ 52 * 2 ^ ((-53 : Int) - b64.qmin).toNat : Nat) : Int) = _
  rw [show ((-53 : Int) - b64.qmin).toNat = 1021 from by decide, ← Nat.pow_add]
theorem own_hfin : DFin own_half := ⟨_, _, _, own_hv⟩
theorem own_L7 {k : Int32} {a : Int64} (ha : a.toInt = 2 * k.toInt + 1) (h : a.toInt.natAbs ≤ 2 ^ 53) : dcmp (own_v a 2) (dadd (i2d k) own_half) = some .eq := by
  have hd : (2 : Int64) ≠ 0 := by decide
  have e2 : (2 : Int64).toInt = 2 := rfl
  have hk := i2d_int k
  obtain ⟨s, c, q, hf⟩ := i2d_fin k
  have ff := val64_fits (i2d k)
  have fh := val64_fits own_half
  have hz := DInt_zval hk
  rw [hf] at ff hz
  rw [own_hv] at fh
  obtain ⟨sg, n, e, g1, g2, g3⟩ := sum_units ff fh
  have hzh := own_hz
  rw [own_hv] at hzh
  rw [hz, hzh, own_o2] at g3
  have g4 : signed sg (inUnits n e b64.qmin) = a.toInt * ((2 ^ 1073 : Nat) : Int) := by
    rw [g3, ha]
    generalize 2 ^ 1073 = O
    rw [Int.add_mul, Int.one_mul, Int.natCast_mul, Int.mul_comm 2, Int.mul_assoc]
    rfl
  have hO : 0 < 2 ^ 1073 := Nat.two_pow_pos _
  have hne : a.toInt ≠ 0 := by omega
  have g5 : inUnits n e b64.qmin = a.toInt.natAbs * 2 ^ 1073 := by
    have := congrArg Int.natAbs g4
    rw [natAbs_signed, Int.natAbs_mul, Int.natAbs_natCast] at this
    exact this
  have g6 : sg = decide (a.toInt < 0) := by
    have hp : 0 < inUnits n e b64.qmin := by rw [g5]; exact Nat.mul_pos (by omega) hO
    rw [← signed_lt_zero sg hp, g4]
    refine decide_eq_decide.mpr ⟨fun z => ?_, fun z => ?_⟩
    · refine Int.lt_of_not_ge fun y => ?_
      have := Int.mul_nonneg y (Int.natCast_nonneg (2 ^ 1073))
      omega
    · exact Int.mul_neg_of_neg_of_pos z (Int.natCast_pos.mpr hO)
  have v1 : val64 (dadd (i2d k) own_half) = roundRatio b64 (decide (a.toInt < 0)) n 1 e := by
    rw [val64_dadd, hf, own_hv, g1, g6]; rfl
  have v2 : val64 (own_v a 2) = roundRatio b64 (decide (a.toInt < 0)) a.toInt.natAbs 2 0 := by
    unfold own_v
    rw [if_neg hd, own_q hd, own_ratio h (by decide) hd]
    have : (decide (a.toInt < 0) != decide ((2 : Int64).toInt < 0)) = decide (a.toInt < 0) := by rw [e2]; simp
    rw [this]; rfl
  have v3 : val64 (own_v a 2) = val64 (dadd (i2d k) own_half) := by
    rw [v1, v2]
    refine roundRatio_congr (by decide) (by decide) ?_
    rw [qmin_b64] at g2
    have g7 : n * 2 ^ (e + 1074).toNat = a.toInt.natAbs * 2 ^ 1073 := by
      rw [← g5]; rw [own_iu, qmin_b64]; congr 2
    refine Nat.eq_of_mul_eq_mul_right hO ?_
    by_cases he : 0 ≤ e
    · rw [show (0 - e).toNat = 0 by omega, show (e - 0).toNat = e.toNat by omega]
      rw [show (e + 1074).toNat = e.toNat + 1074 by omega, Nat.pow_add, Nat.pow_succ 2 1073] at g7
      generalize 2 ^ 1073 = O at *
      generalize 2 ^ e.toNat = E at *
      rw [Nat.pow_zero, Nat.mul_one, Nat.mul_one, ← g7]
      ac_rfl
    · rw [show (e - 0).toNat = 0 by omega]
      have e5 : (2 : Nat) ^ 1074 = 2 ^ (e + 1074).toNat * 2 ^ (0 - e).toNat := by rw [← Nat.pow_add]; congr 1; omega
      rw [Nat.pow_succ 2 1073] at e5
      generalize 2 ^ (e + 1074).toNat = F at *
      generalize 2 ^ (0 - e).toNat = E at *
      generalize 2 ^ 1073 = O at *
      calc a.toInt.natAbs * 1 * E * O = (a.toInt.natAbs * O) * E := by rw [Nat.mul_one]; ac_rfl
        _ = n * (F * E) := by rw [← g7]; ac_rfl
        _ = n * 2 * 2 ^ 0 * O := by rw [← e5, Nat.pow_zero]; ac_rfl
  refine own_ceq (own_vnn _ _) ?_ (by rw [v3])
  rw [← v3]; exact own_vnn _ _
end Jvm.OwnFp
namespace Jvm.OwnFp
open Jvm.Free.Fl
theorem own_nnq {a d : Int64} (h : ¬ (d = (0 : Int64))) : NoNaN64 (FP.ddiv (FP.l2d a) (FP.l2d d)) := (fin64_core.mpr (own_qfin h)).noNaN
theorem own_nna (k : Int32) : NoNaN64 (FP.dadd (FP.i2d k) (4602678819172646912 : UInt64)) := Jvm.Free.Fl.dadd_out (fin64_core.mpr (Jvm.FP.Core.i2d_fin k)).noNaN (fin64_core.mpr own_hfin)
end Jvm.OwnFp
namespace Jvm.OwnGo
open Jvm.RoadKit
theorem nar_b (x : Int32) : nar .boolean x = x &&& 1 := rfl
theorem nbT {P : Prop} [Decidable P] : nar .boolean (if P then (1 : Int32) else (0 : Int32)) = 1 ↔ P := by
  by_cases h : P
  · simp only [if_pos h]; exact ⟨fun _ => h, fun _ => rfl⟩
  · simp only [if_neg h]; exact ⟨fun q => absurd q (by decide), fun q => absurd q h⟩
theorem own_nat {i : Nat} (h : i < 2147483648) : i.toInt32.toInt = i := len_toInt h
theorem own_cl {i : Nat} (h : i < 2147483648) : i.toInt32.toNatClampNeg = i := by simp only [Int32.toNatClampNeg, own_nat h]; omega
theorem own_lt {i n : Nat} (hi : i < 2147483648) (hn : n < 2147483648) : i.toInt32 < n.toInt32 ↔ i < n := by
  rw [Int32.lt_iff_toInt_lt, own_nat hi, own_nat hn]; omega
theorem own_inN {i n : Nat} (hi : i < 2147483648) (h : i < n) : Inb i.toInt32 n := inb_int (by rw [own_nat hi]; omega) (by rw [own_nat hi]; omega)
theorem own_rd {α : Type} (F : Nat → α) {i : Nat} (h : i < 2147483648) : F i.toInt32.toNatClampNeg = F i := by rw [own_cl h]
theorem own_succ {i : Nat} (h : i < 2147483647) : i.toInt32 + (1 : Int32) = (i + 1).toInt32 := by
  rw [← Int32.toInt_inj]
  have h1 := c_iadd i.toInt32 1
  have h2 := rng32 (i.toInt32 + 1)
  have h3 : (1 : Int32).toInt = 1 := rfl
  rw [own_nat (by omega), h3] at h1
  rw [own_nat (by omega)]
  omega
theorem AV.small {Z : State} {h : Heap} {a : Addr} {ty : ClassFile.FieldType} {n : Nat} {f : Nat → Value} (V : AV Z h a ty n f) : n < 2147483648 := by
  obtain ⟨c, -, -, r, -⟩ := V; exact r
theorem own_inb {Z : State} {h : Heap} {a : Addr} {ty : ClassFile.FieldType} {n : Nat} {f : Nat → Value} (V : AV Z h a ty n f) {j : Int32} (h0 : ¬ (j < (0 : Int32))) (h1 : j < n.toInt32) : Inb j n := by
  have hn := V.small
  have e0 : (0 : Int32).toInt = 0 := rfl
  rw [Int32.lt_iff_toInt_lt] at h0 h1
  rw [own_nat hn] at h1
  exact inb_int (by omega) (by omega)
end Jvm.OwnGo
namespace Jvm.Pilot.@@N@@
open Jvm Jvm.ClassFile Sem Op Lib Jvm.Free Jvm.Stand Jvm.LawKit Jvm.RoadKit Bundle Jvm.Pilot.@@N@@.Jvm.D
open Jvm.OwnGo
theorem pn0 : plainFor (⟨"java/lang/Record", "<init>", "()V"⟩ : MethodName) = true := by decide +kernel
theorem iR_0 : I1 jdk_30_method_1_code 0 (.aload_n 0) 1 1 := ⟨(by decide +kernel), rfl⟩
theorem iR_1 : I1 jdk_30_method_1_code 1 (.invokespecial 1) 3 4 := ⟨(by decide +kernel), rfl⟩
theorem iR_4 : I1 jdk_30_method_1_code 4 (.return_) 1 5 := ⟨(by decide +kernel), rfl⟩
theorem efR (m : MethodId) (a0 : Addr) : entryFrame m #[(.ref a0)] 1 = mkF m 0 #[.val (.ref a0)] [] := by first | (simp [entryFrame, mkF, argsToLocals, Value.category]; done) | rfl
def QR (Z : State) (a0 : Addr) (h0 : Heap) (n0 : Nat) (v : Option Value) (h : Heap) : Prop := v = none ∧ h = h0
set_option maxRecDepth 65536 in
set_option maxHeartbeats 40000000 in
theorem rmR (l : Launch) (Z : State) (aZ : Array Value) (hw : ∀ d ∈ tables_1, d.before aZ Z = true) (a0 : Addr) (h0 : Heap) (n0 : Nat) (Z0 : n0 ≤ h0.size) :
    Ctr l Z (⟨"java/lang/Record", "<init>", "()V"⟩ : MethodName) jdk_30_method_1_code 1 none ({ frames := 1, cells := 0, slots := 0, locals := 12 } : Room) #[(.ref a0)] h0 n0 (QR Z a0 h0 n0) := by
  refine Ctr.of_go pn0 (fun m => efR m a0) ?_
  intro p e s m below meth c hnm C
  refine g_aloadN C iR_0 rfl rfl ?_
  refine g_initO C iR_1 (hw _ (List.mem_of_getElem? (i := 11) rfl)) (hw _ (List.mem_of_getElem? (i := 12) rfl)) (hw _ (List.mem_of_getElem? (i := 13) rfl)) rfl (by decide) 0 (Nat.le_of_eq rfl) (by decide) ?_
  exact g_retV C iR_4 rfl (by decide) (by decide) ⟨rfl, rfl⟩
theorem pd0 : parseMethodDescriptor "()V" = some ⟨[], none⟩ := by decide +kernel
theorem pn1 : plainFor (⟨"com/example/linkweave/linkweave/Quotient", "<init>", "(JJ)V"⟩ : MethodName) = true := by decide +kernel
theorem iI_0 : I1 prog_33_method_1_code 0 (.aload_n 0) 1 1 := ⟨(by decide +kernel), rfl⟩
theorem iI_1 : I1 prog_33_method_1_code 1 (.invokespecial 1) 3 4 := ⟨(by decide +kernel), rfl⟩
theorem iI_4 : I1 prog_33_method_1_code 4 (.aload_n 0) 1 5 := ⟨(by decide +kernel), rfl⟩
theorem iI_5 : I1 prog_33_method_1_code 5 (.lload_n 1) 1 6 := ⟨(by decide +kernel), rfl⟩
theorem iI_6 : I1 prog_33_method_1_code 6 (.putfield 7) 3 9 := ⟨(by decide +kernel), rfl⟩
theorem iI_9 : I1 prog_33_method_1_code 9 (.aload_n 0) 1 10 := ⟨(by decide +kernel), rfl⟩
theorem iI_10 : I1 prog_33_method_1_code 10 (.lload_n 3) 1 11 := ⟨(by decide +kernel), rfl⟩
theorem iI_11 : I1 prog_33_method_1_code 11 (.putfield 13) 3 14 := ⟨(by decide +kernel), rfl⟩
theorem iI_14 : I1 prog_33_method_1_code 14 (.return_) 1 15 := ⟨(by decide +kernel), rfl⟩
theorem efI (m : MethodId) (a0 : Addr) (q1 : Int64) (q2 : Int64) : entryFrame m #[(.ref a0), (.long q1), (.long q2)] 5 = mkF m 0 #[.val (.ref a0), .val (.long q1), .second, .val (.long q2), .second] [] := by first | (simp [entryFrame, mkF, argsToLocals, Value.category]; done) | rfl
def QI (Z : State) (a0 : Addr) (q1 : Int64) (q2 : Int64) (w_dividend_a0 : Int64) (w_divisor_a0 : Int64) (h0 : Heap) (n0 : Nat) (v : Option Value) (h : Heap) : Prop := v = none ∧ Keep h0 h [a0] ∧ Exa Z h a0 "com/example/linkweave/linkweave/Quotient" ∧ Fld Z h a0 "com/example/linkweave/linkweave/Quotient" "dividend" "J" (.long q1) ∧ Fld Z h a0 "com/example/linkweave/linkweave/Quotient" "divisor" "J" (.long q2)
set_option maxRecDepth 65536 in
set_option maxHeartbeats 40000000 in
theorem rmI (l : Launch) (Z : State) (aZ : Array Value) (hw : ∀ d ∈ tables_1, d.before aZ Z = true) (a0 : Addr) (q1 : Int64) (q2 : Int64) (w_dividend_a0 : Int64) (w_divisor_a0 : Int64) (h0 : Heap) (n0 : Nat) (Z0 : n0 ≤ h0.size) (E_a0 : Exa Z h0 a0 "com/example/linkweave/linkweave/Quotient") (F_dividend_a0 : Fld Z h0 a0 "com/example/linkweave/linkweave/Quotient" "dividend" "J" (.long w_dividend_a0)) (g_a0 : n0 ≤ a0) (F_divisor_a0 : Fld Z h0 a0 "com/example/linkweave/linkweave/Quotient" "divisor" "J" (.long w_divisor_a0)) :
    Ctr l Z (⟨"com/example/linkweave/linkweave/Quotient", "<init>", "(JJ)V"⟩ : MethodName) prog_33_method_1_code 5 none ({ frames := 2, cells := 0, slots := 0, locals := 24 } : Room) #[(.ref a0), (.long q1), (.long q2)] h0 n0 (QI Z a0 q1 q2 w_dividend_a0 w_divisor_a0 h0 n0) := by
  refine Ctr.of_go pn1 (fun m => efI m a0 q1 q2) ?_
  intro p e s m below meth c hnm C
  refine g_aloadN C iI_0 rfl rfl ?_
  refine g_callI C (rmR l Z aZ hw a0 h0 n0 Z0) (a := a0) iI_1 rfl (hw _ (List.mem_of_getElem? (i := 6) rfl)) (hw _ (List.mem_of_getElem? (i := 7) rfl)) (hw _ (List.mem_of_getElem? (i := 9) rfl)) (hw _ (List.mem_of_getElem? (i := 10) rfl)) rfl (by decide) (argsL := []) (rest := []) rfl rfl pd0 rfl rfl 0 (Nat.le_of_eq rfl) (by decide) (by decide) (by decide) (by decide) rfl rfl ?_
  rintro _ _ ⟨rfl, he2⟩
  refine Go.heap he2.symm ?_
  refine Go.none' ?_
  refine g_aloadN C iI_4 rfl rfl ?_
  refine g_lloadN C iI_5 rfl ?_
  refine g_putF C iI_6 (host := "") (Or.inl (hw _ (List.mem_of_getElem? (i := 14) rfl))) Via.refl F_dividend_a0 E_a0 (Or.inr ⟨(hw _ (List.mem_of_getElem? (i := 15) rfl)), rfl, hnm⟩) (hw _ (List.mem_of_getElem? (i := 1) rfl)) (ty := .long) (by decide) rfl rfl g_a0 (fun h3 W3 => ?_)
  have E_a0_c3 := Exa.wr W3 E_a0
  have F_divisor_a0_c3 := Fld.other W3 F_divisor_a0 (Or.inr (slot_ne (a0 := aZ) (Or.inr (hw _ (List.mem_of_getElem? (i := 17) rfl))) (Or.inr (hw _ (List.mem_of_getElem? (i := 15) rfl))) (by decide) (t := .long) (t' := .long) (by decide) (by decide)))
  have Fw3 := Fld.same W3 F_dividend_a0
  have K3 := Keep.wr (Keep.refl h0 [a0]) W3 (Or.inl (List.mem_of_getElem? (i := 0) rfl))
  have Z3 : n0 ≤ h3.size := Nat.le_trans Z0 (Keep.of_wr W3).1
  refine g_aloadN C iI_9 rfl rfl ?_
  refine g_lloadN C iI_10 rfl ?_
  refine g_putF C iI_11 (host := "") (Or.inl (hw _ (List.mem_of_getElem? (i := 16) rfl))) Via.refl F_divisor_a0_c3 E_a0_c3 (Or.inr ⟨(hw _ (List.mem_of_getElem? (i := 17) rfl)), rfl, hnm⟩) (hw _ (List.mem_of_getElem? (i := 1) rfl)) (ty := .long) (by decide) rfl rfl g_a0 (fun h4 W4 => ?_)
  have E_a0_c4 := Exa.wr W4 E_a0_c3
  have F_dividend_a0_c4 := Fld.other W4 Fw3 (Or.inr (slot_ne (a0 := aZ) (Or.inr (hw _ (List.mem_of_getElem? (i := 15) rfl))) (Or.inr (hw _ (List.mem_of_getElem? (i := 17) rfl))) (by decide) (t := .long) (t' := .long) (by decide) (by decide)))
  have Fw4 := Fld.same W4 F_divisor_a0_c3
  have K4 := Keep.wr K3 W4 (Or.inl (List.mem_of_getElem? (i := 0) rfl))
  have Z4 : n0 ≤ h4.size := Nat.le_trans Z3 (Keep.of_wr W4).1
  exact g_retV C iI_14 rfl (by decide) (by decide) ⟨rfl, K4, E_a0_c4, F_dividend_a0_c4, Fw4⟩
theorem pn2 : plainFor (⟨"com/example/linkweave/linkweave/Quotient", "value", "()D"⟩ : MethodName) = true := by decide +kernel
theorem iV_0 : I1 prog_33_method_2_code 0 (.aload_n 0) 1 1 := ⟨(by decide +kernel), rfl⟩
theorem iV_1 : I1 prog_33_method_2_code 1 (.getfield 13) 3 4 := ⟨(by decide +kernel), rfl⟩
theorem iV_4 : I1 prog_33_method_2_code 4 (.lconst 0) 1 5 := ⟨(by decide +kernel), rfl⟩
theorem iV_5 : I1 prog_33_method_2_code 5 (.lcmp) 1 6 := ⟨(by decide +kernel), rfl⟩
theorem iV_6 : B1 prog_33_method_2_code 6 (.ifCond .ne 7) 7 13 9 := ⟨(by decide +kernel), rfl, by decide, by decide⟩
theorem iV_9 : I1 prog_33_method_2_code 9 (.dconst 0) 1 10 := ⟨(by decide +kernel), rfl⟩
theorem iV_10 : B1 prog_33_method_2_code 10 (.goto 14) 14 24 13 := ⟨(by decide +kernel), rfl, by decide, by decide⟩
theorem iV_13 : I1 prog_33_method_2_code 13 (.aload_n 0) 1 14 := ⟨(by decide +kernel), rfl⟩
theorem iV_14 : I1 prog_33_method_2_code 14 (.getfield 7) 3 17 := ⟨(by decide +kernel), rfl⟩
theorem iV_17 : I1 prog_33_method_2_code 17 (.l2d) 1 18 := ⟨(by decide +kernel), rfl⟩
theorem iV_18 : I1 prog_33_method_2_code 18 (.aload_n 0) 1 19 := ⟨(by decide +kernel), rfl⟩
theorem iV_19 : I1 prog_33_method_2_code 19 (.getfield 13) 3 22 := ⟨(by decide +kernel), rfl⟩
theorem iV_22 : I1 prog_33_method_2_code 22 (.l2d) 1 23 := ⟨(by decide +kernel), rfl⟩
theorem iV_23 : I1 prog_33_method_2_code 23 (.ddiv) 1 24 := ⟨(by decide +kernel), rfl⟩
theorem iV_24 : I1 prog_33_method_2_code 24 (.dreturn) 1 25 := ⟨(by decide +kernel), rfl⟩
def vV_0 (w_divisor_a0 : Int64) (w_dividend_a0 : Int64) : UInt64 := (if w_divisor_a0 = (0 : Int64) then (0 : UInt64) else (FP.ddiv (FP.l2d w_dividend_a0) (FP.l2d w_divisor_a0)))
theorem efV (m : MethodId) (a0 : Addr) : entryFrame m #[(.ref a0)] 1 = mkF m 0 #[.val (.ref a0)] [] := by first | (simp [entryFrame, mkF, argsToLocals, Value.category]; done) | rfl
def QV (Z : State) (a0 : Addr) (w_divisor_a0 : Int64) (w_dividend_a0 : Int64) (h0 : Heap) (n0 : Nat) (v : Option Value) (h : Heap) : Prop := v = some (.double (vV_0 w_divisor_a0 w_dividend_a0)) ∧ h = h0
set_option maxRecDepth 65536 in
set_option maxHeartbeats 40000000 in
theorem rmV (l : Launch) (Z : State) (aZ : Array Value) (hw : ∀ d ∈ tables_1, d.before aZ Z = true) (a0 : Addr) (w_divisor_a0 : Int64) (w_dividend_a0 : Int64) (h0 : Heap) (n0 : Nat) (Z0 : n0 ≤ h0.size) (F_divisor_a0 : Fld Z h0 a0 "com/example/linkweave/linkweave/Quotient" "divisor" "J" (.long w_divisor_a0)) (F_dividend_a0 : Fld Z h0 a0 "com/example/linkweave/linkweave/Quotient" "dividend" "J" (.long w_dividend_a0)) :
    Ctr l Z (⟨"com/example/linkweave/linkweave/Quotient", "value", "()D"⟩ : MethodName) prog_33_method_2_code 1 (some .double) ({ frames := 0, cells := 0, slots := 0, locals := 0 } : Room) #[(.ref a0)] h0 n0 (QV Z a0 w_divisor_a0 w_dividend_a0 h0 n0) := by
  refine Ctr.of_go pn2 (fun m => efV m a0) ?_
  intro p e s m below meth c hnm C
  refine g_aloadN C iV_0 rfl rfl ?_
  refine g_getF C iV_1 (host := "") (Or.inl (hw _ (List.mem_of_getElem? (i := 16) rfl))) Via.refl F_divisor_a0 ?_
  refine g_lconst C (0 : Int64) iV_4 rfl ?_
  refine g_lcmp C iV_5 ?_
  refine Go.join (mkF m 24 #[.val (.ref a0)] [(.double (vV_0 w_divisor_a0 w_dividend_a0))]) ?_ (fun J => ?_)
  · exact g_retDouble C iV_24 rfl (by decide) (by decide) ⟨rfl, rfl⟩
  · refine g_ifl_ne C iV_6 (fun hc6_1 => ?_) (fun hc6_1 => ?_)
    · refine g_dconst0 C iV_9 ?_
      refine g_goto C iV_10 ?_
      have e0 : (vV_0 w_divisor_a0 w_dividend_a0) = (0 : UInt64) := by simp only [vV_0, if_pos hc6_1]
      exact Go.cast J (by rw [e0])
    · refine g_aloadN C iV_13 rfl rfl ?_
      refine g_getF C iV_14 (host := "") (Or.inl (hw _ (List.mem_of_getElem? (i := 14) rfl))) Via.refl F_dividend_a0 ?_
      refine g_l2d C iV_17 ?_
      refine g_aloadN C iV_18 rfl rfl ?_
      refine g_getF C iV_19 (host := "") (Or.inl (hw _ (List.mem_of_getElem? (i := 16) rfl))) Via.refl F_divisor_a0 ?_
      refine g_l2d C iV_22 ?_
      refine g_ddiv C iV_23 (Jvm.OwnFp.own_nnq hc6_1) ?_
      have e0 : (vV_0 w_divisor_a0 w_dividend_a0) = (FP.ddiv (FP.l2d w_dividend_a0) (FP.l2d w_divisor_a0)) := by simp only [vV_0, if_neg hc6_1]
      exact Go.cast J (by rw [e0])
theorem pd1 : parseMethodDescriptor "(JJ)V" = some ⟨[.long, .long], none⟩ := by decide +kernel
theorem pd2 : parseMethodDescriptor "()D" = some ⟨[], some .double⟩ := by decide +kernel
theorem pn3 : plainFor (⟨"com/example/linkweave/linkweave/QuotientValuePinLaw", "law", "(JJJII)Z"⟩ : MethodName) = true := by decide +kernel
theorem iM_0 : I1 code 0 (.new 7) 3 3 := ⟨at_0, rfl⟩
theorem iM_3 : I1 code 3 (.dup) 1 4 := ⟨at_3, rfl⟩
theorem iM_4 : I1 code 4 (.lload_n 0) 1 5 := ⟨at_4, rfl⟩
theorem iM_5 : I1 code 5 (.lload 4) 2 7 := ⟨at_5, rfl⟩
theorem iM_7 : I1 code 7 (.invokespecial 9) 3 10 := ⟨at_7, rfl⟩
theorem iM_10 : I1 code 10 (.astore 8) 2 12 := ⟨at_10, rfl⟩
theorem iM_12 : I1 code 12 (.new 7) 3 15 := ⟨at_12, rfl⟩
theorem iM_15 : I1 code 15 (.dup) 1 16 := ⟨at_15, rfl⟩
theorem iM_16 : I1 code 16 (.lload_n 2) 1 17 := ⟨at_16, rfl⟩
theorem iM_17 : I1 code 17 (.lload 4) 2 19 := ⟨at_17, rfl⟩
theorem iM_19 : I1 code 19 (.invokespecial 9) 3 22 := ⟨at_19, rfl⟩
theorem iM_22 : I1 code 22 (.astore 9) 2 24 := ⟨at_22, rfl⟩
theorem iM_24 : I1 code 24 (.iload 7) 2 26 := ⟨at_24, rfl⟩
theorem iM_26 : I1 code 26 (.sipush 1023) 3 29 := ⟨at_26, rfl⟩
theorem iM_29 : I1 code 29 (.iand) 1 30 := ⟨at_29, rfl⟩
theorem iM_30 : I1 code 30 (.iconst 1) 1 31 := ⟨at_30, rfl⟩
theorem iM_31 : I1 code 31 (.iadd) 1 32 := ⟨at_31, rfl⟩
theorem iM_32 : I1 code 32 (.istore 10) 2 34 := ⟨at_32, rfl⟩
theorem iM_34 : I1 code 34 (.iload 7) 2 36 := ⟨at_34, rfl⟩
theorem iM_36 : I1 code 36 (.sipush 1024) 3 39 := ⟨at_36, rfl⟩
theorem iM_39 : I1 code 39 (.iand) 1 40 := ⟨at_39, rfl⟩
theorem iM_40 : B1 code 40 (.ifCond .eq 8) 8 48 43 := ⟨at_40, rfl, by decide, by decide⟩
theorem iM_43 : I1 code 43 (.iload 10) 2 45 := ⟨at_43, rfl⟩
theorem iM_45 : I1 code 45 (.ineg) 1 46 := ⟨at_45, rfl⟩
theorem iM_46 : I1 code 46 (.istore 10) 2 48 := ⟨at_46, rfl⟩
theorem iM_48 : I1 code 48 (.iload 6) 2 50 := ⟨at_48, rfl⟩
theorem iM_50 : I1 code 50 (.ldc 12) 2 52 := ⟨at_50, rfl⟩
theorem iM_52 : I1 code 52 (.irem) 1 53 := ⟨at_52, rfl⟩
theorem iM_53 : I1 code 53 (.istore 11) 2 55 := ⟨at_53, rfl⟩
theorem iM_55 : I1 code 55 (.new 7) 3 58 := ⟨at_55, rfl⟩
theorem iM_58 : I1 code 58 (.dup) 1 59 := ⟨at_58, rfl⟩
theorem iM_59 : I1 code 59 (.iload 11) 2 61 := ⟨at_59, rfl⟩
theorem iM_61 : I1 code 61 (.i2l) 1 62 := ⟨at_61, rfl⟩
theorem iM_62 : I1 code 62 (.iload 10) 2 64 := ⟨at_62, rfl⟩
theorem iM_64 : I1 code 64 (.i2l) 1 65 := ⟨at_64, rfl⟩
theorem iM_65 : I1 code 65 (.lmul) 1 66 := ⟨at_65, rfl⟩
theorem iM_66 : I1 code 66 (.iload 10) 2 68 := ⟨at_66, rfl⟩
theorem iM_68 : I1 code 68 (.i2l) 1 69 := ⟨at_68, rfl⟩
theorem iM_69 : I1 code 69 (.invokespecial 9) 3 72 := ⟨at_69, rfl⟩
theorem iM_72 : I1 code 72 (.astore 12) 2 74 := ⟨at_72, rfl⟩
theorem iM_74 : I1 code 74 (.new 7) 3 77 := ⟨at_74, rfl⟩
theorem iM_77 : I1 code 77 (.dup) 1 78 := ⟨at_77, rfl⟩
theorem iM_78 : I1 code 78 (.ldc2_w 13) 3 81 := ⟨at_78, rfl⟩
theorem iM_81 : I1 code 81 (.iload 11) 2 83 := ⟨at_81, rfl⟩
theorem iM_83 : I1 code 83 (.i2l) 1 84 := ⟨at_83, rfl⟩
theorem iM_84 : I1 code 84 (.lmul) 1 85 := ⟨at_84, rfl⟩
theorem iM_85 : I1 code 85 (.lconst 1) 1 86 := ⟨at_85, rfl⟩
theorem iM_86 : I1 code 86 (.ladd) 1 87 := ⟨at_86, rfl⟩
theorem iM_87 : I1 code 87 (.ldc2_w 13) 3 90 := ⟨at_87, rfl⟩
theorem iM_90 : I1 code 90 (.invokespecial 9) 3 93 := ⟨at_90, rfl⟩
theorem iM_93 : I1 code 93 (.astore 13) 2 95 := ⟨at_93, rfl⟩
theorem iM_95 : I1 code 95 (.aload 8) 2 97 := ⟨at_95, rfl⟩
theorem iM_97 : I1 code 97 (.invokevirtual 15) 3 100 := ⟨at_97, rfl⟩
theorem iM_100 : I1 code 100 (.dstore 14) 2 102 := ⟨at_100, rfl⟩
theorem iM_102 : I1 code 102 (.aload 9) 2 104 := ⟨at_102, rfl⟩
theorem iM_104 : I1 code 104 (.invokevirtual 15) 3 107 := ⟨at_104, rfl⟩
theorem iM_107 : I1 code 107 (.dstore 16) 2 109 := ⟨at_107, rfl⟩
theorem iM_109 : I1 code 109 (.lload 4) 2 111 := ⟨at_109, rfl⟩
theorem iM_111 : I1 code 111 (.lconst 0) 1 112 := ⟨at_111, rfl⟩
theorem iM_112 : I1 code 112 (.lcmp) 1 113 := ⟨at_112, rfl⟩
theorem iM_113 : B1 code 113 (.ifCond .eq 9) 9 122 116 := ⟨at_113, rfl, by decide, by decide⟩
theorem iM_116 : I1 code 116 (.lload_n 0) 1 117 := ⟨at_116, rfl⟩
theorem iM_117 : I1 code 117 (.lconst 0) 1 118 := ⟨at_117, rfl⟩
theorem iM_118 : I1 code 118 (.lcmp) 1 119 := ⟨at_118, rfl⟩
theorem iM_119 : B1 code 119 (.ifCond .ne 20) 20 139 122 := ⟨at_119, rfl, by decide, by decide⟩
theorem iM_122 : I1 code 122 (.dload 14) 2 124 := ⟨at_122, rfl⟩
theorem iM_124 : I1 code 124 (.dconst 0) 1 125 := ⟨at_124, rfl⟩
theorem iM_125 : I1 code 125 (.dcmp .l) 1 126 := ⟨at_125, rfl⟩
theorem iM_126 : B1 code 126 (.ifCond .ne 7) 7 133 129 := ⟨at_126, rfl, by decide, by decide⟩
theorem iM_129 : I1 code 129 (.iconst 1) 1 130 := ⟨at_129, rfl⟩
theorem iM_130 : B1 code 130 (.goto 4) 4 134 133 := ⟨at_130, rfl, by decide, by decide⟩
theorem iM_133 : I1 code 133 (.iconst 0) 1 134 := ⟨at_133, rfl⟩
theorem iM_134 : I1 code 134 (.istore 18) 2 136 := ⟨at_134, rfl⟩
theorem iM_136 : B1 code 136 (.goto 60) 60 196 139 := ⟨at_136, rfl, by decide, by decide⟩
theorem iM_139 : I1 code 139 (.lload_n 0) 1 140 := ⟨at_139, rfl⟩
theorem iM_140 : I1 code 140 (.lconst 0) 1 141 := ⟨at_140, rfl⟩
theorem iM_141 : I1 code 141 (.lcmp) 1 142 := ⟨at_141, rfl⟩
theorem iM_142 : B1 code 142 (.ifCond .le 7) 7 149 145 := ⟨at_142, rfl, by decide, by decide⟩
theorem iM_145 : I1 code 145 (.iconst 1) 1 146 := ⟨at_145, rfl⟩
theorem iM_146 : B1 code 146 (.goto 4) 4 150 149 := ⟨at_146, rfl, by decide, by decide⟩
theorem iM_149 : I1 code 149 (.iconst 0) 1 150 := ⟨at_149, rfl⟩
theorem iM_150 : I1 code 150 (.lload 4) 2 152 := ⟨at_150, rfl⟩
theorem iM_152 : I1 code 152 (.lconst 0) 1 153 := ⟨at_152, rfl⟩
theorem iM_153 : I1 code 153 (.lcmp) 1 154 := ⟨at_153, rfl⟩
theorem iM_154 : B1 code 154 (.ifCond .le 7) 7 161 157 := ⟨at_154, rfl, by decide, by decide⟩
theorem iM_157 : I1 code 157 (.iconst 1) 1 158 := ⟨at_157, rfl⟩
theorem iM_158 : B1 code 158 (.goto 4) 4 162 161 := ⟨at_158, rfl, by decide, by decide⟩
theorem iM_161 : I1 code 161 (.iconst 0) 1 162 := ⟨at_161, rfl⟩
theorem iM_162 : B1 code 162 (.if_icmp .ne 20) 20 182 165 := ⟨at_162, rfl, by decide, by decide⟩
theorem iM_165 : I1 code 165 (.dload 14) 2 167 := ⟨at_165, rfl⟩
theorem iM_167 : I1 code 167 (.dconst 0) 1 168 := ⟨at_167, rfl⟩
theorem iM_168 : I1 code 168 (.dcmp .l) 1 169 := ⟨at_168, rfl⟩
theorem iM_169 : B1 code 169 (.ifCond .le 7) 7 176 172 := ⟨at_169, rfl, by decide, by decide⟩
theorem iM_172 : I1 code 172 (.iconst 1) 1 173 := ⟨at_172, rfl⟩
theorem iM_173 : B1 code 173 (.goto 4) 4 177 176 := ⟨at_173, rfl, by decide, by decide⟩
theorem iM_176 : I1 code 176 (.iconst 0) 1 177 := ⟨at_176, rfl⟩
theorem iM_177 : I1 code 177 (.istore 18) 2 179 := ⟨at_177, rfl⟩
theorem iM_179 : B1 code 179 (.goto 17) 17 196 182 := ⟨at_179, rfl, by decide, by decide⟩
theorem iM_182 : I1 code 182 (.dload 14) 2 184 := ⟨at_182, rfl⟩
theorem iM_184 : I1 code 184 (.dconst 0) 1 185 := ⟨at_184, rfl⟩
theorem iM_185 : I1 code 185 (.dcmp .g) 1 186 := ⟨at_185, rfl⟩
theorem iM_186 : B1 code 186 (.ifCond .ge 7) 7 193 189 := ⟨at_186, rfl, by decide, by decide⟩
theorem iM_189 : I1 code 189 (.iconst 1) 1 190 := ⟨at_189, rfl⟩
theorem iM_190 : B1 code 190 (.goto 4) 4 194 193 := ⟨at_190, rfl, by decide, by decide⟩
theorem iM_193 : I1 code 193 (.iconst 0) 1 194 := ⟨at_193, rfl⟩
theorem iM_194 : I1 code 194 (.istore 18) 2 196 := ⟨at_194, rfl⟩
theorem iM_196 : I1 code 196 (.lload 4) 2 198 := ⟨at_196, rfl⟩
theorem iM_198 : I1 code 198 (.lconst 0) 1 199 := ⟨at_198, rfl⟩
theorem iM_199 : I1 code 199 (.lcmp) 1 200 := ⟨at_199, rfl⟩
theorem iM_200 : B1 code 200 (.ifCond .ne 27) 27 227 203 := ⟨at_200, rfl, by decide, by decide⟩
theorem iM_203 : I1 code 203 (.dload 14) 2 205 := ⟨at_203, rfl⟩
theorem iM_205 : I1 code 205 (.dconst 0) 1 206 := ⟨at_205, rfl⟩
theorem iM_206 : I1 code 206 (.dcmp .l) 1 207 := ⟨at_206, rfl⟩
theorem iM_207 : B1 code 207 (.ifCond .ne 14) 14 221 210 := ⟨at_207, rfl, by decide, by decide⟩
theorem iM_210 : I1 code 210 (.dload 16) 2 212 := ⟨at_210, rfl⟩
theorem iM_212 : I1 code 212 (.dconst 0) 1 213 := ⟨at_212, rfl⟩
theorem iM_213 : I1 code 213 (.dcmp .l) 1 214 := ⟨at_213, rfl⟩
theorem iM_214 : B1 code 214 (.ifCond .ne 7) 7 221 217 := ⟨at_214, rfl, by decide, by decide⟩
theorem iM_217 : I1 code 217 (.iconst 1) 1 218 := ⟨at_217, rfl⟩
theorem iM_218 : B1 code 218 (.goto 4) 4 222 221 := ⟨at_218, rfl, by decide, by decide⟩
theorem iM_221 : I1 code 221 (.iconst 0) 1 222 := ⟨at_221, rfl⟩
theorem iM_222 : I1 code 222 (.istore 19) 2 224 := ⟨at_222, rfl⟩
theorem iM_224 : B1 code 224 (.goto 86) 86 310 227 := ⟨at_224, rfl, by decide, by decide⟩
theorem iM_227 : I1 code 227 (.lload_n 0) 1 228 := ⟨at_227, rfl⟩
theorem iM_228 : I1 code 228 (.lload_n 2) 1 229 := ⟨at_228, rfl⟩
theorem iM_229 : I1 code 229 (.lcmp) 1 230 := ⟨at_229, rfl⟩
theorem iM_230 : B1 code 230 (.ifCond .ne 21) 21 251 233 := ⟨at_230, rfl, by decide, by decide⟩
theorem iM_233 : I1 code 233 (.dload 14) 2 235 := ⟨at_233, rfl⟩
theorem iM_235 : I1 code 235 (.dload 16) 2 237 := ⟨at_235, rfl⟩
theorem iM_237 : I1 code 237 (.dcmp .l) 1 238 := ⟨at_237, rfl⟩
theorem iM_238 : B1 code 238 (.ifCond .ne 7) 7 245 241 := ⟨at_238, rfl, by decide, by decide⟩
theorem iM_241 : I1 code 241 (.iconst 1) 1 242 := ⟨at_241, rfl⟩
theorem iM_242 : B1 code 242 (.goto 4) 4 246 245 := ⟨at_242, rfl, by decide, by decide⟩
theorem iM_245 : I1 code 245 (.iconst 0) 1 246 := ⟨at_245, rfl⟩
theorem iM_246 : I1 code 246 (.istore 19) 2 248 := ⟨at_246, rfl⟩
theorem iM_248 : B1 code 248 (.goto 62) 62 310 251 := ⟨at_248, rfl, by decide, by decide⟩
theorem iM_251 : I1 code 251 (.lload_n 0) 1 252 := ⟨at_251, rfl⟩
theorem iM_252 : I1 code 252 (.lload_n 2) 1 253 := ⟨at_252, rfl⟩
theorem iM_253 : I1 code 253 (.lcmp) 1 254 := ⟨at_253, rfl⟩
theorem iM_254 : B1 code 254 (.ifCond .ge 7) 7 261 257 := ⟨at_254, rfl, by decide, by decide⟩
theorem iM_257 : I1 code 257 (.iconst 1) 1 258 := ⟨at_257, rfl⟩
theorem iM_258 : B1 code 258 (.goto 4) 4 262 261 := ⟨at_258, rfl, by decide, by decide⟩
theorem iM_261 : I1 code 261 (.iconst 0) 1 262 := ⟨at_261, rfl⟩
theorem iM_262 : I1 code 262 (.lload 4) 2 264 := ⟨at_262, rfl⟩
theorem iM_264 : I1 code 264 (.lconst 0) 1 265 := ⟨at_264, rfl⟩
theorem iM_265 : I1 code 265 (.lcmp) 1 266 := ⟨at_265, rfl⟩
theorem iM_266 : B1 code 266 (.ifCond .le 7) 7 273 269 := ⟨at_266, rfl, by decide, by decide⟩
theorem iM_269 : I1 code 269 (.iconst 1) 1 270 := ⟨at_269, rfl⟩
theorem iM_270 : B1 code 270 (.goto 4) 4 274 273 := ⟨at_270, rfl, by decide, by decide⟩
theorem iM_273 : I1 code 273 (.iconst 0) 1 274 := ⟨at_273, rfl⟩
theorem iM_274 : B1 code 274 (.if_icmp .ne 21) 21 295 277 := ⟨at_274, rfl, by decide, by decide⟩
theorem iM_277 : I1 code 277 (.dload 14) 2 279 := ⟨at_277, rfl⟩
theorem iM_279 : I1 code 279 (.dload 16) 2 281 := ⟨at_279, rfl⟩
theorem iM_281 : I1 code 281 (.dcmp .g) 1 282 := ⟨at_281, rfl⟩
theorem iM_282 : B1 code 282 (.ifCond .gt 7) 7 289 285 := ⟨at_282, rfl, by decide, by decide⟩
theorem iM_285 : I1 code 285 (.iconst 1) 1 286 := ⟨at_285, rfl⟩
theorem iM_286 : B1 code 286 (.goto 4) 4 290 289 := ⟨at_286, rfl, by decide, by decide⟩
theorem iM_289 : I1 code 289 (.iconst 0) 1 290 := ⟨at_289, rfl⟩
theorem iM_290 : I1 code 290 (.istore 19) 2 292 := ⟨at_290, rfl⟩
theorem iM_292 : B1 code 292 (.goto 18) 18 310 295 := ⟨at_292, rfl, by decide, by decide⟩
theorem iM_295 : I1 code 295 (.dload 14) 2 297 := ⟨at_295, rfl⟩
theorem iM_297 : I1 code 297 (.dload 16) 2 299 := ⟨at_297, rfl⟩
theorem iM_299 : I1 code 299 (.dcmp .l) 1 300 := ⟨at_299, rfl⟩
theorem iM_300 : B1 code 300 (.ifCond .lt 7) 7 307 303 := ⟨at_300, rfl, by decide, by decide⟩
theorem iM_303 : I1 code 303 (.iconst 1) 1 304 := ⟨at_303, rfl⟩
theorem iM_304 : B1 code 304 (.goto 4) 4 308 307 := ⟨at_304, rfl, by decide, by decide⟩
theorem iM_307 : I1 code 307 (.iconst 0) 1 308 := ⟨at_307, rfl⟩
theorem iM_308 : I1 code 308 (.istore 19) 2 310 := ⟨at_308, rfl⟩
theorem iM_310 : I1 code 310 (.aload 12) 2 312 := ⟨at_310, rfl⟩
theorem iM_312 : I1 code 312 (.invokevirtual 15) 3 315 := ⟨at_312, rfl⟩
theorem iM_315 : I1 code 315 (.iload 11) 2 317 := ⟨at_315, rfl⟩
theorem iM_317 : I1 code 317 (.i2d) 1 318 := ⟨at_317, rfl⟩
theorem iM_318 : I1 code 318 (.dcmp .l) 1 319 := ⟨at_318, rfl⟩
theorem iM_319 : B1 code 319 (.ifCond .ne 7) 7 326 322 := ⟨at_319, rfl, by decide, by decide⟩
theorem iM_322 : I1 code 322 (.iconst 1) 1 323 := ⟨at_322, rfl⟩
theorem iM_323 : B1 code 323 (.goto 4) 4 327 326 := ⟨at_323, rfl, by decide, by decide⟩
theorem iM_326 : I1 code 326 (.iconst 0) 1 327 := ⟨at_326, rfl⟩
theorem iM_327 : I1 code 327 (.istore 20) 2 329 := ⟨at_327, rfl⟩
theorem iM_329 : I1 code 329 (.aload 13) 2 331 := ⟨at_329, rfl⟩
theorem iM_331 : I1 code 331 (.invokevirtual 15) 3 334 := ⟨at_331, rfl⟩
theorem iM_334 : I1 code 334 (.iload 11) 2 336 := ⟨at_334, rfl⟩
theorem iM_336 : I1 code 336 (.i2d) 1 337 := ⟨at_336, rfl⟩
theorem iM_337 : I1 code 337 (.ldc2_w 19) 3 340 := ⟨at_337, rfl⟩
theorem iM_340 : I1 code 340 (.dadd) 1 341 := ⟨at_340, rfl⟩
theorem iM_341 : I1 code 341 (.dcmp .l) 1 342 := ⟨at_341, rfl⟩
theorem iM_342 : B1 code 342 (.ifCond .ne 7) 7 349 345 := ⟨at_342, rfl, by decide, by decide⟩
theorem iM_345 : I1 code 345 (.iconst 1) 1 346 := ⟨at_345, rfl⟩
theorem iM_346 : B1 code 346 (.goto 4) 4 350 349 := ⟨at_346, rfl, by decide, by decide⟩
theorem iM_349 : I1 code 349 (.iconst 0) 1 350 := ⟨at_349, rfl⟩
theorem iM_350 : I1 code 350 (.istore 21) 2 352 := ⟨at_350, rfl⟩
theorem iM_352 : I1 code 352 (.iload 18) 2 354 := ⟨at_352, rfl⟩
theorem iM_354 : B1 code 354 (.ifCond .eq 22) 22 376 357 := ⟨at_354, rfl, by decide, by decide⟩
theorem iM_357 : I1 code 357 (.iload 19) 2 359 := ⟨at_357, rfl⟩
theorem iM_359 : B1 code 359 (.ifCond .eq 17) 17 376 362 := ⟨at_359, rfl, by decide, by decide⟩
theorem iM_362 : I1 code 362 (.iload 20) 2 364 := ⟨at_362, rfl⟩
theorem iM_364 : B1 code 364 (.ifCond .eq 12) 12 376 367 := ⟨at_364, rfl, by decide, by decide⟩
theorem iM_367 : I1 code 367 (.iload 21) 2 369 := ⟨at_367, rfl⟩
theorem iM_369 : B1 code 369 (.ifCond .eq 7) 7 376 372 := ⟨at_369, rfl, by decide, by decide⟩
theorem iM_372 : I1 code 372 (.iconst 1) 1 373 := ⟨at_372, rfl⟩
theorem iM_373 : B1 code 373 (.goto 4) 4 377 376 := ⟨at_373, rfl, by decide, by decide⟩
theorem iM_376 : I1 code 376 (.iconst 0) 1 377 := ⟨at_376, rfl⟩
theorem iM_377 : I1 code 377 (.ireturn) 1 378 := ⟨at_377, rfl⟩
def vM_0 (q0 : Int64) (q1 : Int64) (q2 : Int64) (p3 : Int32) (p4 : Int32) : Int32 := (if (p4 &&& (1024 : Int32)) = (0 : Int32) then ((p4 &&& (1023 : Int32)) + (1 : Int32)) else (-((p4 &&& (1023 : Int32)) + (1 : Int32))))
def vM_1 (q0 : Int64) (q1 : Int64) (q2 : Int64) (p3 : Int32) (p4 : Int32) : Int64 := (((p3 % (100000 : Int32)).toInt64) * ((vM_0 q0 q1 q2 p3 p4).toInt64))
def vM_2 (q0 : Int64) (q1 : Int64) (q2 : Int64) (p3 : Int32) (p4 : Int32) : Int64 := (((2 : Int64) * ((p3 % (100000 : Int32)).toInt64)) + (1 : Int64))
def vM_3 (q0 : Int64) (q1 : Int64) (q2 : Int64) (p3 : Int32) (p4 : Int32) : Int32 := (if (cmpValue (FP.dcmp (vV_0 q2 q0) (0 : UInt64)) .l) = (0 : Int32) then (1 : Int32) else (0 : Int32))
def vM_4 (q0 : Int64) (q1 : Int64) (q2 : Int64) (p3 : Int32) (p4 : Int32) : Int32 := (if (0 : Int64) < q0 then (1 : Int32) else (0 : Int32))
def vM_5 (q0 : Int64) (q1 : Int64) (q2 : Int64) (p3 : Int32) (p4 : Int32) : Int32 := (if (0 : Int64) < q2 then (1 : Int32) else (0 : Int32))
def vM_6 (q0 : Int64) (q1 : Int64) (q2 : Int64) (p3 : Int32) (p4 : Int32) : Int32 := (if (0 : Int32) < (cmpValue (FP.dcmp (vV_0 q2 q0) (0 : UInt64)) .l) then (1 : Int32) else (0 : Int32))
def vM_7 (q0 : Int64) (q1 : Int64) (q2 : Int64) (p3 : Int32) (p4 : Int32) : Int32 := (if (cmpValue (FP.dcmp (vV_0 q2 q0) (0 : UInt64)) .g) < (0 : Int32) then (1 : Int32) else (0 : Int32))
def vM_8 (q0 : Int64) (q1 : Int64) (q2 : Int64) (p3 : Int32) (p4 : Int32) : Int32 := (if (vM_4 q0 q1 q2 p3 p4) = (vM_5 q0 q1 q2 p3 p4) then (vM_6 q0 q1 q2 p3 p4) else (vM_7 q0 q1 q2 p3 p4))
def vM_9 (q0 : Int64) (q1 : Int64) (q2 : Int64) (p3 : Int32) (p4 : Int32) : Int32 := (if q0 = (0 : Int64) then (vM_3 q0 q1 q2 p3 p4) else (if (vM_4 q0 q1 q2 p3 p4) = (vM_5 q0 q1 q2 p3 p4) then (vM_6 q0 q1 q2 p3 p4) else (vM_7 q0 q1 q2 p3 p4)))
def vM_10 (q0 : Int64) (q1 : Int64) (q2 : Int64) (p3 : Int32) (p4 : Int32) : Int32 := (if q2 = (0 : Int64) then (vM_3 q0 q1 q2 p3 p4) else (if q0 = (0 : Int64) then (vM_3 q0 q1 q2 p3 p4) else (if (vM_4 q0 q1 q2 p3 p4) = (vM_5 q0 q1 q2 p3 p4) then (vM_6 q0 q1 q2 p3 p4) else (vM_7 q0 q1 q2 p3 p4))))
def vM_11 (q0 : Int64) (q1 : Int64) (q2 : Int64) (p3 : Int32) (p4 : Int32) : Int32 := (if (cmpValue (FP.dcmp (vV_0 q2 q1) (0 : UInt64)) .l) = (0 : Int32) then (1 : Int32) else (0 : Int32))
def vM_12 (q0 : Int64) (q1 : Int64) (q2 : Int64) (p3 : Int32) (p4 : Int32) : Int32 := (if (cmpValue (FP.dcmp (vV_0 q2 q0) (0 : UInt64)) .l) = (0 : Int32) then (if (cmpValue (FP.dcmp (vV_0 q2 q1) (0 : UInt64)) .l) = (0 : Int32) then (1 : Int32) else (0 : Int32)) else (0 : Int32))
def vM_13 (q0 : Int64) (q1 : Int64) (q2 : Int64) (p3 : Int32) (p4 : Int32) : Int32 := (if (cmpValue (FP.dcmp (vV_0 q2 q0) (vV_0 q2 q1)) .l) = (0 : Int32) then (1 : Int32) else (0 : Int32))
def vM_14 (q0 : Int64) (q1 : Int64) (q2 : Int64) (p3 : Int32) (p4 : Int32) : Int32 := (if q0 < q1 then (1 : Int32) else (0 : Int32))
def vM_15 (q0 : Int64) (q1 : Int64) (q2 : Int64) (p3 : Int32) (p4 : Int32) : Int32 := (if (0 : Int32) < (cmpValue (FP.dcmp (vV_0 q2 q0) (vV_0 q2 q1)) .g) then (0 : Int32) else (1 : Int32))
def vM_16 (q0 : Int64) (q1 : Int64) (q2 : Int64) (p3 : Int32) (p4 : Int32) : Int32 := (if (cmpValue (FP.dcmp (vV_0 q2 q0) (vV_0 q2 q1)) .l) < (0 : Int32) then (0 : Int32) else (1 : Int32))
def vM_17 (q0 : Int64) (q1 : Int64) (q2 : Int64) (p3 : Int32) (p4 : Int32) : Int32 := (if (vM_14 q0 q1 q2 p3 p4) = (vM_5 q0 q1 q2 p3 p4) then (vM_15 q0 q1 q2 p3 p4) else (vM_16 q0 q1 q2 p3 p4))
def vM_18 (q0 : Int64) (q1 : Int64) (q2 : Int64) (p3 : Int32) (p4 : Int32) : Int32 := (if q0 = q1 then (vM_13 q0 q1 q2 p3 p4) else (if (vM_14 q0 q1 q2 p3 p4) = (vM_5 q0 q1 q2 p3 p4) then (vM_15 q0 q1 q2 p3 p4) else (vM_16 q0 q1 q2 p3 p4)))
def vM_19 (q0 : Int64) (q1 : Int64) (q2 : Int64) (p3 : Int32) (p4 : Int32) : Int32 := (if q2 = (0 : Int64) then (vM_12 q0 q1 q2 p3 p4) else (if q0 = q1 then (vM_13 q0 q1 q2 p3 p4) else (if (vM_14 q0 q1 q2 p3 p4) = (vM_5 q0 q1 q2 p3 p4) then (vM_15 q0 q1 q2 p3 p4) else (vM_16 q0 q1 q2 p3 p4))))
def vM_20 (q0 : Int64) (q1 : Int64) (q2 : Int64) (p3 : Int32) (p4 : Int32) : Int32 := (if (cmpValue (FP.dcmp (vV_0 ((vM_0 q0 q1 q2 p3 p4).toInt64) (vM_1 q0 q1 q2 p3 p4)) (FP.i2d (p3 % (100000 : Int32)))) .l) = (0 : Int32) then (1 : Int32) else (0 : Int32))
def vM_21 (q0 : Int64) (q1 : Int64) (q2 : Int64) (p3 : Int32) (p4 : Int32) : Int32 := (if (cmpValue (FP.dcmp (vV_0 (2 : Int64) (vM_2 q0 q1 q2 p3 p4)) (FP.dadd (FP.i2d (p3 % (100000 : Int32))) (4602678819172646912 : UInt64))) .l) = (0 : Int32) then (1 : Int32) else (0 : Int32))
def vM_22 (q0 : Int64) (q1 : Int64) (q2 : Int64) (p3 : Int32) (p4 : Int32) : Int32 := (if (vM_21 q0 q1 q2 p3 p4) = (0 : Int32) then (0 : Int32) else (1 : Int32))
def vM_23 (q0 : Int64) (q1 : Int64) (q2 : Int64) (p3 : Int32) (p4 : Int32) : Int32 := (if (vM_20 q0 q1 q2 p3 p4) = (0 : Int32) then (0 : Int32) else (if (vM_21 q0 q1 q2 p3 p4) = (0 : Int32) then (0 : Int32) else (1 : Int32)))
def vM_24 (q0 : Int64) (q1 : Int64) (q2 : Int64) (p3 : Int32) (p4 : Int32) : Int32 := (if (vM_19 q0 q1 q2 p3 p4) = (0 : Int32) then (0 : Int32) else (if (vM_20 q0 q1 q2 p3 p4) = (0 : Int32) then (0 : Int32) else (if (vM_21 q0 q1 q2 p3 p4) = (0 : Int32) then (0 : Int32) else (1 : Int32))))
def vM_25 (q0 : Int64) (q1 : Int64) (q2 : Int64) (p3 : Int32) (p4 : Int32) : Int32 := (if (vM_10 q0 q1 q2 p3 p4) = (0 : Int32) then (0 : Int32) else (if (vM_19 q0 q1 q2 p3 p4) = (0 : Int32) then (0 : Int32) else (if (vM_20 q0 q1 q2 p3 p4) = (0 : Int32) then (0 : Int32) else (if (vM_21 q0 q1 q2 p3 p4) = (0 : Int32) then (0 : Int32) else (1 : Int32)))))
theorem own_e (a d : Int64) : vV_0 d a = Jvm.OwnFp.own_v a d := rfl
theorem own_cE {x y : UInt64} (o : CmpOp) (h : FP.dcmp x y = some .eq) : cmpValue (FP.dcmp x y) o = 0 := by rw [h]; cases o <;> rfl
theorem own_cG {x y : UInt64} (o : CmpOp) (h : FP.dcmp x y = some .gt) : cmpValue (FP.dcmp x y) o = 1 := by rw [h]; cases o <;> rfl
theorem own_cL {x y : UInt64} (o : CmpOp) (h : FP.dcmp x y = some .lt) : cmpValue (FP.dcmp x y) o = -1 := by rw [h]; cases o <;> rfl
theorem own_bi {P Q : Prop} [Decidable P] [Decidable Q] : ((if P then (1 : Int32) else (0 : Int32)) = (if Q then (1 : Int32) else (0 : Int32))) ↔ (P ↔ Q) := by
  by_cases h : P <;> by_cases g : Q <;> simp [h, g]
theorem own_l0 (x : Int64) : ((0 : Int64) < x) ↔ (0 < x.toInt) := by rw [Int64.lt_iff_toInt_lt]; exact Iff.rfl
theorem own_10 (q0 q1 q2 : Int64) (p3 p4 : Int32) : vM_10 q0 q1 q2 p3 p4 = 1 := by
  unfold vM_10
  have h3 : (q2 = 0 ∨ q0 = 0) → vM_3 q0 q1 q2 p3 p4 = 1 := fun h => by unfold vM_3; rw [own_e, if_pos (own_cE .l (Jvm.OwnFp.own_L1 h))]
  by_cases hd : q2 = (0 : Int64)
  · rw [if_pos hd]; exact h3 (Or.inl hd)
  rw [if_neg hd]
  by_cases ha : q0 = (0 : Int64)
  · rw [if_pos ha]; exact h3 (Or.inr ha)
  rw [if_neg ha]
  by_cases hs : (0 < q0.toInt) ↔ (0 < q2.toInt)
  · rw [if_pos (by unfold vM_4 vM_5; rw [own_bi, own_l0, own_l0]; exact hs)]
    unfold vM_6
    rw [if_pos (by rw [own_e, own_cG .l (Jvm.OwnFp.own_L2 ha hd hs)]; decide)]
  · rw [if_neg (by unfold vM_4 vM_5; rw [own_bi, own_l0, own_l0]; exact hs)]
    unfold vM_7
    rw [if_pos (by rw [own_e, own_cL .g (Jvm.OwnFp.own_L3 ha hd hs)]; decide)]
theorem own_19 (q0 q1 q2 : Int64) (p3 p4 : Int32) : vM_19 q0 q1 q2 p3 p4 = 1 := by
  unfold vM_19
  by_cases hd : q2 = (0 : Int64)
  · rw [if_pos hd]
    unfold vM_12
    rw [own_e, own_e, if_pos (own_cE .l (Jvm.OwnFp.own_L1 (Or.inl hd))), if_pos (own_cE .l (Jvm.OwnFp.own_L1 (Or.inl hd)))]
  rw [if_neg hd]
  by_cases ha : q0 = q1
  · rw [if_pos ha]
    unfold vM_13
    subst ha
    rw [own_e, if_pos (own_cE .l (Jvm.OwnFp.own_ceq (Jvm.OwnFp.own_vnn _ _) (Jvm.OwnFp.own_vnn _ _) rfl))]
  rw [if_neg ha]
  by_cases hs : (q0.toInt < q1.toInt) ↔ (0 < q2.toInt)
  · rw [if_pos (by unfold vM_14 vM_5; rw [own_bi, own_l0, Int64.lt_iff_toInt_lt]; exact hs)]
    unfold vM_15
    rw [if_neg (by
      rcases Jvm.OwnFp.own_L4 hd hs with h | h
      · rw [own_e, own_e, own_cL .g h]; decide
      · rw [own_e, own_e, own_cE .g h]; decide)]
  · rw [if_neg (by unfold vM_14 vM_5; rw [own_bi, own_l0, Int64.lt_iff_toInt_lt]; exact hs)]
    unfold vM_16
    rw [if_neg (by
      rcases Jvm.OwnFp.own_L5 hd hs with h | h
      · rw [own_e, own_e, own_cG .l h]; decide
      · rw [own_e, own_e, own_cE .l h]; decide)]
theorem own_k (p3 : Int32) : (p3 % (100000 : Int32)).toInt.natAbs ≤ 99999 := by
  have e : (100000 : Int32).toInt = 100000 := rfl
  have h := c_iremV p3 100000
  rw [e] at h
  by_cases q : 0 ≤ p3.toInt
  · have := h.1 q (by decide); omega
  · have := h.2 (by omega) (by decide); omega
theorem own_b (q0 q1 q2 : Int64) (p3 p4 : Int32) : (vM_0 q0 q1 q2 p3 p4).toInt ≠ 0 ∧ (vM_0 q0 q1 q2 p3 p4).toInt.natAbs ≤ 1024 := by
  have h := c_and p4 1023 (by decide)
  have e : (1023 : Int32).toInt = 1023 := rfl
  have e1 : (1 : Int32).toInt = 1 := rfl
  have h1 := c_iadd (p4 &&& 1023) 1
  have h2 := rng32 ((p4 &&& 1023) + 1)
  have h3 := c_ineg ((p4 &&& 1023) + 1)
  have h4 := rng32 (-((p4 &&& 1023) + 1))
  unfold vM_0
  split <;> omega
theorem own_20 (q0 q1 q2 : Int64) (p3 p4 : Int32) : vM_20 q0 q1 q2 p3 p4 = 1 := by
  unfold vM_20 vM_1
  have hb := own_b q0 q1 q2 p3 p4
  have hk := own_k p3
  generalize vM_0 q0 q1 q2 p3 p4 = b at hb
  generalize p3 % (100000 : Int32) = k at hk
  have e := Int32.toInt_toInt64 k
  have e2 := Int32.toInt_toInt64 b
  have h0 : (k.toInt * b.toInt).natAbs ≤ 99999 * 1024 := by rw [Int.natAbs_mul]; exact Nat.mul_le_mul hk hb.2
  have ha : (k.toInt64 * b.toInt64).toInt = k.toInt * b.toInt := by
    have := FP.Core.int64_mul (a := k.toInt64) (b := b.toInt64) (by rw [e, e2]; omega) (by rw [e, e2]; omega)
    rw [this, e, e2]
  rw [own_e, if_pos (own_cE .l (Jvm.OwnFp.own_L6 (k := k) (fun q => hb.1 (by rw [← e2, q]; rfl)) (by rw [e2]; omega) (by rw [ha, e2]) (by rw [ha]; omega)))]
theorem own_21 (q0 q1 q2 : Int64) (p3 p4 : Int32) : vM_21 q0 q1 q2 p3 p4 = 1 := by
  unfold vM_21 vM_2
  have hk := own_k p3
  generalize p3 % (100000 : Int32) = k at hk
  have e := Int32.toInt_toInt64 k
  have e2 : (2 : Int64).toInt = 2 := rfl
  have e1 : (1 : Int64).toInt = 1 := rfl
  have h1 := c_lmul 2 k.toInt64
  have h2 := rng64 (2 * k.toInt64)
  have h3 := c_ladd (2 * k.toInt64) 1
  have h4 := rng64 (2 * k.toInt64 + 1)
  rw [e, e2] at h1
  rw [e1] at h3
  have ha : (2 * k.toInt64 + 1).toInt = 2 * k.toInt + 1 := by omega
  rw [own_e]
  exact if_pos (own_cE .l (Jvm.OwnFp.own_L7 (k := k) ha (by omega)))

set_option maxRecDepth 65536 in
set_option maxHeartbeats 40000000 in
theorem leafM_0 (q0 : Int64) (q1 : Int64) (q2 : Int64) (p3 : Int32) (p4 : Int32) : nar .boolean (vM_25 q0 q1 q2 p3 p4) = 1 := by
  unfold vM_25
  rw [own_10, own_19, own_20, own_21]; decide
theorem efM (m : MethodId) (q0 : Int64) (q1 : Int64) (q2 : Int64) (p3 : Int32) (p4 : Int32) : entryFrame m #[(.long q0), (.long q1), (.long q2), (.int p3), (.int p4)] maxLocals = mkF m 0 #[.val (.long q0), .second, .val (.long q1), .second, .val (.long q2), .second, .val (.int p3), .val (.int p4), .unset, .unset, .unset, .unset, .unset, .unset, .unset, .unset, .unset, .unset, .unset, .unset, .unset, .unset] [] := by first | (simp [entryFrame, mkF, argsToLocals, Value.category, maxLocals]; done) | rfl
def QM (Z : State) (q0 : Int64) (q1 : Int64) (q2 : Int64) (p3 : Int32) (p4 : Int32) (h0 : Heap) (n0 : Nat) (v : Option Value) (h : Heap) : Prop := v = some (.int 1)
set_option maxRecDepth 65536 in
set_option maxHeartbeats 40000000 in
theorem rmM (l : Launch) (Z : State) (aZ : Array Value) (hw : ∀ d ∈ tables_1, d.before aZ Z = true) (q0 : Int64) (q1 : Int64) (q2 : Int64) (p3 : Int32) (p4 : Int32) (h0 : Heap) (n0 : Nat) (Z0 : n0 ≤ h0.size) :
    Ctr l Z x code maxLocals ret room_1 #[(.long q0), (.long q1), (.long q2), (.int p3), (.int p4)] h0 n0 (QM Z q0 q1 q2 p3 p4 h0 n0) := by
  refine Ctr.of_go pn3 (fun m => efM m q0 q1 q2 p3 p4) ?_
  intro p e s m below meth c hnm C
  refine g_newO C iM_0 (hw _ (List.mem_of_getElem? (i := 0) rfl)) (hw _ (List.mem_of_getElem? (i := 1) rfl)) (hw _ (List.mem_of_getElem? (i := 2) rfl)) (by decide) (by decide) rfl rfl (fun h5 b5 g5 E5 A5 D5 => ?_)
  have ge5 : n0 ≤ b5 := Nat.le_trans Z0 (Nat.le_of_eq g5.symm)
  have fr5 : h0.size ≤ b5 := Nat.le_trans (Keep.refl h0 []).1 (Nat.le_of_eq g5.symm)
  have K5 := Keep.ext (Keep.refl h0 []) E5
  have Z5 : n0 ≤ h5.size := Nat.le_trans Z0 E5.1
  have F5_dividend : Fld Z h5 b5 "com/example/linkweave/linkweave/Quotient" "dividend" "J" (.long (0 : Int64)) := D5 (Or.inr (hw _ (List.mem_of_getElem? (i := 15) rfl))) (ty := .long) (by decide)
  have F5_divisor : Fld Z h5 b5 "com/example/linkweave/linkweave/Quotient" "divisor" "J" (.long (0 : Int64)) := D5 (Or.inr (hw _ (List.mem_of_getElem? (i := 17) rfl))) (ty := .long) (by decide)
  refine g_dup C iM_3 rfl ?_
  refine g_lloadN C iM_4 rfl ?_
  refine g_lload C iM_5 rfl ?_
  refine g_callI C (rmI l Z aZ hw b5 q0 q2 (0 : Int64) (0 : Int64) h5 n0 Z5 A5 F5_dividend ge5 F5_divisor) (a := b5) iM_7 rfl (hw _ (List.mem_of_getElem? (i := 3) rfl)) (hw _ (List.mem_of_getElem? (i := 4) rfl)) (hw _ (List.mem_of_getElem? (i := 2) rfl)) (hw _ (List.mem_of_getElem? (i := 5) rfl)) rfl (by decide) (argsL := [(.long q0), (.long q2)]) (rest := [(.ref b5)]) rfl rfl pd1 rfl rfl 1 (Nat.le_of_eq rfl) (by decide) (by decide) (by decide) (by decide) rfl rfl ?_
  rintro _ h6 ⟨rfl, KC6, P6_0, P6_1, P6_2⟩
  refine Go.none' ?_
  have E_b5_cC6 := Exa.keep A5 KC6
  have K6 := Keep.trans K5 KC6 (allS (Or.inr fr5) all0)
  have Z6 : n0 ≤ h6.size := Nat.le_trans Z5 KC6.1
  have P6_1 : Fld Z h6 b5 "com/example/linkweave/linkweave/Quotient" "dividend" "J" (.long q0) := P6_1
  have P6_2 : Fld Z h6 b5 "com/example/linkweave/linkweave/Quotient" "divisor" "J" (.long q2) := P6_2
  refine g_astore C (Ls' := #[.val (.long q0), .second, .val (.long q1), .second, .val (.long q2), .second, .val (.int p3), .val (.int p4), .val (.ref b5), .unset, .unset, .unset, .unset, .unset, .unset, .unset, .unset, .unset, .unset, .unset, .unset, .unset]) iM_10 rfl rfl ?_
  refine g_newO C iM_12 (hw _ (List.mem_of_getElem? (i := 0) rfl)) (hw _ (List.mem_of_getElem? (i := 1) rfl)) (hw _ (List.mem_of_getElem? (i := 2) rfl)) (by decide) (by decide) rfl rfl (fun h7 b7 g7 E7 A7 D7 => ?_)
  have ne_b5_b7 : b5 ≠ b7 := Nat.ne_of_lt (Nat.lt_of_lt_of_le P6_0.lt (Nat.le_of_eq g7.symm))
  have ge7 : n0 ≤ b7 := Nat.le_trans Z6 (Nat.le_of_eq g7.symm)
  have fr7 : h0.size ≤ b7 := Nat.le_trans K6.1 (Nat.le_of_eq g7.symm)
  have K7 := Keep.ext K6 E7
  have Z7 : n0 ≤ h7.size := Nat.le_trans Z6 E7.1
  have E_b5_c7 := Exa.ext E7 P6_0
  have F_dividend_b5_c7 := Fld.ext E7 P6_1
  have F_divisor_b5_c7 := Fld.ext E7 P6_2
  have F7_dividend : Fld Z h7 b7 "com/example/linkweave/linkweave/Quotient" "dividend" "J" (.long (0 : Int64)) := D7 (Or.inr (hw _ (List.mem_of_getElem? (i := 15) rfl))) (ty := .long) (by decide)
  have F7_divisor : Fld Z h7 b7 "com/example/linkweave/linkweave/Quotient" "divisor" "J" (.long (0 : Int64)) := D7 (Or.inr (hw _ (List.mem_of_getElem? (i := 17) rfl))) (ty := .long) (by decide)
  refine g_dup C iM_15 rfl ?_
  refine g_lloadN C iM_16 rfl ?_
  refine g_lload C iM_17 rfl ?_
  refine g_callI C (rmI l Z aZ hw b7 q1 q2 (0 : Int64) (0 : Int64) h7 n0 Z7 A7 F7_dividend ge7 F7_divisor) (a := b7) iM_19 rfl (hw _ (List.mem_of_getElem? (i := 3) rfl)) (hw _ (List.mem_of_getElem? (i := 4) rfl)) (hw _ (List.mem_of_getElem? (i := 2) rfl)) (hw _ (List.mem_of_getElem? (i := 5) rfl)) rfl (by decide) (argsL := [(.long q1), (.long q2)]) (rest := [(.ref b7)]) rfl rfl pd1 rfl rfl 1 (Nat.le_of_eq rfl) (by decide) (by decide) (by decide) (by decide) rfl rfl ?_
  rintro _ h8 ⟨rfl, KC8, P8_0, P8_1, P8_2⟩
  refine Go.none' ?_
  have E_b5_cC8 := Exa.keep E_b5_c7 KC8
  have F_dividend_b5_cC8 := Fld.keep F_dividend_b5_c7 KC8 (ninS ne_b5_b7 nin0)
  have F_divisor_b5_cC8 := Fld.keep F_divisor_b5_c7 KC8 (ninS ne_b5_b7 nin0)
  have E_b7_cC8 := Exa.keep A7 KC8
  have K8 := Keep.trans K7 KC8 (allS (Or.inr fr7) all0)
  have Z8 : n0 ≤ h8.size := Nat.le_trans Z7 KC8.1
  have P8_1 : Fld Z h8 b7 "com/example/linkweave/linkweave/Quotient" "dividend" "J" (.long q1) := P8_1
  have P8_2 : Fld Z h8 b7 "com/example/linkweave/linkweave/Quotient" "divisor" "J" (.long q2) := P8_2
  refine g_astore C (Ls' := #[.val (.long q0), .second, .val (.long q1), .second, .val (.long q2), .second, .val (.int p3), .val (.int p4), .val (.ref b5), .val (.ref b7), .unset, .unset, .unset, .unset, .unset, .unset, .unset, .unset, .unset, .unset, .unset, .unset]) iM_22 rfl rfl ?_
  refine g_iload C iM_24 rfl ?_
  refine g_sipush C (1023 : Int32) iM_26 rfl ?_
  refine g_iand C iM_29 ?_
  refine g_iconst C (1 : Int32) iM_30 rfl ?_
  refine g_iadd C iM_31 ?_
  refine g_istore C (Ls' := #[.val (.long q0), .second, .val (.long q1), .second, .val (.long q2), .second, .val (.int p3), .val (.int p4), .val (.ref b5), .val (.ref b7), .val (.int ((p4 &&& (1023 : Int32)) + (1 : Int32))), .unset, .unset, .unset, .unset, .unset, .unset, .unset, .unset, .unset, .unset, .unset]) iM_32 rfl ?_
  refine g_iload C iM_34 rfl ?_
  refine g_sipush C (1024 : Int32) iM_36 rfl ?_
  refine g_iand C iM_39 ?_
  refine Go.join (mkF m 48 #[.val (.long q0), .second, .val (.long q1), .second, .val (.long q2), .second, .val (.int p3), .val (.int p4), .val (.ref b5), .val (.ref b7), .val (.int (vM_0 q0 q1 q2 p3 p4)), .unset, .unset, .unset, .unset, .unset, .unset, .unset, .unset, .unset, .unset, .unset] []) ?_ (fun J => ?_)
  · refine g_iload C iM_48 rfl ?_
    refine g_ldcInt C iM_50 (hw _ (List.mem_of_getElem? (i := 18) rfl)) ?_
    refine g_irem C iM_52 (by decide) ?_
    refine g_istore C (Ls' := #[.val (.long q0), .second, .val (.long q1), .second, .val (.long q2), .second, .val (.int p3), .val (.int p4), .val (.ref b5), .val (.ref b7), .val (.int (vM_0 q0 q1 q2 p3 p4)), .val (.int (p3 % (100000 : Int32))), .unset, .unset, .unset, .unset, .unset, .unset, .unset, .unset, .unset, .unset]) iM_53 rfl ?_
    refine g_newO C iM_55 (hw _ (List.mem_of_getElem? (i := 0) rfl)) (hw _ (List.mem_of_getElem? (i := 1) rfl)) (hw _ (List.mem_of_getElem? (i := 2) rfl)) (by decide) (by decide) rfl rfl (fun h9 b9 g9 E9 A9 D9 => ?_)
    have ne_b7_b9 : b7 ≠ b9 := Nat.ne_of_lt (Nat.lt_of_lt_of_le P8_0.lt (Nat.le_of_eq g9.symm))
    have ne_b5_b9 : b5 ≠ b9 := Nat.ne_of_lt (Nat.lt_of_lt_of_le E_b5_cC8.lt (Nat.le_of_eq g9.symm))
    have ge9 : n0 ≤ b9 := Nat.le_trans Z8 (Nat.le_of_eq g9.symm)
    have fr9 : h0.size ≤ b9 := Nat.le_trans K8.1 (Nat.le_of_eq g9.symm)
    have K9 := Keep.ext K8 E9
    have Z9 : n0 ≤ h9.size := Nat.le_trans Z8 E9.1
    have E_b5_c9 := Exa.ext E9 E_b5_cC8
    have F_dividend_b5_c9 := Fld.ext E9 F_dividend_b5_cC8
    have F_divisor_b5_c9 := Fld.ext E9 F_divisor_b5_cC8
    have E_b7_c9 := Exa.ext E9 P8_0
    have F_dividend_b7_c9 := Fld.ext E9 P8_1
    have F_divisor_b7_c9 := Fld.ext E9 P8_2
    have F9_dividend : Fld Z h9 b9 "com/example/linkweave/linkweave/Quotient" "dividend" "J" (.long (0 : Int64)) := D9 (Or.inr (hw _ (List.mem_of_getElem? (i := 15) rfl))) (ty := .long) (by decide)
    have F9_divisor : Fld Z h9 b9 "com/example/linkweave/linkweave/Quotient" "divisor" "J" (.long (0 : Int64)) := D9 (Or.inr (hw _ (List.mem_of_getElem? (i := 17) rfl))) (ty := .long) (by decide)
    refine g_dup C iM_58 rfl ?_
    refine g_iload C iM_59 rfl ?_
    refine g_i2l C iM_61 ?_
    refine g_iload C iM_62 rfl ?_
    refine g_i2l C iM_64 ?_
    refine g_lmul C iM_65 ?_
    refine g_iload C iM_66 rfl ?_
    refine g_i2l C iM_68 ?_
    refine g_callI C (rmI l Z aZ hw b9 (((p3 % (100000 : Int32)).toInt64) * ((vM_0 q0 q1 q2 p3 p4).toInt64)) ((vM_0 q0 q1 q2 p3 p4).toInt64) (0 : Int64) (0 : Int64) h9 n0 Z9 A9 F9_dividend ge9 F9_divisor) (a := b9) iM_69 rfl (hw _ (List.mem_of_getElem? (i := 3) rfl)) (hw _ (List.mem_of_getElem? (i := 4) rfl)) (hw _ (List.mem_of_getElem? (i := 2) rfl)) (hw _ (List.mem_of_getElem? (i := 5) rfl)) rfl (by decide) (argsL := [(.long (((p3 % (100000 : Int32)).toInt64) * ((vM_0 q0 q1 q2 p3 p4).toInt64))), (.long ((vM_0 q0 q1 q2 p3 p4).toInt64))]) (rest := [(.ref b9)]) rfl rfl pd1 rfl rfl 1 (Nat.le_of_eq rfl) (by decide) (by decide) (by decide) (by decide) rfl rfl ?_
    rintro _ h10 ⟨rfl, KC10, P10_0, P10_1, P10_2⟩
    refine Go.none' ?_
    have E_b5_cC10 := Exa.keep E_b5_c9 KC10
    have F_dividend_b5_cC10 := Fld.keep F_dividend_b5_c9 KC10 (ninS ne_b5_b9 nin0)
    have F_divisor_b5_cC10 := Fld.keep F_divisor_b5_c9 KC10 (ninS ne_b5_b9 nin0)
    have E_b7_cC10 := Exa.keep E_b7_c9 KC10
    have F_dividend_b7_cC10 := Fld.keep F_dividend_b7_c9 KC10 (ninS ne_b7_b9 nin0)
    have F_divisor_b7_cC10 := Fld.keep F_divisor_b7_c9 KC10 (ninS ne_b7_b9 nin0)
    have E_b9_cC10 := Exa.keep A9 KC10
    have K10 := Keep.trans K9 KC10 (allS (Or.inr fr9) all0)
    have Z10 : n0 ≤ h10.size := Nat.le_trans Z9 KC10.1
    have P10_1 : Fld Z h10 b9 "com/example/linkweave/linkweave/Quotient" "dividend" "J" (.long (vM_1 q0 q1 q2 p3 p4)) := P10_1
    have P10_2 : Fld Z h10 b9 "com/example/linkweave/linkweave/Quotient" "divisor" "J" (.long ((vM_0 q0 q1 q2 p3 p4).toInt64)) := P10_2
    refine g_astore C (Ls' := #[.val (.long q0), .second, .val (.long q1), .second, .val (.long q2), .second, .val (.int p3), .val (.int p4), .val (.ref b5), .val (.ref b7), .val (.int (vM_0 q0 q1 q2 p3 p4)), .val (.int (p3 % (100000 : Int32))), .val (.ref b9), .unset, .unset, .unset, .unset, .unset, .unset, .unset, .unset, .unset]) iM_72 rfl rfl ?_
    refine g_newO C iM_74 (hw _ (List.mem_of_getElem? (i := 0) rfl)) (hw _ (List.mem_of_getElem? (i := 1) rfl)) (hw _ (List.mem_of_getElem? (i := 2) rfl)) (by decide) (by decide) rfl rfl (fun h11 b11 g11 E11 A11 D11 => ?_)
    have ne_b9_b11 : b9 ≠ b11 := Nat.ne_of_lt (Nat.lt_of_lt_of_le P10_0.lt (Nat.le_of_eq g11.symm))
    have ne_b7_b11 : b7 ≠ b11 := Nat.ne_of_lt (Nat.lt_of_lt_of_le E_b7_cC10.lt (Nat.le_of_eq g11.symm))
    have ne_b5_b11 : b5 ≠ b11 := Nat.ne_of_lt (Nat.lt_of_lt_of_le E_b5_cC10.lt (Nat.le_of_eq g11.symm))
    have ge11 : n0 ≤ b11 := Nat.le_trans Z10 (Nat.le_of_eq g11.symm)
    have fr11 : h0.size ≤ b11 := Nat.le_trans K10.1 (Nat.le_of_eq g11.symm)
    have K11 := Keep.ext K10 E11
    have Z11 : n0 ≤ h11.size := Nat.le_trans Z10 E11.1
    have E_b5_c11 := Exa.ext E11 E_b5_cC10
    have F_dividend_b5_c11 := Fld.ext E11 F_dividend_b5_cC10
    have F_divisor_b5_c11 := Fld.ext E11 F_divisor_b5_cC10
    have E_b7_c11 := Exa.ext E11 E_b7_cC10
    have F_dividend_b7_c11 := Fld.ext E11 F_dividend_b7_cC10
    have F_divisor_b7_c11 := Fld.ext E11 F_divisor_b7_cC10
    have E_b9_c11 := Exa.ext E11 P10_0
    have F_dividend_b9_c11 := Fld.ext E11 P10_1
    have F_divisor_b9_c11 := Fld.ext E11 P10_2
    have F11_dividend : Fld Z h11 b11 "com/example/linkweave/linkweave/Quotient" "dividend" "J" (.long (0 : Int64)) := D11 (Or.inr (hw _ (List.mem_of_getElem? (i := 15) rfl))) (ty := .long) (by decide)
    have F11_divisor : Fld Z h11 b11 "com/example/linkweave/linkweave/Quotient" "divisor" "J" (.long (0 : Int64)) := D11 (Or.inr (hw _ (List.mem_of_getElem? (i := 17) rfl))) (ty := .long) (by decide)
    refine g_dup C iM_77 rfl ?_
    refine g_ldc2Long C iM_78 (hw _ (List.mem_of_getElem? (i := 19) rfl)) ?_
    refine g_iload C iM_81 rfl ?_
    refine g_i2l C iM_83 ?_
    refine g_lmul C iM_84 ?_
    refine g_lconst C (1 : Int64) iM_85 rfl ?_
    refine g_ladd C iM_86 ?_
    refine g_ldc2Long C iM_87 (hw _ (List.mem_of_getElem? (i := 19) rfl)) ?_
    refine g_callI C (rmI l Z aZ hw b11 (((2 : Int64) * ((p3 % (100000 : Int32)).toInt64)) + (1 : Int64)) (2 : Int64) (0 : Int64) (0 : Int64) h11 n0 Z11 A11 F11_dividend ge11 F11_divisor) (a := b11) iM_90 rfl (hw _ (List.mem_of_getElem? (i := 3) rfl)) (hw _ (List.mem_of_getElem? (i := 4) rfl)) (hw _ (List.mem_of_getElem? (i := 2) rfl)) (hw _ (List.mem_of_getElem? (i := 5) rfl)) rfl (by decide) (argsL := [(.long (((2 : Int64) * ((p3 % (100000 : Int32)).toInt64)) + (1 : Int64))), (.long (2 : Int64))]) (rest := [(.ref b11)]) rfl rfl pd1 rfl rfl 1 (Nat.le_of_eq rfl) (by decide) (by decide) (by decide) (by decide) rfl rfl ?_
    rintro _ h12 ⟨rfl, KC12, P12_0, P12_1, P12_2⟩
    refine Go.none' ?_
    have E_b5_cC12 := Exa.keep E_b5_c11 KC12
    have F_dividend_b5_cC12 := Fld.keep F_dividend_b5_c11 KC12 (ninS ne_b5_b11 nin0)
    have F_divisor_b5_cC12 := Fld.keep F_divisor_b5_c11 KC12 (ninS ne_b5_b11 nin0)
    have E_b7_cC12 := Exa.keep E_b7_c11 KC12
    have F_dividend_b7_cC12 := Fld.keep F_dividend_b7_c11 KC12 (ninS ne_b7_b11 nin0)
    have F_divisor_b7_cC12 := Fld.keep F_divisor_b7_c11 KC12 (ninS ne_b7_b11 nin0)
    have E_b9_cC12 := Exa.keep E_b9_c11 KC12
    have F_dividend_b9_cC12 := Fld.keep F_dividend_b9_c11 KC12 (ninS ne_b9_b11 nin0)
    have F_divisor_b9_cC12 := Fld.keep F_divisor_b9_c11 KC12 (ninS ne_b9_b11 nin0)
    have E_b11_cC12 := Exa.keep A11 KC12
    have K12 := Keep.trans K11 KC12 (allS (Or.inr fr11) all0)
    have Z12 : n0 ≤ h12.size := Nat.le_trans Z11 KC12.1
    have P12_1 : Fld Z h12 b11 "com/example/linkweave/linkweave/Quotient" "dividend" "J" (.long (vM_2 q0 q1 q2 p3 p4)) := P12_1
    have P12_2 : Fld Z h12 b11 "com/example/linkweave/linkweave/Quotient" "divisor" "J" (.long (2 : Int64)) := P12_2
    refine g_astore C (Ls' := #[.val (.long q0), .second, .val (.long q1), .second, .val (.long q2), .second, .val (.int p3), .val (.int p4), .val (.ref b5), .val (.ref b7), .val (.int (vM_0 q0 q1 q2 p3 p4)), .val (.int (p3 % (100000 : Int32))), .val (.ref b9), .val (.ref b11), .unset, .unset, .unset, .unset, .unset, .unset, .unset, .unset]) iM_93 rfl rfl ?_
    refine g_aload C iM_95 rfl rfl ?_
    refine g_callV C (rmV l Z aZ hw b5 q2 q0 h12 n0 Z12 F_divisor_b5_cC12 F_dividend_b5_cC12) (a := b5) iM_97 (hw _ (List.mem_of_getElem? (i := 20) rfl)) (hw _ (List.mem_of_getElem? (i := 21) rfl)) (fun s hZ => notFace_of_selects (args := #[]) (mvT hZ (hw _ (List.mem_of_getElem? (i := 23) rfl)))) (hw _ (List.mem_of_getElem? (i := 23) rfl)) (hw _ (List.mem_of_getElem? (i := 22) rfl)) (hw _ (List.mem_of_getElem? (i := 2) rfl)) (hw _ (List.mem_of_getElem? (i := 24) rfl)) (by decide) E_b5_cC12 (argsL := []) (rest := []) rfl rfl pd2 rfl rfl 0 (Nat.le_of_eq rfl) (by decide) (by decide) (by decide) (by decide) rfl rfl ?_
    rintro _ _ ⟨rfl, he13⟩
    refine Go.heap he13.symm ?_
    refine Go.some' ?_
    refine g_dstore C (Ls' := #[.val (.long q0), .second, .val (.long q1), .second, .val (.long q2), .second, .val (.int p3), .val (.int p4), .val (.ref b5), .val (.ref b7), .val (.int (vM_0 q0 q1 q2 p3 p4)), .val (.int (p3 % (100000 : Int32))), .val (.ref b9), .val (.ref b11), .val (.double (vV_0 q2 q0)), .second, .unset, .unset, .unset, .unset, .unset, .unset]) iM_100 rfl ?_
    refine g_aload C iM_102 rfl rfl ?_
    refine g_callV C (rmV l Z aZ hw b7 q2 q1 h12 n0 Z12 F_divisor_b7_cC12 F_dividend_b7_cC12) (a := b7) iM_104 (hw _ (List.mem_of_getElem? (i := 20) rfl)) (hw _ (List.mem_of_getElem? (i := 21) rfl)) (fun s hZ => notFace_of_selects (args := #[]) (mvT hZ (hw _ (List.mem_of_getElem? (i := 23) rfl)))) (hw _ (List.mem_of_getElem? (i := 23) rfl)) (hw _ (List.mem_of_getElem? (i := 22) rfl)) (hw _ (List.mem_of_getElem? (i := 2) rfl)) (hw _ (List.mem_of_getElem? (i := 24) rfl)) (by decide) E_b7_cC12 (argsL := []) (rest := []) rfl rfl pd2 rfl rfl 0 (Nat.le_of_eq rfl) (by decide) (by decide) (by decide) (by decide) rfl rfl ?_
    rintro _ _ ⟨rfl, he14⟩
    refine Go.heap he14.symm ?_
    refine Go.some' ?_
    refine g_dstore C (Ls' := #[.val (.long q0), .second, .val (.long q1), .second, .val (.long q2), .second, .val (.int p3), .val (.int p4), .val (.ref b5), .val (.ref b7), .val (.int (vM_0 q0 q1 q2 p3 p4)), .val (.int (p3 % (100000 : Int32))), .val (.ref b9), .val (.ref b11), .val (.double (vV_0 q2 q0)), .second, .val (.double (vV_0 q2 q1)), .second, .unset, .unset, .unset, .unset]) iM_107 rfl ?_
    refine g_lload C iM_109 rfl ?_
    refine g_lconst C (0 : Int64) iM_111 rfl ?_
    refine g_lcmp C iM_112 ?_
    refine Go.join (mkF m 196 #[.val (.long q0), .second, .val (.long q1), .second, .val (.long q2), .second, .val (.int p3), .val (.int p4), .val (.ref b5), .val (.ref b7), .val (.int (vM_0 q0 q1 q2 p3 p4)), .val (.int (p3 % (100000 : Int32))), .val (.ref b9), .val (.ref b11), .val (.double (vV_0 q2 q0)), .second, .val (.double (vV_0 q2 q1)), .second, .val (.int (vM_10 q0 q1 q2 p3 p4)), .unset, .unset, .unset] []) ?_ (fun J => ?_)
    · refine g_lload C iM_196 rfl ?_
      refine g_lconst C (0 : Int64) iM_198 rfl ?_
      refine g_lcmp C iM_199 ?_
      refine Go.join (mkF m 310 #[.val (.long q0), .second, .val (.long q1), .second, .val (.long q2), .second, .val (.int p3), .val (.int p4), .val (.ref b5), .val (.ref b7), .val (.int (vM_0 q0 q1 q2 p3 p4)), .val (.int (p3 % (100000 : Int32))), .val (.ref b9), .val (.ref b11), .val (.double (vV_0 q2 q0)), .second, .val (.double (vV_0 q2 q1)), .second, .val (.int (vM_10 q0 q1 q2 p3 p4)), .val (.int (vM_19 q0 q1 q2 p3 p4)), .unset, .unset] []) ?_ (fun J => ?_)
      · refine g_aload C iM_310 rfl rfl ?_
        refine g_callV C (rmV l Z aZ hw b9 ((vM_0 q0 q1 q2 p3 p4).toInt64) (vM_1 q0 q1 q2 p3 p4) h12 n0 Z12 F_divisor_b9_cC12 F_dividend_b9_cC12) (a := b9) iM_312 (hw _ (List.mem_of_getElem? (i := 20) rfl)) (hw _ (List.mem_of_getElem? (i := 21) rfl)) (fun s hZ => notFace_of_selects (args := #[]) (mvT hZ (hw _ (List.mem_of_getElem? (i := 23) rfl)))) (hw _ (List.mem_of_getElem? (i := 23) rfl)) (hw _ (List.mem_of_getElem? (i := 22) rfl)) (hw _ (List.mem_of_getElem? (i := 2) rfl)) (hw _ (List.mem_of_getElem? (i := 24) rfl)) (by decide) E_b9_cC12 (argsL := []) (rest := []) rfl rfl pd2 rfl rfl 0 (Nat.le_of_eq rfl) (by decide) (by decide) (by decide) (by decide) rfl rfl ?_
        rintro _ _ ⟨rfl, he15⟩
        refine Go.heap he15.symm ?_
        refine Go.some' ?_
        refine g_iload C iM_315 rfl ?_
        refine g_i2d C iM_317 ?_
        refine g_dcmp C iM_318 ?_
        refine Go.join (mkF m 327 #[.val (.long q0), .second, .val (.long q1), .second, .val (.long q2), .second, .val (.int p3), .val (.int p4), .val (.ref b5), .val (.ref b7), .val (.int (vM_0 q0 q1 q2 p3 p4)), .val (.int (p3 % (100000 : Int32))), .val (.ref b9), .val (.ref b11), .val (.double (vV_0 q2 q0)), .second, .val (.double (vV_0 q2 q1)), .second, .val (.int (vM_10 q0 q1 q2 p3 p4)), .val (.int (vM_19 q0 q1 q2 p3 p4)), .unset, .unset] [(.int (vM_20 q0 q1 q2 p3 p4))]) ?_ (fun J => ?_)
        · refine g_istore C (Ls' := #[.val (.long q0), .second, .val (.long q1), .second, .val (.long q2), .second, .val (.int p3), .val (.int p4), .val (.ref b5), .val (.ref b7), .val (.int (vM_0 q0 q1 q2 p3 p4)), .val (.int (p3 % (100000 : Int32))), .val (.ref b9), .val (.ref b11), .val (.double (vV_0 q2 q0)), .second, .val (.double (vV_0 q2 q1)), .second, .val (.int (vM_10 q0 q1 q2 p3 p4)), .val (.int (vM_19 q0 q1 q2 p3 p4)), .val (.int (vM_20 q0 q1 q2 p3 p4)), .unset]) iM_327 rfl ?_
          refine g_aload C iM_329 rfl rfl ?_
          refine g_callV C (rmV l Z aZ hw b11 (2 : Int64) (vM_2 q0 q1 q2 p3 p4) h12 n0 Z12 P12_2 P12_1) (a := b11) iM_331 (hw _ (List.mem_of_getElem? (i := 20) rfl)) (hw _ (List.mem_of_getElem? (i := 21) rfl)) (fun s hZ => notFace_of_selects (args := #[]) (mvT hZ (hw _ (List.mem_of_getElem? (i := 23) rfl)))) (hw _ (List.mem_of_getElem? (i := 23) rfl)) (hw _ (List.mem_of_getElem? (i := 22) rfl)) (hw _ (List.mem_of_getElem? (i := 2) rfl)) (hw _ (List.mem_of_getElem? (i := 24) rfl)) (by decide) P12_0 (argsL := []) (rest := []) rfl rfl pd2 rfl rfl 0 (Nat.le_of_eq rfl) (by decide) (by decide) (by decide) (by decide) rfl rfl ?_
          rintro _ _ ⟨rfl, he16⟩
          refine Go.heap he16.symm ?_
          refine Go.some' ?_
          refine g_iload C iM_334 rfl ?_
          refine g_i2d C iM_336 ?_
          refine g_ldc2D C iM_337 (hw _ (List.mem_of_getElem? (i := 25) rfl)) ?_
          refine g_dadd C iM_340 (Jvm.OwnFp.own_nna _) ?_
          refine g_dcmp C iM_341 ?_
          refine Go.join (mkF m 350 #[.val (.long q0), .second, .val (.long q1), .second, .val (.long q2), .second, .val (.int p3), .val (.int p4), .val (.ref b5), .val (.ref b7), .val (.int (vM_0 q0 q1 q2 p3 p4)), .val (.int (p3 % (100000 : Int32))), .val (.ref b9), .val (.ref b11), .val (.double (vV_0 q2 q0)), .second, .val (.double (vV_0 q2 q1)), .second, .val (.int (vM_10 q0 q1 q2 p3 p4)), .val (.int (vM_19 q0 q1 q2 p3 p4)), .val (.int (vM_20 q0 q1 q2 p3 p4)), .unset] [(.int (vM_21 q0 q1 q2 p3 p4))]) ?_ (fun J => ?_)
          · refine g_istore C (Ls' := #[.val (.long q0), .second, .val (.long q1), .second, .val (.long q2), .second, .val (.int p3), .val (.int p4), .val (.ref b5), .val (.ref b7), .val (.int (vM_0 q0 q1 q2 p3 p4)), .val (.int (p3 % (100000 : Int32))), .val (.ref b9), .val (.ref b11), .val (.double (vV_0 q2 q0)), .second, .val (.double (vV_0 q2 q1)), .second, .val (.int (vM_10 q0 q1 q2 p3 p4)), .val (.int (vM_19 q0 q1 q2 p3 p4)), .val (.int (vM_20 q0 q1 q2 p3 p4)), .val (.int (vM_21 q0 q1 q2 p3 p4))]) iM_350 rfl ?_
            refine g_iload C iM_352 rfl ?_
            refine Go.join (mkF m 377 #[.val (.long q0), .second, .val (.long q1), .second, .val (.long q2), .second, .val (.int p3), .val (.int p4), .val (.ref b5), .val (.ref b7), .val (.int (vM_0 q0 q1 q2 p3 p4)), .val (.int (p3 % (100000 : Int32))), .val (.ref b9), .val (.ref b11), .val (.double (vV_0 q2 q0)), .second, .val (.double (vV_0 q2 q1)), .second, .val (.int (vM_10 q0 q1 q2 p3 p4)), .val (.int (vM_19 q0 q1 q2 p3 p4)), .val (.int (vM_20 q0 q1 q2 p3 p4)), .val (.int (vM_21 q0 q1 q2 p3 p4))] [(.int (vM_25 q0 q1 q2 p3 p4))]) ?_ (fun J => ?_)
            · exact g_retNar C (t := .boolean) iM_377 rfl (by simp) (by decide) (by decide) (show _ = _ from congrArg (fun z => some (Value.int z)) (leafM_0 q0 q1 q2 p3 p4))
            · refine g_if_eq C iM_354 (fun hc354_1 => ?_) (fun hc354_1 => ?_)
              · refine g_iconst C (0 : Int32) iM_376 rfl ?_
                have e0 : (vM_25 q0 q1 q2 p3 p4) = (0 : Int32) := by simp only [vM_25, if_pos hc354_1]
                exact Go.cast J (by rw [e0])
              · refine g_iload C iM_357 rfl ?_
                refine g_if_eq C iM_359 (fun hc359_1 => ?_) (fun hc359_1 => ?_)
                · refine g_iconst C (0 : Int32) iM_376 rfl ?_
                  have e0 : (vM_25 q0 q1 q2 p3 p4) = (0 : Int32) := by simp only [vM_25, if_neg hc354_1, if_pos hc359_1]
                  exact Go.cast J (by rw [e0])
                · refine g_iload C iM_362 rfl ?_
                  refine g_if_eq C iM_364 (fun hc364_1 => ?_) (fun hc364_1 => ?_)
                  · refine g_iconst C (0 : Int32) iM_376 rfl ?_
                    have e0 : (vM_25 q0 q1 q2 p3 p4) = (0 : Int32) := by simp only [vM_25, if_neg hc354_1, if_neg hc359_1, if_pos hc364_1]
                    exact Go.cast J (by rw [e0])
                  · refine g_iload C iM_367 rfl ?_
                    refine g_if_eq C iM_369 (fun hc369_1 => ?_) (fun hc369_1 => ?_)
                    · refine g_iconst C (0 : Int32) iM_376 rfl ?_
                      have e0 : (vM_25 q0 q1 q2 p3 p4) = (0 : Int32) := by simp only [vM_25, if_neg hc354_1, if_neg hc359_1, if_neg hc364_1, if_pos hc369_1]
                      exact Go.cast J (by rw [e0])
                    · refine g_iconst C (1 : Int32) iM_372 rfl ?_
                      refine g_goto C iM_373 ?_
                      have e0 : (vM_25 q0 q1 q2 p3 p4) = (1 : Int32) := by simp only [vM_25, if_neg hc354_1, if_neg hc359_1, if_neg hc364_1, if_neg hc369_1]
                      exact Go.cast J (by rw [e0])
          · refine g_if_ne C iM_342 (fun hc342_1 => ?_) (fun hc342_1 => ?_)
            · refine g_iconst C (1 : Int32) iM_345 rfl ?_
              refine g_goto C iM_346 ?_
              have e0 : (vM_21 q0 q1 q2 p3 p4) = (1 : Int32) := by simp only [vM_21, if_pos hc342_1]
              exact Go.cast J (by rw [e0])
            · refine g_iconst C (0 : Int32) iM_349 rfl ?_
              have e0 : (vM_21 q0 q1 q2 p3 p4) = (0 : Int32) := by simp only [vM_21, if_neg hc342_1]
              exact Go.cast J (by rw [e0])
        · refine g_if_ne C iM_319 (fun hc319_1 => ?_) (fun hc319_1 => ?_)
          · refine g_iconst C (1 : Int32) iM_322 rfl ?_
            refine g_goto C iM_323 ?_
            have e0 : (vM_20 q0 q1 q2 p3 p4) = (1 : Int32) := by simp only [vM_20, if_pos hc319_1]
            exact Go.cast J (by rw [e0])
          · refine g_iconst C (0 : Int32) iM_326 rfl ?_
            have e0 : (vM_20 q0 q1 q2 p3 p4) = (0 : Int32) := by simp only [vM_20, if_neg hc319_1]
            exact Go.cast J (by rw [e0])
      · refine g_ifl_ne C iM_200 (fun hc200_1 => ?_) (fun hc200_1 => ?_)
        · refine g_dload C iM_203 rfl ?_
          refine g_dconst0 C iM_205 ?_
          refine g_dcmp C iM_206 ?_
          refine Go.join (mkF m 222 #[.val (.long q0), .second, .val (.long q1), .second, .val (.long q2), .second, .val (.int p3), .val (.int p4), .val (.ref b5), .val (.ref b7), .val (.int (vM_0 q0 q1 q2 p3 p4)), .val (.int (p3 % (100000 : Int32))), .val (.ref b9), .val (.ref b11), .val (.double (vV_0 q2 q0)), .second, .val (.double (vV_0 q2 q1)), .second, .val (.int (vM_10 q0 q1 q2 p3 p4)), .unset, .unset, .unset] [(.int (vM_12 q0 q1 q2 p3 p4))]) ?_ (fun J => ?_)
          · refine g_istore C (Ls' := #[.val (.long q0), .second, .val (.long q1), .second, .val (.long q2), .second, .val (.int p3), .val (.int p4), .val (.ref b5), .val (.ref b7), .val (.int (vM_0 q0 q1 q2 p3 p4)), .val (.int (p3 % (100000 : Int32))), .val (.ref b9), .val (.ref b11), .val (.double (vV_0 q2 q0)), .second, .val (.double (vV_0 q2 q1)), .second, .val (.int (vM_10 q0 q1 q2 p3 p4)), .val (.int (vM_12 q0 q1 q2 p3 p4)), .unset, .unset]) iM_222 rfl ?_
            refine g_goto C iM_224 ?_
            have e0 : (vM_19 q0 q1 q2 p3 p4) = (vM_12 q0 q1 q2 p3 p4) := by simp only [vM_19, if_pos hc200_1]
            exact Go.cast J (by rw [e0])
          · refine g_if_ne C iM_207 (fun hc207_1 => ?_) (fun hc207_1 => ?_)
            · refine g_dload C iM_210 rfl ?_
              refine g_dconst0 C iM_212 ?_
              refine g_dcmp C iM_213 ?_
              refine g_if_ne C iM_214 (fun hc214_1 => ?_) (fun hc214_1 => ?_)
              · refine g_iconst C (1 : Int32) iM_217 rfl ?_
                refine g_goto C iM_218 ?_
                have e0 : (vM_12 q0 q1 q2 p3 p4) = (1 : Int32) := by simp only [vM_12, if_pos hc207_1, if_pos hc214_1]
                exact Go.cast J (by rw [e0])
              · refine g_iconst C (0 : Int32) iM_221 rfl ?_
                have e0 : (vM_12 q0 q1 q2 p3 p4) = (0 : Int32) := by simp only [vM_12, if_pos hc207_1, if_neg hc214_1]
                exact Go.cast J (by rw [e0])
            · refine g_iconst C (0 : Int32) iM_221 rfl ?_
              have e0 : (vM_12 q0 q1 q2 p3 p4) = (0 : Int32) := by simp only [vM_12, if_neg hc207_1]
              exact Go.cast J (by rw [e0])
        · refine g_lloadN C iM_227 rfl ?_
          refine g_lloadN C iM_228 rfl ?_
          refine g_lcmp C iM_229 ?_
          refine g_ifl_ne C iM_230 (fun hc230_1 => ?_) (fun hc230_1 => ?_)
          · refine g_dload C iM_233 rfl ?_
            refine g_dload C iM_235 rfl ?_
            refine g_dcmp C iM_237 ?_
            refine Go.join (mkF m 246 #[.val (.long q0), .second, .val (.long q1), .second, .val (.long q2), .second, .val (.int p3), .val (.int p4), .val (.ref b5), .val (.ref b7), .val (.int (vM_0 q0 q1 q2 p3 p4)), .val (.int (p3 % (100000 : Int32))), .val (.ref b9), .val (.ref b11), .val (.double (vV_0 q2 q0)), .second, .val (.double (vV_0 q2 q1)), .second, .val (.int (vM_10 q0 q1 q2 p3 p4)), .unset, .unset, .unset] [(.int (vM_13 q0 q1 q2 p3 p4))]) ?_ (fun J => ?_)
            · refine g_istore C (Ls' := #[.val (.long q0), .second, .val (.long q1), .second, .val (.long q2), .second, .val (.int p3), .val (.int p4), .val (.ref b5), .val (.ref b7), .val (.int (vM_0 q0 q1 q2 p3 p4)), .val (.int (p3 % (100000 : Int32))), .val (.ref b9), .val (.ref b11), .val (.double (vV_0 q2 q0)), .second, .val (.double (vV_0 q2 q1)), .second, .val (.int (vM_10 q0 q1 q2 p3 p4)), .val (.int (vM_13 q0 q1 q2 p3 p4)), .unset, .unset]) iM_246 rfl ?_
              refine g_goto C iM_248 ?_
              have e0 : (vM_19 q0 q1 q2 p3 p4) = (vM_13 q0 q1 q2 p3 p4) := by simp only [vM_19, if_neg hc200_1, if_pos hc230_1]
              exact Go.cast J (by rw [e0])
            · refine g_if_ne C iM_238 (fun hc238_1 => ?_) (fun hc238_1 => ?_)
              · refine g_iconst C (1 : Int32) iM_241 rfl ?_
                refine g_goto C iM_242 ?_
                have e0 : (vM_13 q0 q1 q2 p3 p4) = (1 : Int32) := by simp only [vM_13, if_pos hc238_1]
                exact Go.cast J (by rw [e0])
              · refine g_iconst C (0 : Int32) iM_245 rfl ?_
                have e0 : (vM_13 q0 q1 q2 p3 p4) = (0 : Int32) := by simp only [vM_13, if_neg hc238_1]
                exact Go.cast J (by rw [e0])
          · refine g_lloadN C iM_251 rfl ?_
            refine g_lloadN C iM_252 rfl ?_
            refine g_lcmp C iM_253 ?_
            refine Go.join (mkF m 262 #[.val (.long q0), .second, .val (.long q1), .second, .val (.long q2), .second, .val (.int p3), .val (.int p4), .val (.ref b5), .val (.ref b7), .val (.int (vM_0 q0 q1 q2 p3 p4)), .val (.int (p3 % (100000 : Int32))), .val (.ref b9), .val (.ref b11), .val (.double (vV_0 q2 q0)), .second, .val (.double (vV_0 q2 q1)), .second, .val (.int (vM_10 q0 q1 q2 p3 p4)), .unset, .unset, .unset] [(.int (vM_14 q0 q1 q2 p3 p4))]) ?_ (fun J => ?_)
            · refine g_lload C iM_262 rfl ?_
              refine g_lconst C (0 : Int64) iM_264 rfl ?_
              refine g_lcmp C iM_265 ?_
              refine Go.join (mkF m 274 #[.val (.long q0), .second, .val (.long q1), .second, .val (.long q2), .second, .val (.int p3), .val (.int p4), .val (.ref b5), .val (.ref b7), .val (.int (vM_0 q0 q1 q2 p3 p4)), .val (.int (p3 % (100000 : Int32))), .val (.ref b9), .val (.ref b11), .val (.double (vV_0 q2 q0)), .second, .val (.double (vV_0 q2 q1)), .second, .val (.int (vM_10 q0 q1 q2 p3 p4)), .unset, .unset, .unset] [(.int (vM_5 q0 q1 q2 p3 p4)), (.int (vM_14 q0 q1 q2 p3 p4))]) ?_ (fun J => ?_)
              · refine g_icmp_ne C iM_274 (fun hc274_1 => ?_) (fun hc274_1 => ?_)
                · refine g_dload C iM_277 rfl ?_
                  refine g_dload C iM_279 rfl ?_
                  refine g_dcmp C iM_281 ?_
                  refine Go.join (mkF m 290 #[.val (.long q0), .second, .val (.long q1), .second, .val (.long q2), .second, .val (.int p3), .val (.int p4), .val (.ref b5), .val (.ref b7), .val (.int (vM_0 q0 q1 q2 p3 p4)), .val (.int (p3 % (100000 : Int32))), .val (.ref b9), .val (.ref b11), .val (.double (vV_0 q2 q0)), .second, .val (.double (vV_0 q2 q1)), .second, .val (.int (vM_10 q0 q1 q2 p3 p4)), .unset, .unset, .unset] [(.int (vM_15 q0 q1 q2 p3 p4))]) ?_ (fun J => ?_)
                  · refine g_istore C (Ls' := #[.val (.long q0), .second, .val (.long q1), .second, .val (.long q2), .second, .val (.int p3), .val (.int p4), .val (.ref b5), .val (.ref b7), .val (.int (vM_0 q0 q1 q2 p3 p4)), .val (.int (p3 % (100000 : Int32))), .val (.ref b9), .val (.ref b11), .val (.double (vV_0 q2 q0)), .second, .val (.double (vV_0 q2 q1)), .second, .val (.int (vM_10 q0 q1 q2 p3 p4)), .val (.int (vM_15 q0 q1 q2 p3 p4)), .unset, .unset]) iM_290 rfl ?_
                    refine g_goto C iM_292 ?_
                    have e0 : (vM_19 q0 q1 q2 p3 p4) = (vM_15 q0 q1 q2 p3 p4) := by simp only [vM_19, if_neg hc200_1, if_neg hc230_1, if_pos hc274_1]
                    exact Go.cast J (by rw [e0])
                  · refine g_if_gt C iM_282 (fun hc282_1 => ?_) (fun hc282_1 => ?_)
                    · refine g_iconst C (0 : Int32) iM_289 rfl ?_
                      have e0 : (vM_15 q0 q1 q2 p3 p4) = (0 : Int32) := by simp only [vM_15, if_pos hc282_1]
                      exact Go.cast J (by rw [e0])
                    · refine g_iconst C (1 : Int32) iM_285 rfl ?_
                      refine g_goto C iM_286 ?_
                      have e0 : (vM_15 q0 q1 q2 p3 p4) = (1 : Int32) := by simp only [vM_15, if_neg hc282_1]
                      exact Go.cast J (by rw [e0])
                · refine g_dload C iM_295 rfl ?_
                  refine g_dload C iM_297 rfl ?_
                  refine g_dcmp C iM_299 ?_
                  refine Go.join (mkF m 308 #[.val (.long q0), .second, .val (.long q1), .second, .val (.long q2), .second, .val (.int p3), .val (.int p4), .val (.ref b5), .val (.ref b7), .val (.int (vM_0 q0 q1 q2 p3 p4)), .val (.int (p3 % (100000 : Int32))), .val (.ref b9), .val (.ref b11), .val (.double (vV_0 q2 q0)), .second, .val (.double (vV_0 q2 q1)), .second, .val (.int (vM_10 q0 q1 q2 p3 p4)), .unset, .unset, .unset] [(.int (vM_16 q0 q1 q2 p3 p4))]) ?_ (fun J => ?_)
                  · refine g_istore C (Ls' := #[.val (.long q0), .second, .val (.long q1), .second, .val (.long q2), .second, .val (.int p3), .val (.int p4), .val (.ref b5), .val (.ref b7), .val (.int (vM_0 q0 q1 q2 p3 p4)), .val (.int (p3 % (100000 : Int32))), .val (.ref b9), .val (.ref b11), .val (.double (vV_0 q2 q0)), .second, .val (.double (vV_0 q2 q1)), .second, .val (.int (vM_10 q0 q1 q2 p3 p4)), .val (.int (vM_16 q0 q1 q2 p3 p4)), .unset, .unset]) iM_308 rfl ?_
                    have e0 : (vM_19 q0 q1 q2 p3 p4) = (vM_16 q0 q1 q2 p3 p4) := by simp only [vM_19, if_neg hc200_1, if_neg hc230_1, if_neg hc274_1]
                    exact Go.cast J (by rw [e0])
                  · refine g_if_lt C iM_300 (fun hc300_1 => ?_) (fun hc300_1 => ?_)
                    · refine g_iconst C (0 : Int32) iM_307 rfl ?_
                      have e0 : (vM_16 q0 q1 q2 p3 p4) = (0 : Int32) := by simp only [vM_16, if_pos hc300_1]
                      exact Go.cast J (by rw [e0])
                    · refine g_iconst C (1 : Int32) iM_303 rfl ?_
                      refine g_goto C iM_304 ?_
                      have e0 : (vM_16 q0 q1 q2 p3 p4) = (1 : Int32) := by simp only [vM_16, if_neg hc300_1]
                      exact Go.cast J (by rw [e0])
              · refine g_ifl_le C iM_266 (fun hc266_1 => ?_) (fun hc266_1 => ?_)
                · refine g_iconst C (1 : Int32) iM_269 rfl ?_
                  refine g_goto C iM_270 ?_
                  have e0 : (vM_5 q0 q1 q2 p3 p4) = (1 : Int32) := by simp only [vM_5, if_pos hc266_1]
                  exact Go.cast J (by rw [e0])
                · refine g_iconst C (0 : Int32) iM_273 rfl ?_
                  have e0 : (vM_5 q0 q1 q2 p3 p4) = (0 : Int32) := by simp only [vM_5, if_neg hc266_1]
                  exact Go.cast J (by rw [e0])
            · refine g_ifl_ge C iM_254 (fun hc254_1 => ?_) (fun hc254_1 => ?_)
              · refine g_iconst C (1 : Int32) iM_257 rfl ?_
                refine g_goto C iM_258 ?_
                have e0 : (vM_14 q0 q1 q2 p3 p4) = (1 : Int32) := by simp only [vM_14, if_pos hc254_1]
                exact Go.cast J (by rw [e0])
              · refine g_iconst C (0 : Int32) iM_261 rfl ?_
                have e0 : (vM_14 q0 q1 q2 p3 p4) = (0 : Int32) := by simp only [vM_14, if_neg hc254_1]
                exact Go.cast J (by rw [e0])
    · refine g_ifl_eq C iM_113 (fun hc113_1 => ?_) (fun hc113_1 => ?_)
      · refine g_dload C iM_122 rfl ?_
        refine g_dconst0 C iM_124 ?_
        refine g_dcmp C iM_125 ?_
        refine Go.join (mkF m 134 #[.val (.long q0), .second, .val (.long q1), .second, .val (.long q2), .second, .val (.int p3), .val (.int p4), .val (.ref b5), .val (.ref b7), .val (.int (vM_0 q0 q1 q2 p3 p4)), .val (.int (p3 % (100000 : Int32))), .val (.ref b9), .val (.ref b11), .val (.double (vV_0 q2 q0)), .second, .val (.double (vV_0 q2 q1)), .second, .unset, .unset, .unset, .unset] [(.int (vM_3 q0 q1 q2 p3 p4))]) ?_ (fun J => ?_)
        · refine g_istore C (Ls' := #[.val (.long q0), .second, .val (.long q1), .second, .val (.long q2), .second, .val (.int p3), .val (.int p4), .val (.ref b5), .val (.ref b7), .val (.int (vM_0 q0 q1 q2 p3 p4)), .val (.int (p3 % (100000 : Int32))), .val (.ref b9), .val (.ref b11), .val (.double (vV_0 q2 q0)), .second, .val (.double (vV_0 q2 q1)), .second, .val (.int (vM_3 q0 q1 q2 p3 p4)), .unset, .unset, .unset]) iM_134 rfl ?_
          refine g_goto C iM_136 ?_
          have e0 : (vM_10 q0 q1 q2 p3 p4) = (vM_3 q0 q1 q2 p3 p4) := by simp only [vM_10, if_pos hc113_1]
          exact Go.cast J (by rw [e0])
        · refine g_if_ne C iM_126 (fun hc126_1 => ?_) (fun hc126_1 => ?_)
          · refine g_iconst C (1 : Int32) iM_129 rfl ?_
            refine g_goto C iM_130 ?_
            have e0 : (vM_3 q0 q1 q2 p3 p4) = (1 : Int32) := by simp only [vM_3, if_pos hc126_1]
            exact Go.cast J (by rw [e0])
          · refine g_iconst C (0 : Int32) iM_133 rfl ?_
            have e0 : (vM_3 q0 q1 q2 p3 p4) = (0 : Int32) := by simp only [vM_3, if_neg hc126_1]
            exact Go.cast J (by rw [e0])
      · refine g_lloadN C iM_116 rfl ?_
        refine g_lconst C (0 : Int64) iM_117 rfl ?_
        refine g_lcmp C iM_118 ?_
        refine g_ifl_ne C iM_119 (fun hc119_1 => ?_) (fun hc119_1 => ?_)
        · refine g_dload C iM_122 rfl ?_
          refine g_dconst0 C iM_124 ?_
          refine g_dcmp C iM_125 ?_
          refine Go.join (mkF m 134 #[.val (.long q0), .second, .val (.long q1), .second, .val (.long q2), .second, .val (.int p3), .val (.int p4), .val (.ref b5), .val (.ref b7), .val (.int (vM_0 q0 q1 q2 p3 p4)), .val (.int (p3 % (100000 : Int32))), .val (.ref b9), .val (.ref b11), .val (.double (vV_0 q2 q0)), .second, .val (.double (vV_0 q2 q1)), .second, .unset, .unset, .unset, .unset] [(.int (vM_3 q0 q1 q2 p3 p4))]) ?_ (fun J => ?_)
          · refine g_istore C (Ls' := #[.val (.long q0), .second, .val (.long q1), .second, .val (.long q2), .second, .val (.int p3), .val (.int p4), .val (.ref b5), .val (.ref b7), .val (.int (vM_0 q0 q1 q2 p3 p4)), .val (.int (p3 % (100000 : Int32))), .val (.ref b9), .val (.ref b11), .val (.double (vV_0 q2 q0)), .second, .val (.double (vV_0 q2 q1)), .second, .val (.int (vM_3 q0 q1 q2 p3 p4)), .unset, .unset, .unset]) iM_134 rfl ?_
            refine g_goto C iM_136 ?_
            have e0 : (vM_10 q0 q1 q2 p3 p4) = (vM_3 q0 q1 q2 p3 p4) := by simp only [vM_10, if_neg hc113_1, if_pos hc119_1]
            exact Go.cast J (by rw [e0])
          · refine g_if_ne C iM_126 (fun hc126_1 => ?_) (fun hc126_1 => ?_)
            · refine g_iconst C (1 : Int32) iM_129 rfl ?_
              refine g_goto C iM_130 ?_
              have e0 : (vM_3 q0 q1 q2 p3 p4) = (1 : Int32) := by simp only [vM_3, if_pos hc126_1]
              exact Go.cast J (by rw [e0])
            · refine g_iconst C (0 : Int32) iM_133 rfl ?_
              have e0 : (vM_3 q0 q1 q2 p3 p4) = (0 : Int32) := by simp only [vM_3, if_neg hc126_1]
              exact Go.cast J (by rw [e0])
        · refine g_lloadN C iM_139 rfl ?_
          refine g_lconst C (0 : Int64) iM_140 rfl ?_
          refine g_lcmp C iM_141 ?_
          refine Go.join (mkF m 150 #[.val (.long q0), .second, .val (.long q1), .second, .val (.long q2), .second, .val (.int p3), .val (.int p4), .val (.ref b5), .val (.ref b7), .val (.int (vM_0 q0 q1 q2 p3 p4)), .val (.int (p3 % (100000 : Int32))), .val (.ref b9), .val (.ref b11), .val (.double (vV_0 q2 q0)), .second, .val (.double (vV_0 q2 q1)), .second, .unset, .unset, .unset, .unset] [(.int (vM_4 q0 q1 q2 p3 p4))]) ?_ (fun J => ?_)
          · refine g_lload C iM_150 rfl ?_
            refine g_lconst C (0 : Int64) iM_152 rfl ?_
            refine g_lcmp C iM_153 ?_
            refine Go.join (mkF m 162 #[.val (.long q0), .second, .val (.long q1), .second, .val (.long q2), .second, .val (.int p3), .val (.int p4), .val (.ref b5), .val (.ref b7), .val (.int (vM_0 q0 q1 q2 p3 p4)), .val (.int (p3 % (100000 : Int32))), .val (.ref b9), .val (.ref b11), .val (.double (vV_0 q2 q0)), .second, .val (.double (vV_0 q2 q1)), .second, .unset, .unset, .unset, .unset] [(.int (vM_5 q0 q1 q2 p3 p4)), (.int (vM_4 q0 q1 q2 p3 p4))]) ?_ (fun J => ?_)
            · refine g_icmp_ne C iM_162 (fun hc162_1 => ?_) (fun hc162_1 => ?_)
              · refine g_dload C iM_165 rfl ?_
                refine g_dconst0 C iM_167 ?_
                refine g_dcmp C iM_168 ?_
                refine Go.join (mkF m 177 #[.val (.long q0), .second, .val (.long q1), .second, .val (.long q2), .second, .val (.int p3), .val (.int p4), .val (.ref b5), .val (.ref b7), .val (.int (vM_0 q0 q1 q2 p3 p4)), .val (.int (p3 % (100000 : Int32))), .val (.ref b9), .val (.ref b11), .val (.double (vV_0 q2 q0)), .second, .val (.double (vV_0 q2 q1)), .second, .unset, .unset, .unset, .unset] [(.int (vM_6 q0 q1 q2 p3 p4))]) ?_ (fun J => ?_)
                · refine g_istore C (Ls' := #[.val (.long q0), .second, .val (.long q1), .second, .val (.long q2), .second, .val (.int p3), .val (.int p4), .val (.ref b5), .val (.ref b7), .val (.int (vM_0 q0 q1 q2 p3 p4)), .val (.int (p3 % (100000 : Int32))), .val (.ref b9), .val (.ref b11), .val (.double (vV_0 q2 q0)), .second, .val (.double (vV_0 q2 q1)), .second, .val (.int (vM_6 q0 q1 q2 p3 p4)), .unset, .unset, .unset]) iM_177 rfl ?_
                  refine g_goto C iM_179 ?_
                  have e0 : (vM_10 q0 q1 q2 p3 p4) = (vM_6 q0 q1 q2 p3 p4) := by simp only [vM_10, if_neg hc113_1, if_neg hc119_1, if_pos hc162_1]
                  exact Go.cast J (by rw [e0])
                · refine g_if_le C iM_169 (fun hc169_1 => ?_) (fun hc169_1 => ?_)
                  · refine g_iconst C (1 : Int32) iM_172 rfl ?_
                    refine g_goto C iM_173 ?_
                    have e0 : (vM_6 q0 q1 q2 p3 p4) = (1 : Int32) := by simp only [vM_6, if_pos hc169_1]
                    exact Go.cast J (by rw [e0])
                  · refine g_iconst C (0 : Int32) iM_176 rfl ?_
                    have e0 : (vM_6 q0 q1 q2 p3 p4) = (0 : Int32) := by simp only [vM_6, if_neg hc169_1]
                    exact Go.cast J (by rw [e0])
              · refine g_dload C iM_182 rfl ?_
                refine g_dconst0 C iM_184 ?_
                refine g_dcmp C iM_185 ?_
                refine Go.join (mkF m 194 #[.val (.long q0), .second, .val (.long q1), .second, .val (.long q2), .second, .val (.int p3), .val (.int p4), .val (.ref b5), .val (.ref b7), .val (.int (vM_0 q0 q1 q2 p3 p4)), .val (.int (p3 % (100000 : Int32))), .val (.ref b9), .val (.ref b11), .val (.double (vV_0 q2 q0)), .second, .val (.double (vV_0 q2 q1)), .second, .unset, .unset, .unset, .unset] [(.int (vM_7 q0 q1 q2 p3 p4))]) ?_ (fun J => ?_)
                · refine g_istore C (Ls' := #[.val (.long q0), .second, .val (.long q1), .second, .val (.long q2), .second, .val (.int p3), .val (.int p4), .val (.ref b5), .val (.ref b7), .val (.int (vM_0 q0 q1 q2 p3 p4)), .val (.int (p3 % (100000 : Int32))), .val (.ref b9), .val (.ref b11), .val (.double (vV_0 q2 q0)), .second, .val (.double (vV_0 q2 q1)), .second, .val (.int (vM_7 q0 q1 q2 p3 p4)), .unset, .unset, .unset]) iM_194 rfl ?_
                  have e0 : (vM_10 q0 q1 q2 p3 p4) = (vM_7 q0 q1 q2 p3 p4) := by simp only [vM_10, if_neg hc113_1, if_neg hc119_1, if_neg hc162_1]
                  exact Go.cast J (by rw [e0])
                · refine g_if_ge C iM_186 (fun hc186_1 => ?_) (fun hc186_1 => ?_)
                  · refine g_iconst C (1 : Int32) iM_189 rfl ?_
                    refine g_goto C iM_190 ?_
                    have e0 : (vM_7 q0 q1 q2 p3 p4) = (1 : Int32) := by simp only [vM_7, if_pos hc186_1]
                    exact Go.cast J (by rw [e0])
                  · refine g_iconst C (0 : Int32) iM_193 rfl ?_
                    have e0 : (vM_7 q0 q1 q2 p3 p4) = (0 : Int32) := by simp only [vM_7, if_neg hc186_1]
                    exact Go.cast J (by rw [e0])
            · refine g_ifl_le C iM_154 (fun hc154_1 => ?_) (fun hc154_1 => ?_)
              · refine g_iconst C (1 : Int32) iM_157 rfl ?_
                refine g_goto C iM_158 ?_
                have e0 : (vM_5 q0 q1 q2 p3 p4) = (1 : Int32) := by simp only [vM_5, if_pos hc154_1]
                exact Go.cast J (by rw [e0])
              · refine g_iconst C (0 : Int32) iM_161 rfl ?_
                have e0 : (vM_5 q0 q1 q2 p3 p4) = (0 : Int32) := by simp only [vM_5, if_neg hc154_1]
                exact Go.cast J (by rw [e0])
          · refine g_ifl_le C iM_142 (fun hc142_1 => ?_) (fun hc142_1 => ?_)
            · refine g_iconst C (1 : Int32) iM_145 rfl ?_
              refine g_goto C iM_146 ?_
              have e0 : (vM_4 q0 q1 q2 p3 p4) = (1 : Int32) := by simp only [vM_4, if_pos hc142_1]
              exact Go.cast J (by rw [e0])
            · refine g_iconst C (0 : Int32) iM_149 rfl ?_
              have e0 : (vM_4 q0 q1 q2 p3 p4) = (0 : Int32) := by simp only [vM_4, if_neg hc142_1]
              exact Go.cast J (by rw [e0])
  · refine g_if_eq C iM_40 (fun hc40_1 => ?_) (fun hc40_1 => ?_)
    · have e0 : (vM_0 q0 q1 q2 p3 p4) = ((p4 &&& (1023 : Int32)) + (1 : Int32)) := by simp only [vM_0, if_pos hc40_1]
      exact Go.cast J (by rw [e0])
    · refine g_iload C iM_43 rfl ?_
      refine g_ineg C iM_45 ?_
      refine g_istore C (Ls' := #[.val (.long q0), .second, .val (.long q1), .second, .val (.long q2), .second, .val (.int p3), .val (.int p4), .val (.ref b5), .val (.ref b7), .val (.int (-((p4 &&& (1023 : Int32)) + (1 : Int32)))), .unset, .unset, .unset, .unset, .unset, .unset, .unset, .unset, .unset, .unset, .unset]) iM_46 rfl ?_
      have e0 : (vM_0 q0 q1 q2 p3 p4) = (-((p4 &&& (1023 : Int32)) + (1 : Int32))) := by simp only [vM_0, if_neg hc40_1]
      exact Go.cast J (by rw [e0])
set_option maxRecDepth 65536 in
set_option maxHeartbeats 40000000 in
theorem comes_1 {Post : Tables → Env → Array Value → State → Outcome → State → Prop} (hpost : ∀ tb e args s v u, (limb_1_1.after args s (.returned v) u = true ∧ limb_1_2.after args s (.returned v) u = true ∧ True) → FrameEnd s (.returned v) u (Jvm.fieldLocs frame_1_writes args s ++ Jvm.arrayLocs frame_1_arrays args s ++ Jvm.staticLocs frame_1_statics s) 16 128 → Post tb e args s (.returned v) u) :
    ArmFor flags0 classFile x code maxLocals ret World_1 tables_1 room_1 Calls_1 rest_1 Pre_1 Post := by
  intro l hfl _ _ p e ha hc hk s m args below hf hA hF happ hP
  obtain ⟨hcalls, hrest, hpre⟩ := hP
  obtain ⟨-, -, -, hnamed, -, -, -, hat⟩ := (Spec.applies_iff hf).mp happ
  obtain ⟨hg, hn⟩ := and_e (Cond.before_iff.mp (show (Jvm.Cond.and given_1 narrow_1).before args s = true from hpre))
  obtain ⟨gg1, gg2⟩ := and_e hg
  obtain ⟨gg3, gg4⟩ := and_e gg2
  obtain ⟨gg5, gg6⟩ := and_e gg4
  obtain ⟨gg7, gg8⟩ := and_e gg6
  obtain ⟨gg9, gg10⟩ := and_e gg8
  obtain ⟨w0, w1, w2, w3, w4, rfl⟩ : ∃ w0 w1 w2 w3 w4 : Value, args = #[w0, w1, w2, w3, w4] := by
    have hs : args.size = 5 := by simpa [Cond.value, given_1] using gg1
    obtain ⟨L⟩ := args
    match L, hs with
    | [w0, w1, w2, w3, w4], _ => exact ⟨w0, w1, w2, w3, w4, rfl⟩
  have hw := fun d (hd : d ∈ tables_1) => atoms_spec (ws := Jvm.Cond.code x code maxLocals ret :: tables_1) hat d (List.mem_cons_of_mem _ hd)
  have hfit : Fit s := fun {y c} hc i hi => by
    obtain ⟨ha, rfl⟩ := Array.getElem?_eq_some_iff.mp hc
    have q := List.all_eq_true.mp ((Array.all_eq_true_iff_forall_mem.mp hF) _ (Array.getElem_mem ha)) i (List.mem_range.mpr hi)
    simpa [Array.getElem?_eq_getElem hi] using q
  obtain ⟨i0, ei0⟩ := isL_v gg3
  obtain rfl : w0 = (.long i0) := Option.some.inj ei0
  obtain ⟨i1, ei1⟩ := isL_v gg5
  obtain rfl : w1 = (.long i1) := Option.some.inj ei1
  obtain ⟨i2, ei2⟩ := isL_v gg7
  obtain rfl : w2 = (.long i2) := Option.some.inj ei2
  obtain ⟨i3, ei3⟩ := is_v gg9
  obtain rfl : w3 = (.int i3) := Option.some.inj ei3
  obtain ⟨i4, ei4⟩ := is_v gg10
  obtain rfl : w4 = (.int i4) := Option.some.inj ei4
  obtain ⟨n, o, h1, h2, h3, _, L, rfl, ⟨rfl, N⟩, hq⟩ := rmM l s _ hw i0 i1 i2 i3 i4 s.heap s.heap.size (Nat.le_refl _) tables_1 p e ha hc hk s m _ below hf ((Spec.applies_iff_loose hf).mp happ).1 ⟨rfl, State.Warmed39.refl s, rfl⟩ trivial
  refine ⟨n, _, h1, h2, h3, hpost _ _ _ _ _ _ ⟨Cond.after_iff.mpr rfl, Cond.after_iff.mpr (eq_i res_at (Term.int_eval (1)) rfl), trivial⟩ ⟨hq.1, hq.2.1, (hq.2.2.sift fun y hy => Or.inr (N y hy)).mono (by decide) (by decide)⟩⟩
theorem main_1_1 : Claimed_1_1 := comes_1 fun _ _ _ _ _ _ h hF => ⟨h.1, hF⟩
theorem main_1_2 : Claimed_1_2 := comes_1 fun _ _ _ _ _ _ h hF => ⟨h.2.1, hF⟩
end Jvm.Pilot.@@N@@
namespace Jvm.Pilot.@@N@@
open Jvm Jvm.ClassFile Sem Op Lib Jvm.Free Jvm.Stand Jvm.Pilot.@@N@@.Jvm.D
/-! MADE BY PROGRAM (witnessworld.py) out of the Statement's table words and the real class files: 11 classes; the members and pool entries that the words name. The judged class is class 1, her method 1. -/
namespace start1
open Jvm.ClassFile
def u (s : String) : CpInfo := .utf8 (stringToUtf16 s)
/-- a pool by its gaps: so many unusable entries, then the entry; so many at the end -/
def gap : Nat → List CpInfo → List CpInfo
  | 0, r => r
  | n + 1, r => .unusable :: gap n r
def poolList (es : List (Nat × CpInfo)) (last : Nat) : List CpInfo := es.foldr (fun e r => gap e.1 (e.2 :: r)) (gap last [])
def pool (es : List (Nat × CpInfo)) (last : Nat) : Array CpInfo := ⟨poolList es last⟩
def fileOf (pool : Array CpInfo) (this : Nat) (attrs : Array Attribute := #[]) (ms : Array MethodInfo := #[]) (fl : Nat := 33) (sup : Nat := 0) (ifs : Array Nat := #[]) (fds : Array FieldInfo := #[]) : ClassFile where
  minorVersion := 0
  majorVersion := 65
  constantPool := pool
  accessFlags := fl
  thisClass := this
  superClass := sup
  interfaces := ifs
  fields := fds
  methods := ms
  attributes := attrs
def plain (name : String) (sup : Option ClassId) : Class where
  name := name
  kind := .ordinary
  loader := none
  accessFlags := 33
  super := sup
  interfaces := #[]
  cf := none
  fields := #[]
  methods := #[]
  instanceTypes := #[]
  staticTypes := #[]
  resolved := #[]
  callSites := []
  init := .initialized
  statics := none
  mirror := none

def pool0 : Array CpInfo := pool [(5, u "<init>"), (0, u "()V"), (1, .class_ 10), (1, u "java/lang/Object")] 113

def k0c0 : Code := { maxStack := 0, maxLocals := 1, code := object_method_1_code, exceptionTable := #[], attributes := #[] }
def k0m0 : Method := { name := "<init>", desc := "()V", sig := { parameters := [], returnType := none }, accessFlags := 1, code := some k0c0 }
/-- java/lang/Object -/
def k0 : Class := { plain "java/lang/Object" none with
  accessFlags := 33
  interfaces := #[]
  cf := some (fileOf pool0 8 #[] #[{ accessFlags := 1, nameIndex := 5, descriptorIndex := 6, attributes := #[] }] 33 0 #[] #[])
  fields := #[]
  methods := #[k0m0]
  instanceTypes := #[]
  staticTypes := #[]
  resolved := Array.replicate 124 none
  statics := none }

def pool1 : Array CpInfo := pool [(2, .class_ 4), (1, u "java/lang/Object"), (0, u "<init>"), (0, u "()V"), (0, .class_ 8), (0, u "com/example/linkweave/linkweave/Quotient"), (0, .methodref 7 10), (0, .nameAndType 5 11), (0, u "(JJ)V"), (0, .integer 100000), (0, .long 2), (1, .methodref 7 16), (0, .nameAndType 17 18), (0, u "value"), (0, u "()D"), (0, .double 4602678819172646912), (1, .class_ 22), (0, u "com/example/linkweave/linkweave/QuotientValuePinLaw"), (2, u "law"), (0, u "(JJJII)Z")] 3

def k1m0 : Method := { name := "<init>", desc := "()V", sig := { parameters := [], returnType := none }, accessFlags := 1, code := none }
def k1c1 : Code := { maxStack := 6, maxLocals := 22, code := code, exceptionTable := #[], attributes := #[] }
def k1m1 : Method := { name := "law", desc := "(JJJII)Z", sig := { parameters := [.long, .long, .long, .int, .int], returnType := some .boolean }, accessFlags := 9, code := some k1c1 }
/-- com/example/linkweave/linkweave/QuotientValuePinLaw -/
def k1 : Class := { plain "com/example/linkweave/linkweave/QuotientValuePinLaw" (some 0) with
  accessFlags := 49
  interfaces := #[]
  cf := some (fileOf pool1 21 #[] #[{ accessFlags := 1, nameIndex := 5, descriptorIndex := 6, attributes := #[] }, { accessFlags := 9, nameIndex := 25, descriptorIndex := 26, attributes := #[] }] 49 2 #[] #[])
  fields := #[]
  methods := #[k1m0, k1m1]
  instanceTypes := #[]
  staticTypes := #[]
  resolved := Array.replicate 30 none
  statics := none }

def pool2 : Array CpInfo := pool [(1, .methodref 2 3), (0, .class_ 4), (0, .nameAndType 5 6), (0, u "java/lang/Object"), (0, u "<init>"), (0, u "()V"), (0, .class_ 8), (0, u "java/lang/Record")] 13

def k2c0 : Code := { maxStack := 1, maxLocals := 1, code := jdk_30_method_1_code, exceptionTable := #[], attributes := #[] }
def k2m0 : Method := { name := "<init>", desc := "()V", sig := { parameters := [], returnType := none }, accessFlags := 4, code := some k2c0 }
/-- java/lang/Record -/
def k2 : Class := { plain "java/lang/Record" (some 0) with
  accessFlags := 1057
  interfaces := #[]
  cf := some (fileOf pool2 7 #[] #[{ accessFlags := 4, nameIndex := 5, descriptorIndex := 6, attributes := #[] }] 1057 2 #[] #[])
  fields := #[]
  methods := #[k2m0]
  instanceTypes := #[]
  staticTypes := #[]
  resolved := Array.replicate 22 none
  statics := none }

def pool3 : Array CpInfo := pool [(1, .class_ 2), (0, u "java/lang/Comparable"), (0, .class_ 4), (0, u "java/lang/Object")] 7

/-- java/lang/Comparable -/
def k3 : Class := { plain "java/lang/Comparable" (some 0) with
  accessFlags := 1537
  interfaces := #[]
  cf := some (fileOf pool3 1 #[] #[] 1537 3 #[] #[])
  fields := #[]
  methods := #[]
  instanceTypes := #[]
  staticTypes := #[]
  resolved := Array.replicate 12 none
  statics := none }

def pool4 : Array CpInfo := pool [(1, .methodref 2 3), (0, .class_ 4), (0, .nameAndType 5 6), (0, u "java/lang/Record"), (0, u "<init>"), (0, u "()V"), (0, .fieldref 8 9), (0, .class_ 10), (0, .nameAndType 11 12), (0, u "com/example/linkweave/linkweave/Quotient"), (0, u "dividend"), (0, u "J"), (0, .fieldref 8 14), (0, .nameAndType 15 12), (0, u "divisor"), (19, u "(JJ)V"), (73, .class_ 110), (0, u "java/lang/Comparable"), (0, u "DECIMALS"), (0, u "I"), (5, u "value"), (0, u "()D")] 33

def k4c0 : Code := { maxStack := 3, maxLocals := 5, code := prog_33_method_1_code, exceptionTable := #[], attributes := #[] }
def k4m0 : Method := { name := "<init>", desc := "(JJ)V", sig := { parameters := [.long, .long], returnType := none }, accessFlags := 0, code := some k4c0 }
def k4c1 : Code := { maxStack := 4, maxLocals := 1, code := prog_33_method_2_code, exceptionTable := #[], attributes := #[] }
def k4m1 : Method := { name := "value", desc := "()D", sig := { parameters := [], returnType := some .double }, accessFlags := 0, code := some k4c1 }
/-- com/example/linkweave/linkweave/Quotient -/
def k4 : Class := { plain "com/example/linkweave/linkweave/Quotient" (some 2) with
  accessFlags := 48
  interfaces := #[3]
  cf := some (fileOf pool4 8 #[] #[{ accessFlags := 0, nameIndex := 5, descriptorIndex := 35, attributes := #[] }, { accessFlags := 0, nameIndex := 118, descriptorIndex := 119, attributes := #[] }] 48 2 #[109] #[{ accessFlags := 18, nameIndex := 11, descriptorIndex := 12, attributes := #[] }, { accessFlags := 18, nameIndex := 15, descriptorIndex := 12, attributes := #[] }, { accessFlags := 26, nameIndex := 111, descriptorIndex := 112, attributes := #[] }])
  fields := #[{ name := "dividend", type := .long, accessFlags := 18, slot := 0, constantValue := 0 }, { name := "divisor", type := .long, accessFlags := 18, slot := 1, constantValue := 0 }, { name := "DECIMALS", type := .int, accessFlags := 26, slot := 0, constantValue := 0 }]
  methods := #[k4m0, k4m1]
  instanceTypes := #[.long, .long]
  staticTypes := #[.int]
  resolved := Array.replicate 153 none
  statics := none }

def pool5 : Array CpInfo := pool [(1, u "java/lang/Cloneable"), (0, .class_ 1), (0, u "java/lang/Object"), (0, .class_ 3)] 3

/-- java/lang/Cloneable -/
def k5 : Class := { plain "java/lang/Cloneable" (some 0) with
  accessFlags := 1537
  interfaces := #[]
  cf := some (fileOf pool5 2 #[] #[] 1537 4 #[] #[])
  fields := #[]
  methods := #[]
  instanceTypes := #[]
  staticTypes := #[]
  resolved := Array.replicate 8 none
  statics := none }

def pool6 : Array CpInfo := pool [(1, u "java/io/Serializable"), (0, .class_ 1), (0, u "java/lang/Object"), (0, .class_ 3)] 3

/-- java/io/Serializable -/
def k6 : Class := { plain "java/io/Serializable" (some 0) with
  accessFlags := 1537
  interfaces := #[]
  cf := some (fileOf pool6 2 #[] #[] 1537 4 #[] #[])
  fields := #[]
  methods := #[]
  instanceTypes := #[]
  staticTypes := #[]
  resolved := Array.replicate 8 none
  statics := none }

/-- the primitive byte -/
def k7 : Class := { plain "byte" none with kind := .primitive 'B', accessFlags := 0x411 }
/-- [B -/
def k8 : Class := { plain "[B" (some 0) with kind := .array 7 .byte, interfaces := #[5, 6], accessFlags := 1041 }

/-- the primitive int -/
def k9 : Class := { plain "int" none with kind := .primitive 'I', accessFlags := 0x411 }
/-- [I -/
def k10 : Class := { plain "[I" (some 0) with kind := .array 9 .int, interfaces := #[5, 6], accessFlags := 1041 }

def heap : Heap := #[]
def classes : Array Class := #[k0, k1, k2, k3, k4, k5, k6, k7, k8, k9, k10]
def interned : List (Array UInt16 × Addr) := []
def slotsUsed : Nat := 0
def theMethod : MethodId := ⟨1, 1⟩
def args0 : Array Value := #[.long 7, .long 9, .long 2, .int 3, .int 4]
def aboutOver (below : List Frame) : State where
  vm := { classes := classes, interned := interned.toArray }
  heap := heap
  slotsUsed := slotsUsed
  threads := #[{ frames := .invoking theMethod args0 :: below }]
def below0 : List Frame := [.native { method := ⟨0, 0⟩, args := #[] }]
def about1 : State := aboutOver below0
def p0 : Program := .bare "" "" ""
def e0 : Env := launch0.env 0 0 0
theorem w_frames : about1.frames = Frame.invoking theMethod args0 :: below0 := rfl
set_option maxRecDepth 65536 in
theorem w_args : argsFit about1.vm theMethod args0 = true := by decide +kernel
set_option maxRecDepth 65536 in
theorem w_heap : heapFits about1 = true := by decide +kernel
set_option maxRecDepth 65536 in
theorem w_runnable : about1.curStatus? = some .runnable := by decide +kernel
set_option maxRecDepth 65536 in
theorem w_alone : about1.alone = true := by decide +kernel
set_option maxRecDepth 65536 in
theorem w_named : about1.methodNamed? x = some theMethod := by decide +kernel
set_option maxRecDepth 65536 in
theorem w_hears : about1.hears theMethod below0 = true := by decide +kernel
set_option maxRecDepth 65536 in
theorem w_ripe : about1.ripe theMethod args0 below0 = true := by decide +kernel
theorem w_running : about1.status = .running := rfl
set_option maxRecDepth 65536 in
theorem w_room : about1.hasRoom e0.platform room_1 = true :=
  launch0.hasRoom_least _ room_1 (by decide +kernel) (by decide +kernel) (by decide +kernel) (by decide +kernel) (by decide +kernel) (by decide +kernel)
theorem allAtoms_all (ts : List Jvm.Cond) (a : Array Jvm.Value) (st : Jvm.State) : (allAtoms ts).before a st = ts.all (fun c => c.before a st) := by
  induction ts with
  | nil => rfl
  | cons c t ih =>
    show (Jvm.Cond.and c (allAtoms t)).before a st = _
    rw [Jvm.Cond.before_and, ih, List.all_cons]
def words1 : List Jvm.Cond := Jvm.Cond.code x code maxLocals ret :: tables_1
/-- a 'code' word, met by the world's own term for the bytes: nothing is compared byte by byte -/
theorem code_word {y : MethodName} {bytes : ByteArray} {mx : Nat} {rt : Option FieldType} {a : Array Value} {s : State} {m : MethodId} {meth : Method} {c : Code} (h1 : s.methodNamed? y = some m) (h2 : s.vm.method? m = some meth) (h3 : meth.code = some c) (h4 : c.code = bytes)
    (h5 : (c.maxLocals == mx && c.exceptionTable.isEmpty && decide (c.maxStack ≤ mostOperands) && decide (meth.sig.returnType = rt) && !meth.locks && decide (parseMethodDescriptor y.desc = some meth.sig)) = true) : (Jvm.Cond.code y bytes mx rt).before a s = true := by
  simp only [Bool.and_eq_true, beq_iff_eq, Bool.not_eq_true', decide_eq_true_eq] at h5
  obtain ⟨⟨⟨⟨⟨g1, g2⟩, g3⟩, g4⟩, g5⟩, g6⟩ := h5
  simp [Cond.before, Cond.holds, Cond.value, h1, h2, h3, h4, g1, g2, g3, g4, g5, g6]
def isCode : Jvm.Cond → Bool
  | .code _ _ _ _ => true
  | _ => false
theorem all_split {L : List Jvm.Cond} {P : Jvm.Cond → Bool} (h1 : L.all (fun c => isCode c || P c) = true) (h2 : ∀ c ∈ L.filter isCode, P c = true) : L.all P = true := by
  refine List.all_eq_true.mpr fun c hc => ?_
  have h := List.all_eq_true.mp h1 c hc
  rcases Bool.eq_false_or_eq_true (isCode c) with hi | hi
  · exact h2 c (List.mem_filter.mpr ⟨hc, hi⟩)
  · simpa [hi] using h
set_option maxRecDepth 65536 in
theorem w_c0 : (Jvm.Cond.code x code maxLocals ret).before args0 about1 = true := code_word (m := ⟨1, 1⟩) (meth := k1m1) (c := k1c1) (by decide +kernel) rfl rfl rfl (by decide +kernel)
set_option maxRecDepth 65536 in
theorem w_c1 : (Jvm.Cond.code ({ cls := "com/example/linkweave/linkweave/Quotient", name := "<init>", desc := "(JJ)V" } : Jvm.MethodName) prog_33_method_1_code (5 : Nat) (Option.none : Option Jvm.ClassFile.FieldType)).before args0 about1 = true := code_word (m := ⟨4, 0⟩) (meth := k4m0) (c := k4c0) (by decide +kernel) rfl rfl rfl (by decide +kernel)
set_option maxRecDepth 65536 in
theorem w_c2 : (Jvm.Cond.code ({ cls := "java/lang/Record", name := "<init>", desc := "()V" } : Jvm.MethodName) jdk_30_method_1_code (1 : Nat) (Option.none : Option Jvm.ClassFile.FieldType)).before args0 about1 = true := code_word (m := ⟨2, 0⟩) (meth := k2m0) (c := k2c0) (by decide +kernel) rfl rfl rfl (by decide +kernel)
set_option maxRecDepth 65536 in
theorem w_c3 : (Jvm.Cond.code ({ cls := "java/lang/Object", name := "<init>", desc := "()V" } : Jvm.MethodName) object_method_1_code (1 : Nat) (Option.none : Option Jvm.ClassFile.FieldType)).before args0 about1 = true := code_word (m := ⟨0, 0⟩) (meth := k0m0) (c := k0c0) (by decide +kernel) rfl rfl rfl (by decide +kernel)
set_option maxRecDepth 65536 in
theorem w_c4 : (Jvm.Cond.code ({ cls := "com/example/linkweave/linkweave/Quotient", name := "value", desc := "()D" } : Jvm.MethodName) prog_33_method_2_code (1 : Nat) (Option.some Jvm.ClassFile.FieldType.double)).before args0 about1 = true := code_word (m := ⟨4, 1⟩) (meth := k4m1) (c := k4c1) (by decide +kernel) rfl rfl rfl (by decide +kernel)
def codes1 : List Jvm.Cond := [Jvm.Cond.code x code maxLocals ret, Jvm.Cond.code ({ cls := "com/example/linkweave/linkweave/Quotient", name := "<init>", desc := "(JJ)V" } : Jvm.MethodName) prog_33_method_1_code (5 : Nat) (Option.none : Option Jvm.ClassFile.FieldType), Jvm.Cond.code ({ cls := "java/lang/Record", name := "<init>", desc := "()V" } : Jvm.MethodName) jdk_30_method_1_code (1 : Nat) (Option.none : Option Jvm.ClassFile.FieldType), Jvm.Cond.code ({ cls := "java/lang/Object", name := "<init>", desc := "()V" } : Jvm.MethodName) object_method_1_code (1 : Nat) (Option.none : Option Jvm.ClassFile.FieldType), Jvm.Cond.code ({ cls := "com/example/linkweave/linkweave/Quotient", name := "value", desc := "()D" } : Jvm.MethodName) prog_33_method_2_code (1 : Nat) (Option.some Jvm.ClassFile.FieldType.double)]
set_option maxRecDepth 65536 in
theorem codes_eq : words1.filter isCode = codes1 := rfl
theorem w_codes : ∀ c ∈ words1.filter isCode, c.before args0 about1 = true := by
  rw [codes_eq]
  intro c hc
  simp only [codes1, List.mem_cons, List.not_mem_nil, or_false] at hc
  rcases hc with rfl | rfl | rfl | rfl | rfl
  · exact w_c0
  · exact w_c1
  · exact w_c2
  · exact w_c3
  · exact w_c4
set_option maxRecDepth 65536 in
theorem w_t1 : (words1.take 24).all (fun c => isCode c || c.before args0 about1) = true := by decide +kernel
set_option maxRecDepth 65536 in
theorem w_t2 : (words1.drop 24).all (fun c => isCode c || c.before args0 about1) = true := by decide +kernel
theorem w_tables : (allAtoms (Jvm.Cond.code x code maxLocals ret :: tables_1)).before args0 about1 = true := by
  rw [allAtoms_all]
  show words1.all (fun c => c.before args0 about1) = true
  refine all_split ?_ w_codes
  rw [← List.take_append_drop 24 words1, List.all_append, w_t1, w_t2]
  rfl
set_option maxRecDepth 65536 in
theorem w_case : (Jvm.Cond.and given_1 narrow_1).before args0 about1 = true := by decide +kernel
theorem w_applies : (headSpec (Jvm.Cond.code x code maxLocals ret :: tables_1) room_1).applies x e0.platform about1 = true :=
  (Spec.applies_iff w_frames).mpr ⟨w_running, w_runnable, w_alone, w_named, w_hears, w_ripe, w_room, w_tables⟩
theorem atStart : AtStart classFile x code maxLocals ret World_1 tables_1 room_1 Calls_1 rest_1 Pre_1 launch0 p0 e0 about1 theMethod args0 below0 :=
  ⟨lists_1, trivial, launch0.admits_env _ _ _, launch0.least_env, fairChoices_fair.cas, fairChoices_fair.clock, w_frames, w_args, w_heap, w_applies, trivial, trivial, w_case⟩
end start1
theorem witness_1 : WitnessClaimed_1 := ⟨start1.p0, start1.e0, start1.about1, start1.theMethod, start1.args0, start1.below0, start1.atStart⟩
end Jvm.Pilot.@@N@@
